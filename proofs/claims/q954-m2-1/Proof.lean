import JvmDerived
import JvmDerived.Pilot.@@N@@Statement
import JvmDerived.Pilot.@@N@@Code
set_option linter.unusedVariables false
set_option linter.unusedSimpArgs false
namespace Jvm.OwnKit
open Jvm Sem ClassFile Op Lib Jvm.Stand Jvm.Free Jvm.LawKit Jvm.RoadKit Bundle
/-- the rest of the walk comes to an end that Q allows -/
def Go (p : Program) (e : Env) (below : List Frame) (Q : Outcome → State → Prop) (t : State) : Prop :=
  ∃ s₂ o, Steps p.tables e below t s₂ ∧ s₂.status = .running ∧ Ended s₂ below o ∧ Q o s₂
theorem Go.of {p : Program} {e : Env} {below : List Frame} {Q : Outcome → State → Prop} {t t' : State} (h : ∀ target, Steps p.tables e below t' target → Steps p.tables e below t target) (g : Go p e below Q t') : Go p e below Q t := by
  obtain ⟨s₂, o, h1, r⟩ := g
  exact ⟨s₂, o, h _ h1, r⟩
/-- where the walk stands: T the state, V the tables on which it leans, h the heap, k cells and n slots booked -/
def St (p : Program) (l : Launch) (e : Env) (R : Room) (s : State) (m : MethodId) (args : Array Value) (below : List Frame) (meth : Method) (c : Code) (Z : State) (a0 : Array Value) (EL : List (String × Nat)) (n0 : Nat) (own : String) (T : State) (V : Vm) (h : Heap) (k n : Nat) : Prop :=
  p.tables.exec = Jvm.exec ∧ T.heap = h ∧ Z.Warmed39 V ∧ V.findClass own = some m.cls ∧ Old Z n0 h ∧ EW Z a0 EL ∧ CHr Z EL s.vm s.heap V h ∧ meth.locks = false ∧
  ∃ locs k0, Stand p l e R (s.setVm V) m args below meth c T locs k n ∧ s.Since V k0 ∧ k0 ≤ h.size ∧ Fr n0 locs
/-- the end of a walk -/
def FiniV (Z : State) (EL : List (String × Nat)) (n0 : Nat) (s : State) (rm : Room) (Q : Option Value → Heap → Vm → Prop) (o : Outcome) (U : State) : Prop :=
  ∃ v L, o = .returned v ∧ (Q v U.heap U.vm ∧ Fr n0 L ∧ Old Z n0 U.heap) ∧ CHr Z EL s.vm s.heap U.vm U.heap ∧ ReturnedEndW s o U L rm.cells rm.slots
abbrev Fini (Z : State) (EL : List (String × Nat)) (n0 : Nat) (s : State) (rm : Room) (Q : Option Value → Heap → Prop) : Outcome → State → Prop := FiniV Z EL n0 s rm (fun v h _ => Q v h)
/-- a callee's contract: handed as' at the heap h it returns v at a heap h' with Q v h' (and the tables there) -/
def CtrV (l : Launch) (Z : State) (EL : List (String × Nat)) (n0 : Nat) (y : MethodName) (bytes : ByteArray) (maxL : Nat) (ret : Option FieldType) (rm : Room) (as' : Array Value) (h : Heap) (sfs : List Addr) (Q : Option Value → Heap → Vm → Prop) : Prop :=
  ∀ ws : List Cond, MetFree l y (head1 (Cond.code y bytes maxL ret :: ws) rm) (fun a U => a = as' ∧ Z.Warmed39 U.vm ∧ U.heap = h ∧ CHv Z EL U.vm h ∧ ∀ x ∈ sfs, Safe Z EL U.vm h x) (fun _ _ _ _ _ => True) (fun _ U o U' => FiniV Z EL n0 U rm Q o U')
abbrev Ctr (l : Launch) (Z : State) (EL : List (String × Nat)) (n0 : Nat) (y : MethodName) (bytes : ByteArray) (maxL : Nat) (ret : Option FieldType) (rm : Room) (as' : Array Value) (h : Heap) (sfs : List Addr) (Q : Option Value → Heap → Prop) : Prop := CtrV l Z EL n0 y bytes maxL ret rm as' h sfs (fun v h _ => Q v h)
theorem ext_refl (h : Heap) : Ext h h := ⟨Nat.le_refl _, fun _ _ q => q⟩
theorem ext_trans {h h' h2 : Heap} (E : Ext h h') (F : Ext h' h2) : Ext h h2 := ⟨Nat.le_trans E.1 F.1, fun a c q => F.2 a c (E.2 a c q)⟩
theorem ext_keep {h h' h2 : Heap} {ws : List Addr} (E : Ext h h') (K : Keep h' h2 ws) (q : ∀ x ∈ ws, h.size ≤ x) : Ext h h2 := ⟨Nat.le_trans E.1 K.1, fun a c r => K.2.1 a c (E.2 a c r) fun z => absurd (Array.getElem?_eq_some_iff.mp r).1 (Nat.not_lt.mpr (q a z))⟩
theorem ext_keep1 {h h' h2 : Heap} {a : Addr} (E : Ext h h') (K : Keep h' h2 [a]) (q : h.size ≤ a) : Ext h h2 := ext_keep E K (allS q all0)
/-- arrays of two kinds are two -/
theorem arv_kne {Z : State} {h : Heap} {a b : Addr} {k1 k2 : ClassId} {t1 t2 : FieldType} {z1 z2 : Int32} {v1 v2 : List Value} {d1 d2 : Value} (A : Arv Z h a k1 t1 z1 v1 d1) (B : Arv Z h b k2 t2 z2 v2 d2) (hn : t1 ≠ t2) : a ≠ b := fun e => by
  subst e
  obtain ⟨c1, ⟨a1, ⟨-, kA, hkA, compA, hkindA⟩, -⟩, -⟩ := A
  obtain ⟨c2, ⟨b1, ⟨-, kB, hkB, compB, hkindB⟩, -⟩, -⟩ := B
  cases a1.symm.trans b1
  cases hkA.symm.trans hkB
  have q := hkindA.symm.trans hkindB
  injection q with _ e
  exact hn e
theorem faS {P : Int32 → Prop} {y : Int32} {L : List Int32} (q : P y) (r : ∀ x ∈ L, P x) : ∀ x ∈ y :: L, P x := fun x z => (List.mem_cons.mp z).elim (fun u => u ▸ q) (r x)
theorem fa0 {P : Int32 → Prop} : ∀ x ∈ ([] : List Int32), P x := fun _ q => nomatch q
theorem sf1 {Z : State} {EL : List (String × Nat)} {V : Vm} {h : Heap} {x : Addr} (q : x < h.size) (r : Safe Z EL V h x) : ∀ y ∈ [x], y < h.size ∧ Safe Z EL V h y := fun y z => by cases List.mem_singleton.mp z; exact ⟨q, r⟩
theorem narC {x : Int32} (h : ¬ x < 0 ∧ ¬ (65535 : Int32) < x) : nar .char x = x := by
  obtain ⟨h1, h2⟩ := h
  have q := c_i2c x
  rw [Int32.lt_iff_toInt_lt] at h1 h2
  have e1 : (65535 : Int32).toInt = 65535 := rfl
  have e2 : (0 : Int32).toInt = 0 := rfl
  show x.toUInt32.toUInt16.toUInt32.toInt32 = x
  apply Int32.toInt_inj.mp
  omega
theorem narC8 {x : Int32} (h : ¬ x < 0 ∧ ¬ (255 : Int32) < x) : nar .char x = x := narC ⟨h.1, fun q => h.2 (by rw [Int32.lt_iff_toInt_lt] at q ⊢; have e1 : (65535 : Int32).toInt = 65535 := rfl; have e2 : (255 : Int32).toInt = 255 := rfl; omega)⟩
/-- x & 255 -/
theorem and255 (x : Int32) : ¬ (x &&& 255) < 0 ∧ ¬ (255 : Int32) < (x &&& 255) := by
  have q := c_mask x 255 8 (by decide) (by decide)
  have e1 : (255 : Int32).toInt = 255 := rfl
  have e2 : (0 : Int32).toInt = 0 := rfl
  rw [Int32.lt_iff_toInt_lt, Int32.lt_iff_toInt_lt]
  omega
theorem and255L (x : Int64) : ¬ (x &&& 255).toInt32 < 0 ∧ ¬ (255 : Int32) < (x &&& 255).toInt32 := by
  have q := c_maskL x 255 8 (by decide) (by decide)
  have r := c_l2i (x &&& 255)
  have s := rng32 (x &&& 255).toInt32
  have e1 : (255 : Int32).toInt = 255 := rfl
  have e2 : (0 : Int32).toInt = 0 := rfl
  rw [Int32.lt_iff_toInt_lt, Int32.lt_iff_toInt_lt]
  omega
/-- an object of a class right under the root is none of another class -/
theorem noSub1 {Z : State} {a0 : Array Value} {C O K : String} {n : Nat} (w : (Cond.superclass C O).before a0 Z = true) (wo : (Cond.noSuperclass O).before a0 Z = true) (wi : (Cond.instantiable K n).before a0 Z = true) (h1 : C ≠ K) (h2 : O ≠ K) : ∃ c t, Z.vm.findClass C = some c ∧ Z.vm.findClass K = some t ∧ Z.vm.assignable c t = false := by
  obtain ⟨t, kt, g1, g2, g3, g4, -⟩ := Cond.instantiable_spec wi
  obtain ⟨co, ko, o1, o2, o3, -, -⟩ := Cond.noSuperclass_spec wo
  have g5 : kt.isInterface = false := (Bool.or_eq_false_iff.mp g4).1
  have nO : NS Z O K := ⟨co, t, o1, g1, fun fuel => by
    cases fuel with
    | zero => rfl
    | succ f => simp [Vm.isSubclassAux, ids_ne o1 g1 h2, o2, o3]⟩
  obtain ⟨c, t', h0, g0, n3⟩ := NS.step w nO h1
  cases g1.symm.trans g0
  obtain ⟨p, k, kp, q1, q2, q3, q4, q5, -, q7⟩ := Cond.superclass_spec h0 w
  refine ⟨c, t, h0, g1, ?_⟩
  show Z.vm.assignableAux (255 + 1) c t = false
  simp [Vm.assignableAux, ids_ne h0 g1 h1, q2, g2, q5, g3, g5, Vm.isSubclass, n3]
/-- a class that is no interface -/
def NI (Z : State) (K : String) : Prop := ∃ c k, Z.vm.findClass K = some c ∧ Z.vm.classes[c]? = some k ∧ k.isInterface = false
theorem ni_inst {Z : State} {a0 : Array Value} {K : String} {n : Nat} (w : (Cond.instantiable K n).before a0 Z = true) : NI Z K := by
  obtain ⟨c, k, g1, g2, -, g4, -⟩ := Cond.instantiable_spec w
  exact ⟨c, k, g1, g2, (Bool.or_eq_false_iff.mp g4).1⟩
theorem ni_sel {Z : State} {a0 : Array Value} {C : String} {y z : MethodName} (w : (Cond.selects C y z).before a0 Z = true) {K : String} (e : z.cls = K) : NI Z K := by
  subst e
  obtain ⟨-, -, m, -, -, g3, -, mk, g5, g6⟩ := Cond.selects_spec w
  exact ⟨m.cls, mk, findClass_of_methodNamed g3, g5, g6⟩
theorem NI.mv {Z : State} {V : Vm} {K : String} (N : NI Z K) (hZ : Z.Warmed39 V) : ∃ c k, V.findClass K = some c ∧ V.classes[c]? = some k ∧ k.isInterface = false := by
  obtain ⟨c, k, g1, g2, g3⟩ := N
  obtain ⟨k', hk', ek⟩ := hZ.alike.2.2 _ _ g2
  exact ⟨c, k', by rw [hZ.alike.findClass]; exact g1, hk', by rw [ek]; exact g3⟩
theorem same_own {Z : State} {a0 : Array Value} {y : MethodName} (N : NI Z y.cls) (wi : (Cond.instanceMethod y).before a0 Z = true) (hy : y.cls ≠ "java/lang/invoke/MethodHandle" ∧ y.cls ≠ "java/lang/invoke/VarHandle") : (Cond.sameMethod y.cls y.cls y.name y.desc).before a0 Z = true := by
  obtain ⟨c, k, g1, g2, g3⟩ := N
  obtain ⟨m, meth, h1, -⟩ := Cond.instanceMethod_spec wi
  have h2 := State.methodFound?_of_named h1 hy
  simp [Cond.before, Cond.holds, Cond.value, g1, h1, h2, g2, g3]
theorem sel_own {Z : State} {a0 : Array Value} {V : Vm} (hZ : Z.Warmed39 V) {s : State} (e : s.vm = V) {args : Array Value} {y : MethodName} (N : NI Z y.cls) (wi : (Cond.instanceMethod y).before args s = true) (wp : s.PrivateAt y) (hy : y.cls ≠ "java/lang/invoke/MethodHandle" ∧ y.cls ≠ "java/lang/invoke/VarHandle") : (Cond.selects y.cls y y).before args s = true := by
  subst e
  obtain ⟨c, k, g1, g2, g3⟩ := N.mv hZ
  obtain ⟨m, meth, h1, h3, -⟩ := Cond.instanceMethod_spec wi
  have h2 := State.methodFound?_of_named h1 hy
  have h4 : selectMethod {} s.vm c m = .method m := selectMethod_private h3 (wp m meth h1 h3)
  have h5 := findClass_of_methodNamed h1
  cases g1.symm.trans h5
  simp [Cond.before, Cond.holds, Cond.value, g1, h1, h2, h4, g2, g3]
section Steps
variable {p : Program} {l : Launch} {e : Env} {R : Room} {s : State} {m : MethodId} {args : Array Value} {below : List Frame} {meth : Method} {c : Code} {Z : State} {a0 : Array Value} {EL : List (String × Nat)} {n0 : Nat} {own : String} {T : State} {V : Vm} {h : Heap} {k n : Nat} {Q : Outcome → State → Prop} {pc : Nat} {Ls : Array Slot} {rest : List Value}
theorem St.hx (S : St p l e R s m args below meth c Z a0 EL n0 own T V h k n) : p.tables.exec = Jvm.exec := S.1
theorem St.here (S : St p l e R s m args below meth c Z a0 EL n0 own T V h k n) : At T m c below := by
  obtain ⟨-, -, -, -, -, -, -, -, locs, k0, X, -⟩ := S; exact X.here
theorem St.old (S : St p l e R s m args below meth c Z a0 EL n0 own T V h k n) : Old Z n0 h := S.2.2.2.2.1
theorem St.chv (S : St p l e R s m args below meth c Z a0 EL n0 own T V h k n) : CHv Z EL V h := S.2.2.2.2.2.2.1.1
theorem St.warm (S : St p l e R s m args below meth c Z a0 EL n0 own T V h k n) : Z.Warmed39 V := S.2.2.1
theorem St.ew (S : St p l e R s m args below meth c Z a0 EL n0 own T V h k n) : EW Z a0 EL := S.2.2.2.2.2.1
theorem St.le (S : St p l e R s m args below meth c Z a0 EL n0 own T V h k n) : n0 ≤ h.size := S.old.1 ▸ S.old.2.1
theorem St.mono (S : St p l e R s m args below meth c Z a0 EL n0 own T V h k n) {k' n' : Nat} (hk' : k ≤ k') (hn' : n ≤ n') : St p l e R s m args below meth c Z a0 EL n0 own T V h k' n' := by
  obtain ⟨hx, eT, hZ, hown, hO, hE, hC, hlk, locs, k0, X, hS, hk, hF⟩ := S
  exact ⟨hx, eT, hZ, hown, hO, hE, hC, hlk, locs, k0, X.mono hk' hn', hS, hk, hF⟩
/-- a callee is entered -/
theorem CtrV.intro {y : MethodName} {bytes : ByteArray} {maxL : Nat} {ret : Option FieldType} {rm : Room} {as' : Array Value} {sfs : List Addr} {QQ : Option Value → Heap → Vm → Prop} (hp : plainFor y = true) (hO : Old Z n0 h) (hE : EW Z a0 EL)
    (body : ∀ (p : Program) (e : Env) (s : State) (m : MethodId) (below : List Frame) (meth : Method) (c : Code) (T : State) (V : Vm), St p l e rm s m as' below meth c Z a0 EL n0 y.cls T V h 0 0 → c.code = bytes → c.maxLocals = maxL → meth.sig.returnType = ret → meth.name = y.name → (∀ x ∈ sfs, Safe Z EL V h x) →
      Go p e below (FiniV Z EL n0 s rm QQ) (T.setTop (entryFrame m as' maxL))) :
    CtrV l Z EL n0 y bytes maxL ret rm as' h sfs QQ := by
  intro ws
  refine MetFree.of_bodySF hp hisR ?_
  intro p e s m args below meth c s₁ Bd hml0 hP hK
  obtain ⟨rfl, hZ, hh, hC, hsf⟩ := hP
  have X0 : Stand p l e rm s m args below meth c s₁ [] 0 0 := Stand.of_body Bd
  have e0 : s₁.heap = h := by rw [← hh, Bd.state]; rfl
  have hC0 : CHr Z EL s.vm s.heap s.vm h := by rw [hh]; exact CHr.refl hC
  exact body p e s m below meth c s₁ s.vm ⟨Bd.exec, e0, hZ, findClass_of_methodNamed Bd.named, hO, hE, hC0, Bd.notSynchronized, [], h.size, X0, (State.WarmedH.refl s).since _, Nat.le_refl _, Fr.nil n0⟩ Bd.bytes hml0 Bd.returns (name_of_methodNamed Bd.named Bd.method).1 hsf
theorem Ctr.intro {y : MethodName} {bytes : ByteArray} {maxL : Nat} {ret : Option FieldType} {rm : Room} {as' : Array Value} {sfs : List Addr} {QQ : Option Value → Heap → Prop} (hp : plainFor y = true) (hO : Old Z n0 h) (hE : EW Z a0 EL)
    (body : ∀ (p : Program) (e : Env) (s : State) (m : MethodId) (below : List Frame) (meth : Method) (c : Code) (T : State) (V : Vm), St p l e rm s m as' below meth c Z a0 EL n0 y.cls T V h 0 0 → c.code = bytes → c.maxLocals = maxL → meth.sig.returnType = ret → meth.name = y.name → (∀ x ∈ sfs, Safe Z EL V h x) →
      Go p e below (Fini Z EL n0 s rm QQ) (T.setTop (entryFrame m as' maxL))) :
    Ctr l Z EL n0 y bytes maxL ret rm as' h sfs QQ := CtrV.intro hp hO hE body
theorem St.endV {QQ : Option Value → Heap → Vm → Prop} (S : St p l e R s m args below meth c Z a0 EL n0 own T V h k n) {v : Option Value} (hv : meth.sig.returnType = none → v = none) (q : (∀ x, x < h.size → Safe Z EL V h x → Safe Z EL T.vm h x) → QQ v h T.vm) (hc : k ≤ R.cells) (hl : n ≤ R.slots) {t : State}
    (st : ∀ fs, (∀ (f : JFrame) (acts : List Action), f.method = m → f.locked = none → f.entered = [] → (doReturn e (T.setTop f) acts v).1 = T.setFrames fs) → Steps p.tables e below t (T.setFrames fs)) : Go p e below (FiniV Z EL n0 s R QQ) t := by
  obtain ⟨hx, eT, hZ, hown, hO, hE, hC, hlk, locs, k0, X, hS, hk, hF⟩ := S
  subst eT
  obtain ⟨fs, hr, hrun, hend, hw⟩ := X.leaveW hS hk hv hlk
  have qc := CHv.at X hZ hE hC.1
  refine ⟨_, _, st fs hr, hrun, hend, v, locs, rfl, ⟨q fun x hx sx => qc.safe hx sx, hF, hO⟩, (show CHr Z EL s.vm s.heap T.vm T.heap from hC.trans (CHv.at X hZ hE hC.1)), ?_⟩
  obtain ⟨w1, w2, w3, w4⟩ := hw
  exact ⟨w1, w2, w3, w4.mono hc hl⟩
theorem St.end_ {QQ : Option Value → Heap → Prop} (S : St p l e R s m args below meth c Z a0 EL n0 own T V h k n) {v : Option Value} (hv : meth.sig.returnType = none → v = none) (q : QQ v h) (hc : k ≤ R.cells) (hl : n ≤ R.slots) {t : State}
    (st : ∀ fs, (∀ (f : JFrame) (acts : List Action), f.method = m → f.locked = none → f.entered = [] → (doReturn e (T.setTop f) acts v).1 = T.setFrames fs) → Steps p.tables e below t (T.setFrames fs)) : Go p e below (Fini Z EL n0 s R QQ) t := S.endV (QQ := fun v h _ => QQ v h) hv (fun _ => q) hc hl st
theorem g_aretV {QQ : Option Value → Heap → Vm → Prop} {v : Value} (S : St p l e R s m args below meth c Z a0 EL n0 own T V h k n) (hd : decode c.code pc = .ok (.areturn, 1)) {t : FieldType} (hret : meth.sig.returnType = some t) (ht : t.isReference = true) (hn : narrow t v = v) (hv : v.isRef = true) (q : (∀ x, x < h.size → Safe Z EL V h x → Safe Z EL T.vm h x) → QQ (some v) h T.vm) (hc : k ≤ R.cells := by exact Nat.le_of_ble_eq_true rfl) (hl : n ≤ R.slots := by exact Nat.le_of_ble_eq_true rfl) : Go p e below (FiniV Z EL n0 s R QQ) (T.setTop (mkF m pc Ls (v :: rest))) := by
  refine S.endV (v := some v) (fun h => by rw [hret] at h; cases h) q hc hl fun fs hr => ?_
  obtain ⟨hx, eT, hZ, hown, hO, hE, hC, hlk, locs, k0, X, hS, hk, hF⟩ := S
  exact retOut X hx hret hn (Or.inr (Or.inr (Or.inr (Or.inr ⟨rfl, ht, hv⟩)))) hd hr
theorem g_retV {QQ : Option Value → Heap → Vm → Prop} (S : St p l e R s m args below meth c Z a0 EL n0 own T V h k n) (hd : decode c.code pc = .ok (.return_, 1)) (hret : meth.sig.returnType = none) (q : (∀ x, x < h.size → Safe Z EL V h x → Safe Z EL T.vm h x) → QQ none h T.vm) (hc : k ≤ R.cells := by exact Nat.le_of_ble_eq_true rfl) (hl : n ≤ R.slots := by exact Nat.le_of_ble_eq_true rfl) : Go p e below (FiniV Z EL n0 s R QQ) (T.setTop (mkF m pc Ls [])) := by
  refine S.endV (v := none) (fun _ => rfl) q hc hl fun fs hr => ?_
  obtain ⟨hx, eT, hZ, hown, hO, hE, hC, hlk, locs, k0, X, hS, hk, hF⟩ := S
  exact X.returnOut hx hret hd hr
theorem g_ret {QQ : Option Value → Heap → Prop} (S : St p l e R s m args below meth c Z a0 EL n0 own T V h k n) (hd : decode c.code pc = .ok (.return_, 1)) (hret : meth.sig.returnType = none) (q : QQ none h) (hc : k ≤ R.cells := by exact Nat.le_of_ble_eq_true rfl) (hl : n ≤ R.slots := by exact Nat.le_of_ble_eq_true rfl) : Go p e below (Fini Z EL n0 s R QQ) (T.setTop (mkF m pc Ls [])) := by
  refine S.end_ (v := none) (fun _ => rfl) q hc hl fun fs hr => ?_
  obtain ⟨hx, eT, hZ, hown, hO, hE, hC, hlk, locs, k0, X, hS, hk, hF⟩ := S
  exact X.returnOut hx hret hd hr
theorem g_iretN {QQ : Option Value → Heap → Prop} {z : Int32} (S : St p l e R s m args below meth c Z a0 EL n0 own T V h k n) (hd : decode c.code pc = .ok (.ireturn, 1)) {t : FieldType} (hret : meth.sig.returnType = some t) (ht : t = .boolean ∨ t = .byte ∨ t = .char ∨ t = .short) (q : QQ (some (.int (nar t z))) h) (hc : k ≤ R.cells := by exact Nat.le_of_ble_eq_true rfl) (hl : n ≤ R.slots := by exact Nat.le_of_ble_eq_true rfl) : Go p e below (Fini Z EL n0 s R QQ) (T.setTop (mkF m pc Ls (.int z :: rest))) := by
  refine S.end_ (v := some (.int (nar t z))) (fun h => by rw [hret] at h; cases h) q hc hl fun fs hr => ?_
  obtain ⟨hx, eT, hZ, hown, hO, hE, hC, hlk, locs, k0, X, hS, hk, hF⟩ := S
  exact retN X hx hret ht hd hr
theorem g_iret {QQ : Option Value → Heap → Prop} {z : Int32} (S : St p l e R s m args below meth c Z a0 EL n0 own T V h k n) (hd : decode c.code pc = .ok (.ireturn, 1)) (hret : meth.sig.returnType = some .int) (q : QQ (some (.int z)) h) (hc : k ≤ R.cells := by exact Nat.le_of_ble_eq_true rfl) (hl : n ≤ R.slots := by exact Nat.le_of_ble_eq_true rfl) : Go p e below (Fini Z EL n0 s R QQ) (T.setTop (mkF m pc Ls (.int z :: rest))) := by
  refine S.end_ (v := some (.int z)) (fun h => by rw [hret] at h; cases h) q hc hl fun fs hr => ?_
  obtain ⟨hx, eT, hZ, hown, hO, hE, hC, hlk, locs, k0, X, hS, hk, hF⟩ := S
  exact retOut X hx hret rfl (Or.inl ⟨rfl, Or.inl rfl, z, rfl⟩) hd hr
theorem g_lret {QQ : Option Value → Heap → Prop} {z : Int64} (S : St p l e R s m args below meth c Z a0 EL n0 own T V h k n) (hd : decode c.code pc = .ok (.lreturn, 1)) (hret : meth.sig.returnType = some .long) (q : QQ (some (.long z)) h) (hc : k ≤ R.cells := by exact Nat.le_of_ble_eq_true rfl) (hl : n ≤ R.slots := by exact Nat.le_of_ble_eq_true rfl) : Go p e below (Fini Z EL n0 s R QQ) (T.setTop (mkF m pc Ls (.long z :: rest))) := by
  refine S.end_ (v := some (.long z)) (fun h => by rw [hret] at h; cases h) q hc hl fun fs hr => ?_
  obtain ⟨hx, eT, hZ, hown, hO, hE, hC, hlk, locs, k0, X, hS, hk, hF⟩ := S
  exact retOut X hx hret rfl (Or.inr (Or.inl ⟨rfl, rfl, z, rfl⟩)) hd hr
theorem g_aret {QQ : Option Value → Heap → Prop} {v : Value} (S : St p l e R s m args below meth c Z a0 EL n0 own T V h k n) (hd : decode c.code pc = .ok (.areturn, 1)) {t : FieldType} (hret : meth.sig.returnType = some t) (ht : t.isReference = true) (hn : narrow t v = v) (hv : v.isRef = true) (q : QQ (some v) h) (hc : k ≤ R.cells := by exact Nat.le_of_ble_eq_true rfl) (hl : n ≤ R.slots := by exact Nat.le_of_ble_eq_true rfl) : Go p e below (Fini Z EL n0 s R QQ) (T.setTop (mkF m pc Ls (v :: rest))) := by
  refine S.end_ (v := some v) (fun h => by rw [hret] at h; cases h) q hc hl fun fs hr => ?_
  obtain ⟨hx, eT, hZ, hown, hO, hE, hC, hlk, locs, k0, X, hS, hk, hF⟩ := S
  exact retOut X hx hret hn (Or.inr (Or.inr (Or.inr (Or.inr ⟨rfl, ht, hv⟩)))) hd hr
theorem g_getF (S : St p l e R s m args below meth c Z a0 EL n0 own T V h k n) {R0 O nm d : String} {index : Nat} (w : (Cond.fieldLink own index R0 nm d).before a0 Z = true) (via : Via Z R0 O nm d) {a : Addr} {v : Value} (F : Fld Z h a O nm d v) (hd : decode c.code pc = .ok (.getfield index, 3))
    (go : ∀ T', St p l e R s m args below meth c Z a0 EL n0 own T' V h k n → Go p e below Q (T'.setTop (mkF m (pc + 3) Ls (v :: rest)))) : Go p e below Q (T.setTop (mkF m pc Ls (.ref a :: rest))) := by
  obtain ⟨hx, eT, hZ, hown, hO, hE, hC, hlk, locs, k0, X, hS, hk, hF⟩ := S
  obtain ⟨T', X', e', st⟩ := getF X hx hZ hown (host := "") (Or.inl w) via eT F (g := mkF m pc Ls (.ref a :: rest)) rfl rfl hd
  exact Go.of st (go T' ⟨hx, e', hZ, hown, hO, hE, hC, hlk, locs, k0, X', hS, hk, hF⟩)
theorem g_getS (S : St p l e R s m args below meth c Z a0 EL n0 own T V h k n) {R0 O nm d : String} {index : Nat} (w : (Cond.fieldLink own index R0 nm d).before a0 Z = true) (via : Via Z R0 O nm d) {v : Value} (F : Sta Z h O nm d v) (hd : decode c.code pc = .ok (.getstatic index, 3))
    (go : ∀ T', St p l e R s m args below meth c Z a0 EL n0 own T' V h k n → Go p e below Q (T'.setTop (mkF m (pc + 3) Ls (v :: rest)))) : Go p e below Q (T.setTop (mkF m pc Ls rest)) := by
  obtain ⟨hx, eT, hZ, hown, hO, hE, hC, hlk, locs, k0, X, hS, hk, hF⟩ := S
  obtain ⟨T', X', e', st⟩ := getS X hx hZ hown (host := "") w via eT F (g := mkF m pc Ls rest) rfl hd
  exact Go.of st (go T' ⟨hx, e', hZ, hown, hO, hE, hC, hlk, locs, k0, X', hS, hk, hF⟩)
theorem g_cast (S : St p l e R s m args below meth c Z a0 EL n0 own T V h k n) {K : String} {index : Nat} (w : (Cond.classLink own index K).before a0 Z = true) {a : Addr} (F : Ins Z h a K true) (hd : decode c.code pc = .ok (.checkcast index, 3))
    (go : ∀ T', St p l e R s m args below meth c Z a0 EL n0 own T' V h k n → Go p e below Q (T'.setTop (mkF m (pc + 3) Ls (.ref a :: rest)))) : Go p e below Q (T.setTop (mkF m pc Ls (.ref a :: rest))) := by
  obtain ⟨hx, eT, hZ, hown, hO, hE, hC, hlk, locs, k0, X, hS, hk, hF⟩ := S
  obtain ⟨T', X', e', st⟩ := castY X hx hZ hown w eT F (g := mkF m pc Ls (.ref a :: rest)) rfl rfl hd
  exact Go.of st (go T' ⟨hx, e', hZ, hown, hO, hE, hC, hlk, locs, k0, X', hS, hk, hF⟩)
theorem g_inst (S : St p l e R s m args below meth c Z a0 EL n0 own T V h k n) {K : String} {index : Nat} (w : (Cond.classLink own index K).before a0 Z = true) {a : Addr} (F : Ins Z h a K true) (hd : decode c.code pc = .ok (.instanceof index, 3))
    (go : ∀ T', St p l e R s m args below meth c Z a0 EL n0 own T' V h k n → Go p e below Q (T'.setTop (mkF m (pc + 3) Ls (.int 1 :: rest)))) : Go p e below Q (T.setTop (mkF m pc Ls (.ref a :: rest))) := by
  obtain ⟨hx, eT, hZ, hown, hO, hE, hC, hlk, locs, k0, X, hS, hk, hF⟩ := S
  obtain ⟨T', X', e', st⟩ := instY X hx hZ hown w eT F (g := mkF m pc Ls (.ref a :: rest)) rfl rfl hd
  exact Go.of st (go T' ⟨hx, e', hZ, hown, hO, hE, hC, hlk, locs, k0, X', hS, hk, hF⟩)
theorem g_new (S : St p l e R s m args below meth c Z a0 EL n0 own T V h k n) {C : String} {index sz : Nat} (w : (Cond.classLink own index C).before a0 Z = true) (wi : (Cond.instantiable C sz).before a0 Z = true) (wz : (Cond.initialized C).before a0 Z = true) (hd : decode c.code pc = .ok (.new index, 3)) (hc : k + 1 ≤ R.cells) (hl : n + sz ≤ R.slots)
    (go : ∀ T' h' a, St p l e R s m args below meth c Z a0 EL n0 own T' V h' (k + 1) (n + sz) → Ext h h' → h.size ≤ a → a < h'.size → n0 ≤ a → Safe Z EL V h' a → Exa Z h' a C → (∀ {O nm d : String} {ty : FieldType}, Laid Z a0 C O nm d → parseFieldDescriptor d = some ty → Fld Z h' a O nm d (defaultValue ty)) →
      Go p e below Q (T'.setTop (mkF m (pc + 3) Ls (.ref a :: rest)))) : Go p e below Q (T.setTop (mkF m pc Ls rest)) := by
  have hle := S.le
  obtain ⟨hx, eT, hZ, hown, hO, hE, hC, hlk, locs, k0, X, hS, hk, hF⟩ := S
  obtain ⟨T', h', X', e', E, A, D, -, st⟩ := newO X hx hZ hown w wi wz eT (g := mkF m pc Ls rest) rfl hd hc hl
  exact Go.of st (go T' h' h.size ⟨hx, e', hZ, hown, hO.ext E, hE, hC.trans (CHr.ext E hC.1), hlk, locs, k0, X', hS, Nat.le_trans hk E.1, hF⟩ E (Nat.le_refl _) A.lt hle ((Safe.new (Nat.le_refl _)).ext E hC.1) A D)
theorem g_newarr (S : St p l e R s m args below meth c Z a0 EL n0 own T V h k n) {aty : ArrayType} (w : (Cond.arrayClass (newarray.typeOf aty)).before a0 Z = true) (hd : decode c.code pc = .ok (.newarray aty, 2)) {z : Int32} (hz : ¬ z < 0) {cap : Nat} (hcap : z.toNatClampNeg ≤ cap) (hb : cap * 8 ≤ 536870912) (hc : k + 1 ≤ R.cells) (hl : n + cap ≤ R.slots)
    (go : ∀ T' h' a kc, St p l e R s m args below meth c Z a0 EL n0 own T' V h' (k + 1) (n + cap) → Ext h h' → h.size ≤ a → a < h'.size → n0 ≤ a → Safe Z EL V h' a → (∀ j, Arv Z h' a kc (newarray.typeOf aty) z (List.replicate j (defaultValue (newarray.typeOf aty))) (defaultValue (newarray.typeOf aty))) →
      Go p e below Q (T'.setTop (mkF m (pc + 2) Ls (.ref a :: rest)))) : Go p e below Q (T.setTop (mkF m pc Ls (.int z :: rest))) := by
  have hle := S.le
  obtain ⟨hx, eT, hZ, hown, hO, hE, hC, hlk, locs, k0, X, hS, hk, hF⟩ := S
  obtain ⟨T', h', kc, X', e', E, A, st⟩ := newP X hx hZ w eT (g := mkF m pc Ls (.int z :: rest)) rfl hd rfl hz hcap hb hc hl
  exact Go.of st (go T' h' h.size kc ⟨hx, e', hZ, hown, hO.ext E, hE, hC.trans (CHr.ext E hC.1), hlk, locs, k0, X', hS, Nat.le_trans hk E.1, hF⟩ E (Nat.le_refl _) A.lt hle ((Safe.new (Nat.le_refl _)).ext E hC.1) fun j => (Arv.new A hz).pad (pad_rep [] _ j))
/-- newarray, with its class's name -/
theorem g_newarrE (S : St p l e R s m args below meth c Z a0 EL n0 own T V h k n) {aty : ArrayType} (w : (Cond.arrayClass (newarray.typeOf aty)).before a0 Z = true) (hd : decode c.code pc = .ok (.newarray aty, 2)) {z : Int32} (hz : ¬ z < 0) {cap : Nat} (hcap : z.toNatClampNeg ≤ cap) (hb : cap * 8 ≤ 536870912) (hc : k + 1 ≤ R.cells) (hl : n + cap ≤ R.slots) {ad : String} (had : "[" ++ (newarray.typeOf aty).toString = ad)
    (go : ∀ T' h' a kc, St p l e R s m args below meth c Z a0 EL n0 own T' V h' (k + 1) (n + cap) → Ext h h' → h.size ≤ a → a < h'.size → n0 ≤ a → Safe Z EL V h' a → (∀ j, Arv Z h' a kc (newarray.typeOf aty) z (List.replicate j (defaultValue (newarray.typeOf aty))) (defaultValue (newarray.typeOf aty))) → Exa Z h' a ad →
      Go p e below Q (T'.setTop (mkF m (pc + 2) Ls (.ref a :: rest)))) : Go p e below Q (T.setTop (mkF m pc Ls (.int z :: rest))) := by
  have hle := S.le
  obtain ⟨hx, eT, hZ, hown, hO, hE, hC, hlk, locs, k0, X, hS, hk, hF⟩ := S
  obtain ⟨T', h', kc, X', e', E, A, EA, st⟩ := newPE X hx hZ w eT (g := mkF m pc Ls (.int z :: rest)) rfl hd rfl hz hcap hb hc hl had
  exact Go.of st (go T' h' h.size kc ⟨hx, e', hZ, hown, hO.ext E, hE, hC.trans (CHr.ext E hC.1), hlk, locs, k0, X', hS, Nat.le_trans hk E.1, hF⟩ E (Nat.le_refl _) A.lt hle ((Safe.new (Nat.le_refl _)).ext E hC.1) (fun j => (Arv.new A hz).pad (pad_rep [] _ j)) EA)
/-- clone() of an array -/
theorem g_clone (S : St p l e R s m args below meth c Z a0 EL n0 own T V h k n) {ad : String} {index : Nat} (w1 : (Cond.methodLink own index ⟨ad, "clone", "()Ljava/lang/Object;"⟩).before a0 Z = true) (w2 : (Cond.sameMethod ad "java/lang/Object" "clone" "()Ljava/lang/Object;").before a0 Z = true) (w3 : (Cond.native ⟨"java/lang/Object", "clone", "()Ljava/lang/Object;"⟩).before a0 Z = true)
    (w4 : (Cond.instanceMethod ⟨"java/lang/Object", "clone", "()Ljava/lang/Object;"⟩).before a0 Z = true) (w5 : (Cond.selects ad ⟨ad, "clone", "()Ljava/lang/Object;"⟩ ⟨"java/lang/Object", "clone", "()Ljava/lang/Object;"⟩).before a0 Z = true) (w6 : (Cond.castable ad "java/lang/Cloneable").before a0 Z = true)
    {a : Addr} {kc : ClassId} {ty : FieldType} {z : Int32} {vs : List Value} {dv : Value} (F : Arv Z h a kc ty z vs dv) (E : Exa Z h a ad) (hsz : Ls.size = c.maxLocals) (hd : decode c.code pc = .ok (.invokevirtual index, 3)) (hf : 1 ≤ R.frames) (hl : (rest.map fun v => v.category).sum + 14 ≤ R.locals) {cap : Nat} (hcap : z.toNatClampNeg ≤ cap) (hc : k + 1 ≤ R.cells) (hsl : n + cap ≤ R.slots)
    (go : ∀ T' h' b, St p l e R s m args below meth c Z a0 EL n0 own T' V h' (k + 1) (n + cap) → Ext h h' → h.size ≤ b → n0 ≤ b → Arv Z h' b kc ty z vs dv → Exa Z h' b ad → Go p e below Q (T'.setTop (mkF m (pc + 3) Ls (.ref b :: rest)))) : Go p e below Q (T.setTop (mkF m pc Ls (.ref a :: rest))) := by
  have hle := S.le
  obtain ⟨hx, eT, hZ, hown, hO, hE, hC, hlk, locs, k0, X, hS, hk, hF⟩ := S
  obtain ⟨T', h', X', e', ex, A', E', st⟩ := cloneH X hx (s := s.setVm V) hZ hown w1 w2 w3 w4 w5 w6 eT F.arh E (g := mkF m pc Ls (.ref a :: rest)) rfl hsz rfl hd hf (W := (rest.map fun v => v.category).sum) (by show 2 * 0 + _ ≤ _; omega) hl hcap hc hsl
  exact Go.of st (go T' h' h.size ⟨hx, e', hZ, hown, hO.ext ex, hE, hC.trans (CHr.ext ex hC.1), hlk, locs, k0, X', hS, Nat.le_trans hk ex.1, hF⟩ ex (Nat.le_refl _) hle A' E')
theorem g_castore (S : St p l e R s m args below meth c Z a0 EL n0 own T V h k n) {a : Addr} {kc : ClassId} {z : Int32} {vs : List Value} {dv : Value} (A : Arv Z h a kc .char z vs dv) {j x : Int32} (hj : ¬ j < 0 ∧ j < z) (i : Nat) (hi : j.toNatClampNeg = i) (hlt : i < vs.length) (na : n0 ≤ a) (hd : decode c.code pc = .ok (.castore, 1))
    (go : ∀ T' h', St p l e R s m args below meth c Z a0 EL n0 own T' V h' k n → Keep h h' [a] → Arv Z h' a kc .char z (vs.set i (.int (nar .char x))) dv → Go p e below Q (T'.setTop (mkF m (pc + 1) Ls rest))) : Go p e below Q (T.setTop (mkF m pc Ls (.int x :: .int j :: .ref a :: rest))) := by
  obtain ⟨hx, eT, hZ, hown, hO, hE, hC, hlk, locs, k0, X, hS, hk, hF⟩ := S
  have sf : Safe Z EL V h a := Safe.arv hZ.alike A (by decide)
  obtain ⟨cl, Ar, q1, q2, q3, q4, q5⟩ := A
  obtain ⟨T', h', X', e', W, st⟩ := stC X hx hZ eT Ar (j := j) (x := x) (inb_of q2 hj) (g := mkF m pc Ls (.int x :: .int j :: .ref a :: rest)) rfl rfl hd
  have K := Keep.of_wr W
  exact Go.of st (go T' h' ⟨hx, e', hZ, hown, hO.wr W na, hE, hC.trans (CHr.wr W sf hC.1), hlk, _, k0, X', hS, Nat.le_trans hk K.1, Fr.snoc X' hF na⟩ K (Arv.set Ar q1 q2 q3 q4 q5 (fits_nar_char x) W i hi hlt))
theorem g_putF (S : St p l e R s m args below meth c Z a0 EL n0 own T V h k n) {R0 O nm d C : String} {index kk : Nat} {ty : FieldType} (w : (Cond.fieldLink own index R0 nm d).before a0 Z = true) (via : Via Z R0 O nm d) {a : Addr} {v v' old : Value} (F : Fld Z h a O nm d old) (E : Exa Z h a C)
    (L : (Cond.lays C O nm d).before a0 Z = true ∨ ((Cond.laysFinal C O nm d).before a0 Z = true ∧ own = O ∧ meth.name = "<init>")) (wi : (Cond.instantiable C kk).before a0 Z = true) (hty : parseFieldDescriptor d = some ty) (hn : narrow ty v = v') (hf : fits ty v' = true) (na : n0 ≤ a) (sf : Safe Z EL V h a) (hd : decode c.code pc = .ok (.putfield index, 3))
    (go : ∀ T' h', St p l e R s m args below meth c Z a0 EL n0 own T' V h' k n → Keep h h' [a] → Wr h h' a (Jvm.RoadKit.slotOf Z O nm d) v' → Exa Z h' a C → Fld Z h' a O nm d v' → Safe Z EL V h' a → Go p e below Q (T'.setTop (mkF m (pc + 3) Ls rest))) : Go p e below Q (T.setTop (mkF m pc Ls (v :: .ref a :: rest))) := by
  obtain ⟨hx, eT, hZ, hown, hO, hE, hC, hlk, locs, k0, X, hS, hk, hF⟩ := S
  obtain ⟨T', h', X', e', W, st⟩ := putFN X hx hZ hown w via eT F E L wi hty hn hf (g := mkF m pc Ls (v :: .ref a :: rest)) rfl rfl hd
  have K := Keep.of_wr W
  exact Go.of st (go T' h' ⟨hx, e', hZ, hown, hO.wr W na, hE, hC.trans (CHr.wr W sf hC.1), hlk, _, k0, X', hS, Nat.le_trans hk K.1, Fr.snoc X' hF na⟩ K W (E.wr W) (F.same W) (Safe.wr W sf hC.1 sf))
theorem g_initO (S : St p l e R s m args below meth c Z a0 EL n0 own T V h k n) {index : Nat} (w1 : (Cond.methodLink own index Lib.objectInit).before a0 Z = true) (w2 : (Cond.instanceMethod Lib.objectInit).before a0 Z = true) (w3 : (Cond.code Lib.objectInit ⟨#[0xb1]⟩ 1 none).before a0 Z = true) (hsz : Ls.size = c.maxLocals) {a : Addr} (hd : decode c.code pc = .ok (.invokespecial index, 3)) (hf : 1 ≤ R.frames) (hl : (rest.map fun v => v.category).sum + 12 ≤ R.locals)
    (go : ∀ T', St p l e R s m args below meth c Z a0 EL n0 own T' V h k n → Go p e below Q (T'.setTop (mkF m (pc + 3) Ls rest))) : Go p e below Q (T.setTop (mkF m pc Ls (.ref a :: rest))) := by
  obtain ⟨hx, eT, hZ, hown, hO, hE, hC, hlk, locs, k0, X, hS, hk, hF⟩ := S
  obtain ⟨T', X', e', st⟩ := initO X hx hZ hown w1 w2 w3 eT (g := mkF m pc Ls (.ref a :: rest)) rfl hsz rfl hd hf (W := (rest.map fun v => v.category).sum) (by show 2 * 0 + _ ≤ _; omega) hl
  exact Go.of st (go T' ⟨hx, e', hZ, hown, hO, hE, hC, hlk, locs, k0, X', hS, hk, hF⟩)
theorem g_ldcI (S : St p l e R s m args below meth c Z a0 EL n0 own T V h k n) {index : Nat} {v : Int32} (w : (Cond.constant own index v).before a0 Z = true) (hd : decode c.code pc = .ok (.ldc index, 2)) (go : Go p e below Q (T.setTop (mkF m (pc + 2) Ls (.int v :: rest)))) : Go p e below Q (T.setTop (mkF m pc Ls rest)) := by
  obtain ⟨hx, eT, hZ, hown, hO, hE, hC, hlk, locs, k0, X, hS, hk, hF⟩ := S
  exact Go.of (fun _ q => X.ldcInt hx hown (mvT hZ w) (g := mkF m pc Ls rest) rfl hd _ q) go
theorem g_ldcJ (S : St p l e R s m args below meth c Z a0 EL n0 own T V h k n) {index : Nat} {v : Int64} (w : (Cond.constantLong own index v).before a0 Z = true) (hd : decode c.code pc = .ok (.ldc2_w index, 3)) (go : Go p e below Q (T.setTop (mkF m (pc + 3) Ls (.long v :: rest)))) : Go p e below Q (T.setTop (mkF m pc Ls rest)) := by
  obtain ⟨hx, eT, hZ, hown, hO, hE, hC, hlk, locs, k0, X, hS, hk, hF⟩ := S
  exact Go.of (fun _ q => X.ldc2Long hx hown (mvT hZ w) (g := mkF m pc Ls rest) rfl hd _ q) go
/-- a String constant whose text isn't read -/
theorem g_ldcO (S : St p l e R s m args below meth c Z a0 EL n0 own T V h k n) {index : Nat} {text : String} (w : (Cond.stringLink own index text).before a0 Z = true) (wS : ∀ a ∈ Bundle.stringAtoms, a.before a0 Z = true) (hd : decode c.code pc = .ok (.ldc index, 2)) {b : Nat} (hb : 4 * text.toList.length ≤ b) (hbig : b ≤ 536870912) (hc : k + 2 ≤ R.cells) (hl : n + (b + 4) ≤ R.slots)
    (go : ∀ a T' V' h', St p l e R s m args below meth c Z a0 EL n0 own T' V' h' (k + 2) (n + (b + 4)) → Ext h h' → CHr Z EL V h V' h' → Go p e below Q (T'.setTop (mkF m (pc + 2) Ls (.ref a :: rest)))) : Go p e below Q (T.setTop (mkF m pc Ls rest)) := by
  obtain ⟨hx, eT, hZ, hown, hO, hE, hC, hlk, locs, k0, X, hS, hk, hF⟩ := S
  obtain ⟨a, T', h', k1, X', e', E, hS', hk', hZ', hown', hC', -, st⟩ := ldcOH X hx hZ hown w wS eT hS hk hE hC.1 (g := mkF m pc Ls rest) rfl hd hb hbig hc hl
  exact Go.of st (go a T' T'.vm h' ⟨hx, e', hZ', hown', hO.ext E, hE, hC.trans hC', hlk, locs, k1, X', hS', hk', hF⟩ E hC')
/-- a String constant of EL -/
theorem g_ldcS (S : St p l e R s m args below meth c Z a0 EL n0 own T V h k n) {index : Nat} {text : String} (w : (Cond.stringLink own index text).before a0 Z = true) (wS : ∀ a ∈ Bundle.stringAtoms, a.before a0 Z = true) (hmem : (own, index) ∈ EL) {vs : List Value} {z : Int32} (ht : (∀ c ∈ text.toList, c.toNat < 256) ∧ text.toList.map (fun c => Value.int (Jvm.Lit.byteI c.toNat.toUInt16)) = vs) (hz : ¬ z < 0) (hlz : z.toNatClampNeg = vs.length)
    (hd : decode c.code pc = .ok (.ldc index, 2)) {b : Nat} (hb : 4 * text.toList.length ≤ b) (hbig : b ≤ 536870912) (hc : k + 2 ≤ R.cells) (hl : n + (b + 4) ≤ R.slots)
    (go : ∀ a T' V' h' t kt, St p l e R s m args below meth c Z a0 EL n0 own T' V' h' (k + 2) (n + (b + 4)) → Ext h h' → CHr Z EL V h V' h' → Exa Z h' a "java/lang/String" → Fld Z h' a "java/lang/String" "coder" "B" (.int 0) → Fld Z h' a "java/lang/String" "value" "[B" (.ref t) → Arv Z h' t kt .byte z vs (.int 0) → (∀ x, Safe Z EL V' h' x → x ≠ a ∧ x ≠ t) →
      Go p e below Q (T'.setTop (mkF m (pc + 2) Ls (.ref a :: rest)))) : Go p e below Q (T.setTop (mkF m pc Ls rest)) := by
  obtain ⟨hx, eT, hZ, hown, hO, hE, hC, hlk, locs, k0, X, hS, hk, hF⟩ := S
  obtain ⟨a, T', h', k1, t, kt, X', e', E, hS', hk', hZ', hown', f1, f2, f3, f4, -, -, hC', -, f5, st⟩ := ldcCH X hx hZ hown w wS eT hS hk hE hmem hC.1 ht hz hlz (g := mkF m pc Ls rest) rfl hd hb hbig hc hl
  exact Go.of st (go a T' T'.vm h' t kt ⟨hx, e', hZ', hown', hO.ext E, hE, hC.trans hC', hlk, locs, k1, X', hS', hk', hF⟩ E hC' f1 f2 f3 f4 f5)
section Calls
variable {y z : MethodName} {bytes : ByteArray} {maxL : Nat} {ret : Option FieldType} {rm : Room} {as' : Array Value} {sfs : List Addr} {QQ : Option Value → Heap → Vm → Prop} {index : Nat} {stk : List Value}
/-- the library's backOfSH with objects that are no literal's -/
theorem backOfSf {W : Nat} {vm0 : Vm} {QB : Option Value → Heap → Vm → List Loc → Prop}
    (hM : MetFree l y (head1 [Cond.code y bytes maxL ret] rm) (fun a U => a = as' ∧ Z.Warmed39 U.vm ∧ U.heap = h ∧ CHv Z EL U.vm h ∧ ∀ x ∈ sfs, Safe Z EL U.vm h x) (fun _ _ _ _ _ => True) (fun _ U o U' => ∃ v L, o = .returned v ∧ QB v U'.heap U'.vm L ∧ CHr Z EL U.vm U.heap U'.vm U'.heap ∧ ReturnedEndW U o U' L rm.cells rm.slots))
    (hZ : Z.Warmed39 vm0) (wc : (Cond.code y bytes maxL ret).before a0 Z = true) (wz : (Cond.initialized y.cls).before a0 Z = true) (hf : rm.frames + 1 ≤ R.frames) (hl : W + (maxL + 11) + rm.locals ≤ R.locals) (hEL : EW Z a0 EL) (H : CHv Z EL vm0 h) (hsf : ∀ x ∈ sfs, x < h.size ∧ Safe Z EL vm0 h x) :
    BackS l R p e below (s.setVm vm0) args y 3 W (fun A a => a = as' ∧ A.U.heap = h ∧ A.cells + rm.cells ≤ R.cells ∧ A.slots + rm.slots ≤ R.slots)
      (fun A _ v B => ∃ L, QB v B.U.heap B.U.vm L ∧ B.locs = A.locs ++ L ∧ B.cells = A.cells + rm.cells ∧ B.slots = A.slots + rm.slots ∧ CHr Z EL vm0 h B.U.vm B.U.heap) := by
  refine BackS.of_freeW (bytes := bytes) (maxL := maxL) (ret := ret) (E := fun _ first o t L k n => (k = rm.cells ∧ n = rm.slots) ∧ (∃ v, o = .returned v ∧ QB v t.heap t.vm L) ∧ CHr Z EL first.vm first.heap t.vm t.heap) hM hf hl ?_ ?_ (fun _ _ _ _ _ _ _ _ _ => trivial) ?_ ?_
  · intro m meth c A a Y hp
    have hU : Z.Warmed39 A.U.vm := wtrans (s := s.setVm vm0) hZ Y.warmed
    exact ⟨by show (Cond.and _ .tt).before a A.U = true; rw [Cond.before_and, mv hU wc]; rfl, mv hU wc, mv hU wz, hp.2.2.1, hp.2.2.2⟩
  · intro m meth c A a g mk Y hp
    have q := CHv.at Y hZ hEL H
    exact ⟨hp.1, wtrans (s := s.setVm vm0) hZ Y.warmed, hp.2.1, q.1, fun x hx => q.safe (hsf x hx).1 (hsf x hx).2⟩
  · rintro _ _ _ _ ⟨v, L, h1, h2, h3, h4⟩
    exact ⟨L, _, _, h4, ⟨rfl, rfl⟩, ⟨v, h1, h2⟩, h3⟩
  · intro m meth c A a g mk v t L k n Y hp _ _ q
    obtain ⟨⟨e1, e2⟩, ⟨v', e3, e4⟩, e5⟩ := q
    cases e3; subst e1 e2
    refine ⟨L, e4, rfl, rfl, rfl, (CHv.at Y hZ hEL H).trans ?_⟩
    rw [← hp.2.1]; exact e5
theorem g_static (S : St p l e R s m args below meth c Z a0 EL n0 own T V h k n) (C : CtrV l Z EL n0 y bytes maxL ret rm as' h sfs QQ) (hsf : ∀ x ∈ sfs, x < h.size ∧ Safe Z EL V h x) (wl : (Cond.methodLink own index y).before a0 Z = true) (ws : (Cond.static y).before a0 Z = true) (wi : (Cond.initialized y.cls).before a0 Z = true) (wc : (Cond.code y bytes maxL ret).before a0 Z = true) (hy : y.cls ≠ "java/lang/invoke/MethodHandle" ∧ y.cls ≠ "java/lang/invoke/VarHandle")
    (hd : decode c.code pc = .ok (.invokestatic index, 3)) (hsz : Ls.size = c.maxLocals) (argsL : List Value) (hlen : ∀ sig, parseMethodDescriptor y.desc = some sig → argsL.length = sig.parameters.length) (hst : stk = argsL.reverse ++ rest) (has : argsL.toArray = as') (hf : rm.frames + 1 ≤ R.frames) (hl : (rest.map fun v => v.category).sum + (maxL + 11) + rm.locals ≤ R.locals) (hc : k + rm.cells ≤ R.cells) (hs : n + rm.slots ≤ R.slots)
    (go : ∀ v T' V' h', St p l e R s m args below meth c Z a0 EL n0 own T' V' h' (k + rm.cells) (n + rm.slots) → CHr Z EL V h V' h' → QQ v h' V' → Go p e below Q (T'.setTop (mkF m (pc + 3) Ls (v.toList ++ rest)))) : Go p e below Q (T.setTop (mkF m pc Ls stk)) := by
  obtain ⟨hx, eT, hZ, hown, hO, hE, hC, hlk, locs, k0, X, hS, hk, hF⟩ := S
  have bk := backOfSf (s := s) (R := R) (p := p) (e := e) (below := below) (args := args) (W := (rest.map fun v => v.category).sum) (QB := fun v h' vm L => QQ v h' vm ∧ Fr n0 L ∧ Old Z n0 h') (C []) hZ wc wi hf hl hE hC.1 hsf
  obtain ⟨v, vm1, ⟨U, Lc, kc, sc⟩, hW1, X', hS', hgr, ⟨L, ⟨hQ, hF', hO'⟩, eL, ec, es, hC'⟩, st⟩ := callSS X hx hown (mvT hZ wl) (mvT hZ ws) (mvT hZ wi) (mvT hZ wc) hy bk (g := mkF m pc Ls stk) rfl hsz (argsL := argsL) (rest := rest) hlen hst (by show 2 * 0 + _ ≤ _; omega) hd (fun _ _ => ⟨has, eT, hc, hs⟩)
  dsimp only [Pt.U, Pt.locs, Pt.cells, Pt.slots] at X' hS' hgr hQ hO' eL ec es hC' st
  subst eL ec es
  exact Go.of (fun _ q => st.trans q) (go v U U.vm U.heap ⟨hx, rfl, State.Warmed39.trans (t := s.setVm V) hZ hS'.1, by rw [hS'.1.alike.findClass]; exact hown, hO', hE, hC.trans hC', hlk, _, _, X', hS.trans hS' (Nat.le_trans hk (eT ▸ hgr)), Nat.le_refl _, hF.app hF'⟩ hC' hQ)
theorem g_special (S : St p l e R s m args below meth c Z a0 EL n0 own T V h k n) (C : CtrV l Z EL n0 y bytes maxL none rm as' h sfs QQ) (hsf : ∀ x ∈ sfs, x < h.size ∧ Safe Z EL V h x) (hy1 : y.name = "<init>") (wl : (Cond.methodLink own index y).before a0 Z = true) (ws : (Cond.instanceMethod y).before a0 Z = true) (wi : (Cond.initialized y.cls).before a0 Z = true) (wc : (Cond.code y bytes maxL none).before a0 Z = true) (hy : y.cls ≠ "java/lang/invoke/MethodHandle" ∧ y.cls ≠ "java/lang/invoke/VarHandle")
    (hd : decode c.code pc = .ok (.invokespecial index, 3)) (hsz : Ls.size = c.maxLocals) (a : Addr) (argsL : List Value) (hlen : ∀ sig, parseMethodDescriptor y.desc = some sig → argsL.length = sig.parameters.length) (hst : stk = argsL.reverse ++ .ref a :: rest) (has : (.ref a :: argsL).toArray = as') (hf : rm.frames + 1 ≤ R.frames) (hl : (rest.map fun v => v.category).sum + (maxL + 11) + rm.locals ≤ R.locals) (hc : k + rm.cells ≤ R.cells) (hs : n + rm.slots ≤ R.slots)
    (go : ∀ v T' V' h', St p l e R s m args below meth c Z a0 EL n0 own T' V' h' (k + rm.cells) (n + rm.slots) → CHr Z EL V h V' h' → QQ v h' V' → Go p e below Q (T'.setTop (mkF m (pc + 3) Ls (v.toList ++ rest)))) : Go p e below Q (T.setTop (mkF m pc Ls stk)) := by
  obtain ⟨hx, eT, hZ, hown, hO, hE, hC, hlk, locs, k0, X, hS, hk, hF⟩ := S
  have bk := backOfSf (s := s) (R := R) (p := p) (e := e) (below := below) (args := args) (W := (rest.map fun v => v.category).sum) (QB := fun v h' vm L => QQ v h' vm ∧ Fr n0 L ∧ Old Z n0 h') (C []) hZ wc wi hf hl hE hC.1 hsf
  obtain ⟨v, vm1, ⟨U, Lc, kc, sc⟩, hW1, X', hS', hgr, ⟨L, ⟨hQ, hF', hO'⟩, eL, ec, es, hC'⟩, st⟩ := X.specialBackS hx hy1 hown (mvT hZ wl) (mvT hZ ws) (mvT hZ wc) hy bk (g := mkF m pc Ls stk) rfl hsz (Steps.refl _) (a := a) (argsL := argsL) (rest := rest) hlen hst (by show 2 * 0 + _ ≤ _; omega) hd (fun _ _ => ⟨has, eT, hc, hs⟩)
  dsimp only [Pt.U, Pt.locs, Pt.cells, Pt.slots] at X' hS' hgr hQ hO' eL ec es hC' st
  subst eL ec es
  exact Go.of (fun _ q => st.trans q) (go v U U.vm U.heap ⟨hx, rfl, State.Warmed39.trans (t := s.setVm V) hZ hS'.1, by rw [hS'.1.alike.findClass]; exact hown, hO', hE, hC.trans hC', hlk, _, _, X', hS.trans hS' (Nat.le_trans hk (eT ▸ hgr)), Nat.le_refl _, hF.app hF'⟩ hC' hQ)
theorem g_virtual {C : String} (S : St p l e R s m args below meth c Z a0 EL n0 own T V h k n) (K : CtrV l Z EL n0 z bytes maxL ret rm as' h sfs QQ) (hsf : ∀ x ∈ sfs, x < h.size ∧ Safe Z EL V h x) (wl : (Cond.methodLink own index y).before a0 Z = true) (wd : (Cond.declares y).before a0 Z = true) (wse : (Cond.selects C y z).before a0 Z = true) (ws : (Cond.instanceMethod z).before a0 Z = true) (wi : (Cond.initialized z.cls).before a0 Z = true) (wc : (Cond.code z bytes maxL ret).before a0 Z = true) (hy : y.cls ≠ "java/lang/invoke/MethodHandle" ∧ y.cls ≠ "java/lang/invoke/VarHandle")
    (hnf : ∀ s' : State, (Cond.selects C y z).before args s' = true → NotFace s' y) (hd : decode c.code pc = .ok (.invokevirtual index, 3)) (hsz : Ls.size = c.maxLocals) (a : Addr) (E : Exa Z h a C) (argsL : List Value) (hlen : ∀ sig, parseMethodDescriptor y.desc = some sig → argsL.length = sig.parameters.length) (hst : stk = argsL.reverse ++ .ref a :: rest) (has : (.ref a :: argsL).toArray = as') (hf : rm.frames + 1 ≤ R.frames) (hl : (rest.map fun v => v.category).sum + (maxL + 11) + rm.locals ≤ R.locals) (hc : k + rm.cells ≤ R.cells) (hs : n + rm.slots ≤ R.slots)
    (go : ∀ v T' V' h', St p l e R s m args below meth c Z a0 EL n0 own T' V' h' (k + rm.cells) (n + rm.slots) → CHr Z EL V h V' h' → QQ v h' V' → Go p e below Q (T'.setTop (mkF m (pc + 3) Ls (v.toList ++ rest)))) : Go p e below Q (T.setTop (mkF m pc Ls stk)) := by
  obtain ⟨hx, eT, hZ, hown, hO, hE, hC, hlk, locs, k0, X, hS, hk, hF⟩ := S
  have bk := backOfSf (s := s) (R := R) (p := p) (e := e) (below := below) (args := args) (W := (rest.map fun v => v.category).sum) (QB := fun v h' vm L => QQ v h' vm ∧ Fr n0 L ∧ Old Z n0 h') (K []) hZ wc wi hf hl hE hC.1 hsf
  obtain ⟨cq, kq, q1, q2, q3⟩ := isOf (s := s.setVm V) hZ eT E
  obtain ⟨v, vm1, ⟨U, Lc, kc, sc⟩, hW1, X', hS', hgr, ⟨L, ⟨hQ, hF', hO'⟩, eL, ec, es, hC'⟩, st⟩ := X.virtualBackS hx hown (mvT hZ wl) (mvT hZ wd) (hnf _ (mvT hZ wse)) (mvT hZ wse) (mvT hZ ws) hy bk q1 q3 (g := mkF m pc Ls stk) rfl hsz (Steps.refl _) (argsL := argsL) (rest := rest) hlen hst (by show 2 * 0 + _ ≤ _; omega) hd (fun _ _ => ⟨has, eT, hc, hs⟩)
  dsimp only [Pt.U, Pt.locs, Pt.cells, Pt.slots] at X' hS' hgr hQ hO' eL ec es hC' st
  subst eL ec es
  exact Go.of (fun _ q => st.trans q) (go v U U.vm U.heap ⟨hx, rfl, State.Warmed39.trans (t := s.setVm V) hZ hS'.1, by rw [hS'.1.alike.findClass]; exact hown, hO', hE, hC.trans hC', hlk, _, _, X', hS.trans hS' (Nat.le_trans hk (eT ▸ hgr)), Nat.le_refl _, hF.app hF'⟩ hC' hQ)
/-- invokespecial of a superclass's method -/
theorem g_super {C : String} (S : St p l e R s m args below meth c Z a0 EL n0 own T V h k n) (K : CtrV l Z EL n0 y bytes maxL ret rm as' h sfs QQ) (hsf : ∀ x ∈ sfs, x < h.size ∧ Safe Z EL V h x) (hy1 : y.name ≠ "<init>") (wl : (Cond.methodLink own index y).before a0 Z = true) (N : NI Z y.cls) (ws : (Cond.instanceMethod y).before a0 Z = true) (wu : (Cond.superclass own y.cls).before a0 Z = true) (wi : (Cond.initialized y.cls).before a0 Z = true) (wc : (Cond.code y bytes maxL ret).before a0 Z = true) (hy : y.cls ≠ "java/lang/invoke/MethodHandle" ∧ y.cls ≠ "java/lang/invoke/VarHandle")
    (hd : decode c.code pc = .ok (.invokespecial index, 3)) (hsz : Ls.size = c.maxLocals) (a : Addr) (E : Exa Z h a C) (argsL : List Value) (hlen : ∀ sig, parseMethodDescriptor y.desc = some sig → argsL.length = sig.parameters.length) (hst : stk = argsL.reverse ++ .ref a :: rest) (has : (.ref a :: argsL).toArray = as') (hf : rm.frames + 1 ≤ R.frames) (hl : (rest.map fun v => v.category).sum + (maxL + 11) + rm.locals ≤ R.locals) (hc : k + rm.cells ≤ R.cells) (hs : n + rm.slots ≤ R.slots)
    (go : ∀ v T' V' h', St p l e R s m args below meth c Z a0 EL n0 own T' V' h' (k + rm.cells) (n + rm.slots) → CHr Z EL V h V' h' → QQ v h' V' → Go p e below Q (T'.setTop (mkF m (pc + 3) Ls (v.toList ++ rest)))) : Go p e below Q (T.setTop (mkF m pc Ls stk)) := by
  obtain ⟨hx, eT, hZ, hown, hO, hE, hC, hlk, locs, k0, X, hS, hk, hF⟩ := S
  have bk := backOfSf (s := s) (R := R) (p := p) (e := e) (below := below) (args := args) (W := (rest.map fun v => v.category).sum) (QB := fun v h' vm L => QQ v h' vm ∧ Fr n0 L ∧ Old Z n0 h') (K []) hZ wc wi hf hl hE hC.1 hsf
  obtain ⟨v, vm1, ⟨U, Lc, kc, sc⟩, hW1, X', hS', hgr, ⟨L, ⟨hQ, hF', hO'⟩, eL, ec, es, hC'⟩, st⟩ := superBackS X hx (s := s.setVm V) hZ hown wl (same_own N ws hy) ws wu hy1 bk eT (Ins.self E) (g := mkF m pc Ls stk) rfl hsz wc (argsL := argsL) (rest := rest) hlen hst (by show 2 * 0 + _ ≤ _; omega) hd (fun _ _ => ⟨has, eT, hc, hs⟩)
  dsimp only [Pt.U, Pt.locs, Pt.cells, Pt.slots] at X' hS' hgr hQ hO' eL ec es hC' st
  subst eL ec es
  exact Go.of (fun _ q => st.trans q) (go v U U.vm U.heap ⟨hx, rfl, State.Warmed39.trans (t := s.setVm V) hZ hS'.1, by rw [hS'.1.alike.findClass]; exact hown, hO', hE, hC.trans hC', hlk, _, _, X', hS.trans hS' (Nat.le_trans hk (eT ▸ hgr)), Nat.le_refl _, hF.app hF'⟩ hC' hQ)
/-- invokevirtual of a private method -/
theorem g_private {C : String} (S : St p l e R s m args below meth c Z a0 EL n0 own T V h k n) (K : CtrV l Z EL n0 y bytes maxL ret rm as' h sfs QQ) (hsf : ∀ x ∈ sfs, x < h.size ∧ Safe Z EL V h x) (wl : (Cond.methodLink own index y).before a0 Z = true) (N : NI Z y.cls) (wp : (Cond.privateMethod y).before a0 Z = true) (ws : (Cond.instanceMethod y).before a0 Z = true) (wi : (Cond.initialized y.cls).before a0 Z = true) (wc : (Cond.code y bytes maxL ret).before a0 Z = true) (hy : y.cls ≠ "java/lang/invoke/MethodHandle" ∧ y.cls ≠ "java/lang/invoke/VarHandle")
    (hd : decode c.code pc = .ok (.invokevirtual index, 3)) (hsz : Ls.size = c.maxLocals) (a : Addr) (E : Exa Z h a C) (argsL : List Value) (hlen : ∀ sig, parseMethodDescriptor y.desc = some sig → argsL.length = sig.parameters.length) (hst : stk = argsL.reverse ++ .ref a :: rest) (has : (.ref a :: argsL).toArray = as') (hf : rm.frames + 1 ≤ R.frames) (hl : (rest.map fun v => v.category).sum + (maxL + 11) + rm.locals ≤ R.locals) (hc : k + rm.cells ≤ R.cells) (hs : n + rm.slots ≤ R.slots)
    (go : ∀ v T' V' h', St p l e R s m args below meth c Z a0 EL n0 own T' V' h' (k + rm.cells) (n + rm.slots) → CHr Z EL V h V' h' → QQ v h' V' → Go p e below Q (T'.setTop (mkF m (pc + 3) Ls (v.toList ++ rest)))) : Go p e below Q (T.setTop (mkF m pc Ls stk)) := by
  obtain ⟨hx, eT, hZ, hown, hO, hE, hC, hlk, locs, k0, X, hS, hk, hF⟩ := S
  have bk := backOfSf (s := s) (R := R) (p := p) (e := e) (below := below) (args := args) (W := (rest.map fun v => v.category).sum) (QB := fun v h' vm L => QQ v h' vm ∧ Fr n0 L ∧ Old Z n0 h') (K []) hZ wc wi hf hl hE hC.1 hsf
  obtain ⟨cell, hcell, hobj⟩ := E.cell
  have wp' := Cond.privateMethod_at (mvP (s := s.setVm V) (args := args) hZ wp)
  have ws' : (Cond.instanceMethod y).before args (s.setVm V) = true := mvT (s := s.setVm V) hZ ws
  obtain ⟨v, vm1, ⟨U, Lc, kc, sc⟩, hW1, X', hS', hgr, ⟨L, ⟨hQ, hF', hO'⟩, eL, ec, es, hC'⟩, st⟩ := X.privateBackS hx hown (mvT (s := s.setVm V) hZ wl) ws' (sel_own (a0 := a0) hZ rfl N ws' wp' hy) wp' (mvT (s := s.setVm V) hZ wc) hy bk (g := mkF m pc Ls stk) rfl hsz (Steps.refl _) (a := a) (cell := cell) (by rw [eT]; exact hcell) hobj (argsL := argsL) (rest := rest) hlen hst (by show 2 * 0 + _ ≤ _; omega) hd (fun _ _ => ⟨has, eT, hc, hs⟩)
  dsimp only [Pt.U, Pt.locs, Pt.cells, Pt.slots] at X' hS' hgr hQ hO' eL ec es hC' st
  subst eL ec es
  exact Go.of (fun _ q => st.trans q) (go v U U.vm U.heap ⟨hx, rfl, State.Warmed39.trans (t := s.setVm V) hZ hS'.1, by rw [hS'.1.alike.findClass]; exact hown, hO', hE, hC.trans hC', hlk, _, _, X', hS.trans hS' (Nat.le_trans hk (eT ▸ hgr)), Nat.le_refl _, hF.app hF'⟩ hC' hQ)
/-- System.arraycopy of primitives -/
theorem g_copy (S : St p l e R s m args below meth c Z a0 EL n0 own T V h k n) (w1 : (Cond.methodLink own index Jvm.Stand.acN).before a0 Z = true) (w2 : (Cond.native Jvm.Stand.acN).before a0 Z = true) (w3 : (Cond.static Jvm.Stand.acN).before a0 Z = true) (w4 : (Cond.initialized "java/lang/System").before a0 Z = true)
    {a b : Addr} {ka kb : ClassId} {ty : FieldType} {za zb sp dp nn : Int32} {vs vd us : List Value} {dv dd : Value} (A : Arv Z h a ka ty za vs dv) (B : Arv Z h b kb ty zb vd dd) (hty : refKind ty = false) (h1 : ¬ sp < 0) (h2 : ¬ dp < 0) (h3 : ¬ nn < 0) (h4 : sp.toNatClampNeg + nn.toNatClampNeg ≤ za.toNatClampNeg) (h5 : dp.toNatClampNeg + nn.toNatClampNeg ≤ zb.toNatClampNeg)
    (hus : us = (List.range nn.toNatClampNeg).map fun i => vs.getD (sp.toNatClampNeg + i) dv) (hl : dp.toNatClampNeg + nn.toNatClampNeg ≤ vd.length) (ge : n0 ≤ b) (sf : Safe Z EL V h b) (hd : decode c.code pc = .ok (.invokestatic index, 3)) (hsz : Ls.size = c.maxLocals) (hf : 1 ≤ R.frames) (hlo : (rest.map fun v => v.category).sum + (nativeFrameWords "java/lang/System" "arraycopy" 5 + 11) ≤ R.locals)
    (go : ∀ T' h', St p l e R s m args below meth c Z a0 EL n0 own T' V h' k n → Keep h h' [b] → Arv Z h' b kb ty zb (vd.take dp.toNatClampNeg ++ us ++ vd.drop (dp.toNatClampNeg + nn.toNatClampNeg)) dd → Safe Z EL V h' b → Go p e below Q (T'.setTop (mkF m (pc + 3) Ls rest))) : Go p e below Q (T.setTop (mkF m pc Ls (.int nn :: .int dp :: .ref b :: .int sp :: .ref a :: rest))) := by
  obtain ⟨hx, eT, hZ, hown, hO, hE, hC, hlk, locs, k0, X, hS, hk, hF⟩ := S
  obtain ⟨T', h', L, X', e', hF', K, A', st⟩ := cpA X hx (s := s.setVm V) hZ hown w1 w2 w3 w4 eT A B (Or.inl ⟨rfl, hty⟩) h1 h2 h3 h4 h5 hus hl hF ge (g := mkF m pc Ls (.int nn :: .int dp :: .ref b :: .int sp :: .ref a :: rest)) rfl hsz rfl hd hf (W := (rest.map fun v => v.category).sum) (by show 2 * 0 + _ ≤ _; omega) hlo
  have sfs : ∀ x ∈ [b], Safe Z EL V h x := fun x q => by cases List.mem_singleton.mp q; exact sf
  exact Go.of st (go T' h' ⟨hx, e', hZ, hown, hO.keep K (allS ge all0), hE, hC.trans (CHr.keep K sfs hC.1), hlk, L, k0, X', hS, Nat.le_trans hk K.1, hF'⟩ K A' (Safe.keep K sfs hC.1 sf))
/-- a callee that is paid by a narrow law of the library's (or of a pasted text's): rc cells, rs slots -/
abbrev BkC (l : Launch) (R : Room) (p : Program) (e : Env) (below : List Frame) (s : State) (args : Array Value) (y : MethodName) (W : Nat) (as' : Array Value) (h : Heap) (rc rs : Nat) (QB : Option Value → Heap → List Loc → Prop) : Prop :=
  Back l R p e below s args y 3 W (fun A a => a = as' ∧ A.U.heap = h ∧ A.cells + rc ≤ R.cells ∧ A.slots + rs ≤ R.slots) (fun A _ v B => ∃ L, QB v B.U.heap L ∧ B.locs = A.locs ++ L ∧ B.cells = A.cells + rc ∧ B.slots = A.slots + rs)
theorem g_staticB {rc rs : Nat} {QB : Option Value → Heap → List Loc → Prop} (S : St p l e R s m args below meth c Z a0 EL n0 own T V h k n) {W : Nat} (B : ∀ s' : State, Z.Warmed39 s'.vm → BkC l R p e below s' args y W as' h rc rs QB) (wl : (Cond.methodLink own index y).before a0 Z = true) (ws : (Cond.static y).before a0 Z = true) (wi : (Cond.initialized y.cls).before a0 Z = true) (wc : (Cond.code y bytes maxL ret).before a0 Z = true) (hy : y.cls ≠ "java/lang/invoke/MethodHandle" ∧ y.cls ≠ "java/lang/invoke/VarHandle")
    (hd : decode c.code pc = .ok (.invokestatic index, 3)) (hsz : Ls.size = c.maxLocals) (argsL : List Value) (hlen : ∀ sig, parseMethodDescriptor y.desc = some sig → argsL.length = sig.parameters.length) (hst : stk = argsL.reverse ++ rest) (has : argsL.toArray = as') (hW : (rest.map fun v => v.category).sum ≤ W) (hc : k + rc ≤ R.cells) (hs : n + rs ≤ R.slots)
    (hq : ∀ v h' L, QB v h' L → Fr n0 L ∧ ∃ xs, Keep h h' xs ∧ (∀ x ∈ xs, Safe Z EL V h x) ∧ ∀ x ∈ xs, n0 ≤ x)
    (go : ∀ v T' h' L, St p l e R s m args below meth c Z a0 EL n0 own T' V h' (k + rc) (n + rs) → QB v h' L → Go p e below Q (T'.setTop (mkF m (pc + 3) Ls (v.toList ++ rest)))) : Go p e below Q (T.setTop (mkF m pc Ls stk)) := by
  obtain ⟨hx, eT, hZ, hown, hO, hE, hC, hlk, locs, k0, X, hS, hk, hF⟩ := S
  obtain ⟨v, vm1, ⟨U, Lc, kc, sc⟩, hW1, X', ⟨L, hQ, eL, ec, es⟩, st⟩ := Jvm.LawKit.callS X hx hown (mvT hZ wl) (mvT hZ ws) (mvT hZ wi) (mvT hZ wc) hy (B (s.setVm V) hZ) (g := mkF m pc Ls stk) rfl hsz (argsL := argsL) (rest := rest) hlen hst (by show 2 * 0 + _ ≤ _; omega) hd (fun _ _ => ⟨has, eT, hc, hs⟩)
  dsimp only [Pt.U, Pt.locs, Pt.cells, Pt.slots] at X' hQ eL ec es st
  subst eL ec es
  obtain ⟨hF', xs, K, sf, nx⟩ := hq _ _ _ hQ
  exact Go.of st (go v U U.heap L ⟨hx, rfl, hZ, hown, hO.keep K nx, hE, hC.trans (CHr.keep K sf hC.1), hlk, _, _, X', hS, Nat.le_trans hk K.1, hF.app hF'⟩ hQ)
theorem g_specialB {rc rs : Nat} {QB : Option Value → Heap → List Loc → Prop} (S : St p l e R s m args below meth c Z a0 EL n0 own T V h k n) {W : Nat} (B : ∀ s' : State, Z.Warmed39 s'.vm → BkC l R p e below s' args y W as' h rc rs QB) (hy1 : y.name = "<init>") (wl : (Cond.methodLink own index y).before a0 Z = true) (ws : (Cond.instanceMethod y).before a0 Z = true) (wc : (Cond.code y bytes maxL none).before a0 Z = true) (hy : y.cls ≠ "java/lang/invoke/MethodHandle" ∧ y.cls ≠ "java/lang/invoke/VarHandle")
    (hd : decode c.code pc = .ok (.invokespecial index, 3)) (hsz : Ls.size = c.maxLocals) (a : Addr) (argsL : List Value) (hlen : ∀ sig, parseMethodDescriptor y.desc = some sig → argsL.length = sig.parameters.length) (hst : stk = argsL.reverse ++ .ref a :: rest) (has : (.ref a :: argsL).toArray = as') (hW : (rest.map fun v => v.category).sum ≤ W) (hc : k + rc ≤ R.cells) (hs : n + rs ≤ R.slots)
    (hq : ∀ v h' L, QB v h' L → Fr n0 L ∧ ∃ xs, Keep h h' xs ∧ (∀ x ∈ xs, Safe Z EL V h x) ∧ ∀ x ∈ xs, n0 ≤ x)
    (go : ∀ v T' h' L, St p l e R s m args below meth c Z a0 EL n0 own T' V h' (k + rc) (n + rs) → QB v h' L → Go p e below Q (T'.setTop (mkF m (pc + 3) Ls (v.toList ++ rest)))) : Go p e below Q (T.setTop (mkF m pc Ls stk)) := by
  obtain ⟨hx, eT, hZ, hown, hO, hE, hC, hlk, locs, k0, X, hS, hk, hF⟩ := S
  obtain ⟨v, vm1, ⟨U, Lc, kc, sc⟩, hW1, X', ⟨L, hQ, eL, ec, es⟩, st⟩ := X.specialBack hx hy1 hown (mvT hZ wl) (mvT hZ ws) (mvT hZ wc) hy (B (s.setVm V) hZ) (g := mkF m pc Ls stk) rfl hsz (Steps.refl _) (a := a) (argsL := argsL) (rest := rest) hlen hst (by show 2 * 0 + _ ≤ _; omega) hd (fun _ _ => ⟨has, eT, hc, hs⟩)
  dsimp only [Pt.U, Pt.locs, Pt.cells, Pt.slots] at X' hQ eL ec es st
  subst eL ec es
  obtain ⟨hF', xs, K, sf, nx⟩ := hq _ _ _ hQ
  exact Go.of (fun _ q => st.trans q) (go v U U.heap L ⟨hx, rfl, hZ, hown, hO.keep K nx, hE, hC.trans (CHr.keep K sf hC.1), hlk, _, _, X', hS, Nat.le_trans hk K.1, hF.app hF'⟩ hQ)
theorem g_virtualB {C : String} {rc rs : Nat} {QB : Option Value → Heap → List Loc → Prop} (S : St p l e R s m args below meth c Z a0 EL n0 own T V h k n) {W : Nat} (B : ∀ s' : State, Z.Warmed39 s'.vm → BkC l R p e below s' args z W as' h rc rs QB) (wl : (Cond.methodLink own index y).before a0 Z = true) (wd : (Cond.declares y).before a0 Z = true) (wse : (Cond.selects C y z).before a0 Z = true) (ws : (Cond.instanceMethod z).before a0 Z = true) (hy : y.cls ≠ "java/lang/invoke/MethodHandle" ∧ y.cls ≠ "java/lang/invoke/VarHandle")
    (hnf : ∀ s' : State, (Cond.selects C y z).before args s' = true → NotFace s' y) (hd : decode c.code pc = .ok (.invokevirtual index, 3)) (hsz : Ls.size = c.maxLocals) (a : Addr) (E : Exa Z h a C) (argsL : List Value) (hlen : ∀ sig, parseMethodDescriptor y.desc = some sig → argsL.length = sig.parameters.length) (hst : stk = argsL.reverse ++ .ref a :: rest) (has : (.ref a :: argsL).toArray = as') (hW : (rest.map fun v => v.category).sum ≤ W) (hc : k + rc ≤ R.cells) (hs : n + rs ≤ R.slots)
    (hq : ∀ v h' L, QB v h' L → Fr n0 L ∧ ∃ xs, Keep h h' xs ∧ (∀ x ∈ xs, Safe Z EL V h x) ∧ ∀ x ∈ xs, n0 ≤ x)
    (go : ∀ v T' h' L, St p l e R s m args below meth c Z a0 EL n0 own T' V h' (k + rc) (n + rs) → QB v h' L → Go p e below Q (T'.setTop (mkF m (pc + 3) Ls (v.toList ++ rest)))) : Go p e below Q (T.setTop (mkF m pc Ls stk)) := by
  obtain ⟨hx, eT, hZ, hown, hO, hE, hC, hlk, locs, k0, X, hS, hk, hF⟩ := S
  obtain ⟨cq, kq, q1, q2, q3⟩ := isOf (s := s.setVm V) hZ eT E
  obtain ⟨v, vm1, ⟨U, Lc, kc, sc⟩, hW1, X', ⟨L, hQ, eL, ec, es⟩, st⟩ := X.virtualBack hx hown (mvT hZ wl) (mvT hZ wd) (hnf _ (mvT hZ wse)) (mvT hZ wse) (mvT hZ ws) hy (B (s.setVm V) hZ) q1 q3 (g := mkF m pc Ls stk) rfl hsz (Steps.refl _) (argsL := argsL) (rest := rest) hlen hst (by show 2 * 0 + _ ≤ _; omega) hd (fun _ _ => ⟨has, eT, hc, hs⟩)
  dsimp only [Pt.U, Pt.locs, Pt.cells, Pt.slots] at X' hQ eL ec es st
  subst eL ec es
  obtain ⟨hF', xs, K, sf, nx⟩ := hq _ _ _ hQ
  exact Go.of (fun _ q => st.trans q) (go v U U.heap L ⟨hx, rfl, hZ, hown, hO.keep K nx, hE, hC.trans (CHr.keep K sf hC.1), hlk, _, _, X', hS, Nat.le_trans hk K.1, hF.app hF'⟩ hQ)
end Calls
theorem g_icmp (S : St p l e R s m args below meth c Z a0 EL n0 own T V h k n) {cd : ClassFile.Cond} {x y : Int32} {o : Int} {pcT : Nat} (hd : decode c.code pc = .ok (.if_icmp cd o, 3)) (ho : 0 ≤ (pc : Int) + o) (hp : ((pc : Int) + o).toNat = pcT) (yes : if_icmp.holds cd x y = true → Go p e below Q (T.setTop (mkF m pcT Ls rest))) (no : if_icmp.holds cd x y = false → Go p e below Q (T.setTop (mkF m (pc + 3) Ls rest))) : Go p e below Q (T.setTop (mkF m pc Ls (.int y :: .int x :: rest))) := by
  cases q : if_icmp.holds cd x y
  · exact Go.of (fun _ r => XS.icmpNo S.here S.hx rfl hd rfl q r) (no q)
  · exact Go.of (fun _ r => XS.icmpYes S.here S.hx rfl (pc0 := pc) (pc' := pcT) rfl hd rfl q ho hp r) (yes q)
theorem g_if (S : St p l e R s m args below meth c Z a0 EL n0 own T V h k n) {cd : ClassFile.Cond} {x : Int32} {o : Int} {pcT : Nat} (hd : decode c.code pc = .ok (.ifCond cd o, 3)) (ho : 0 ≤ (pc : Int) + o) (hp : ((pc : Int) + o).toNat = pcT) (yes : if_icmp.holds cd x 0 = true → Go p e below Q (T.setTop (mkF m pcT Ls rest))) (no : if_icmp.holds cd x 0 = false → Go p e below Q (T.setTop (mkF m (pc + 3) Ls rest))) : Go p e below Q (T.setTop (mkF m pc Ls (.int x :: rest))) := by
  cases q : if_icmp.holds cd x 0
  · exact Go.of (fun _ r => XS.ifNo S.here S.hx rfl hd rfl ((if0 _ _).trans q) r) (no q)
  · exact Go.of (fun _ r => XS.ifYes S.here S.hx rfl (pc0 := pc) (pc' := pcT) rfl hd rfl ((if0 _ _).trans q) ho hp r) (yes q)
theorem icT_eq {x y : Int32} (h : if_icmp.holds .eq x y = true) : x = y := by simpa [if_icmp.holds] using h
theorem icF_eq {x y : Int32} (h : if_icmp.holds .eq x y = false) : ¬ x = y := by simpa [if_icmp.holds] using h
theorem icT_ne {x y : Int32} (h : if_icmp.holds .ne x y = true) : ¬ x = y := by simpa [if_icmp.holds] using h
theorem icF_ne {x y : Int32} (h : if_icmp.holds .ne x y = false) : x = y := by simpa [if_icmp.holds] using h
theorem icT_lt {x y : Int32} (h : if_icmp.holds .lt x y = true) : x < y := by simpa [if_icmp.holds] using h
theorem icF_lt {x y : Int32} (h : if_icmp.holds .lt x y = false) : ¬ x < y := by simpa [if_icmp.holds] using h
theorem icT_ge {x y : Int32} (h : if_icmp.holds .ge x y = true) : ¬ x < y := fun q => by rw [(tlt q).2.1] at h; cases h
theorem icF_ge {x y : Int32} (h : if_icmp.holds .ge x y = false) : x < y := Decidable.byContradiction fun q => by rw [(flt q).2.1] at h; cases h
theorem icT_gt {x y : Int32} (h : if_icmp.holds .gt x y = true) : y < x := Decidable.byContradiction fun q => by rw [(flt q).2.2.1] at h; cases h
theorem icF_gt {x y : Int32} (h : if_icmp.holds .gt x y = false) : ¬ y < x := fun q => by rw [(tlt q).2.2.1] at h; cases h
theorem icT_le {x y : Int32} (h : if_icmp.holds .le x y = true) : ¬ y < x := fun q => by rw [(tlt q).2.2.2] at h; cases h
theorem icF_le {x y : Int32} (h : if_icmp.holds .le x y = false) : y < x := Decidable.byContradiction fun q => by rw [(flt q).2.2.2] at h; cases h
theorem g_caload (S : St p l e R s m args below meth c Z a0 EL n0 own T V h k n) {a : Addr} {kc : ClassId} {z : Int32} {vs : List Value} {dv : Value} (A : Arv Z h a kc .char z vs dv) {j : Int32} (hj : ¬ j < 0 ∧ j < z) {x : Int32} (hv : vs.getD j.toNatClampNeg dv = .int x) (hd : decode c.code pc = .ok (.caload, 1)) (go : Go p e below Q (T.setTop (mkF m (pc + 1) Ls (.int x :: rest)))) : Go p e below Q (T.setTop (mkF m pc Ls (.int j :: .ref a :: rest))) := by
  obtain ⟨hx, eT, hZ, hown, hO, hE, hC, hlk, locs, k0, X, hS, hk, hF⟩ := S
  obtain ⟨cl, Ar, q1, q2, q3, q4, q5⟩ := A
  have hin := inb_of q2 hj
  exact Go.of (fun _ q => X.caload hx (j := j) (v := .int x) (by rw [eT]; exact Ar.1) (State.isArrayOf_alike (T := s.setVm V) hZ.alike Ar.2.1) Ar.2.2 hin (q4.at hin hv) (g := mkF m pc Ls (.int j :: .ref a :: rest)) rfl rfl hd _ q) go
theorem g_len (S : St p l e R s m args below meth c Z a0 EL n0 own T V h k n) {a : Addr} {kc : ClassId} {ty : FieldType} {z : Int32} {vs : List Value} {dv : Value} (A : Arv Z h a kc ty z vs dv) (hd : decode c.code pc = .ok (.arraylength, 1)) (go : Go p e below Q (T.setTop (mkF m (pc + 1) Ls (.int z :: rest)))) : Go p e below Q (T.setTop (mkF m pc Ls (.ref a :: rest))) := by
  obtain ⟨hx, eT, hZ, hown, hO, hE, hC, hlk, locs, k0, X, hS, hk, hF⟩ := S
  obtain ⟨cl, Ar, q1, q2, q3, q4, q5⟩ := A
  rw [← len_of q2 q3] at go
  exact Go.of (fun _ q => X.arraylength hx (by rw [eT]; exact Ar.1) (State.isArrayOf_alike (T := s.setVm V) hZ.alike Ar.2.1) (g := mkF m pc Ls (.ref a :: rest)) rfl rfl hd _ q) go
theorem s_iload {i : Nat} {v : Int32} (S : St p l e R s m args below meth c Z a0 EL n0 own T V h k n) (hd : decode c.code pc = .ok (.iload i, 2)) (hv : Ls[i]? = some (.val (.int v))) {pc' : Nat} (hp : pc + 2 = pc') (go : Go p e below Q (T.setTop (mkF m pc' Ls (.int v :: rest)))) : Go p e below Q (T.setTop (mkF m pc Ls rest)) := by
  subst hp; exact Go.of (fun _ q => XS.iload S.here S.hx rfl hd hv q) go
theorem s_iloadN {i : Fin 4} {v : Int32} (S : St p l e R s m args below meth c Z a0 EL n0 own T V h k n) (hd : decode c.code pc = .ok (.iload_n i, 1)) (hv : Ls[i.val]? = some (.val (.int v))) {pc' : Nat} (hp : pc + 1 = pc') (go : Go p e below Q (T.setTop (mkF m pc' Ls (.int v :: rest)))) : Go p e below Q (T.setTop (mkF m pc Ls rest)) := by
  subst hp; exact Go.of (fun _ q => XS.iloadN S.here S.hx rfl hd hv q) go
theorem s_lload {i : Nat} {v : Int64} (S : St p l e R s m args below meth c Z a0 EL n0 own T V h k n) (hd : decode c.code pc = .ok (.lload i, 2)) (hv : Ls[i]? = some (.val (.long v))) {pc' : Nat} (hp : pc + 2 = pc') (go : Go p e below Q (T.setTop (mkF m pc' Ls (.long v :: rest)))) : Go p e below Q (T.setTop (mkF m pc Ls rest)) := by
  subst hp; exact Go.of (fun _ q => XS.lload S.here S.hx rfl hd hv q) go
theorem s_lloadN {i : Fin 4} {v : Int64} (S : St p l e R s m args below meth c Z a0 EL n0 own T V h k n) (hd : decode c.code pc = .ok (.lload_n i, 1)) (hv : Ls[i.val]? = some (.val (.long v))) {pc' : Nat} (hp : pc + 1 = pc') (go : Go p e below Q (T.setTop (mkF m pc' Ls (.long v :: rest)))) : Go p e below Q (T.setTop (mkF m pc Ls rest)) := by
  subst hp; exact Go.of (fun _ q => XS.lloadN S.here S.hx rfl hd hv q) go
theorem s_aload {i : Nat} {v : Value} (S : St p l e R s m args below meth c Z a0 EL n0 own T V h k n) (hd : decode c.code pc = .ok (.aload i, 2)) (hv : Ls[i]? = some (.val v)) (hr : v.isRef = true) {pc' : Nat} (hp : pc + 2 = pc') (go : Go p e below Q (T.setTop (mkF m pc' Ls (v :: rest)))) : Go p e below Q (T.setTop (mkF m pc Ls rest)) := by
  subst hp; exact Go.of (fun _ q => XS.aload S.here S.hx rfl hd hv hr q) go
theorem s_aloadN {i : Fin 4} {v : Value} (S : St p l e R s m args below meth c Z a0 EL n0 own T V h k n) (hd : decode c.code pc = .ok (.aload_n i, 1)) (hv : Ls[i.val]? = some (.val v)) (hr : v.isRef = true) {pc' : Nat} (hp : pc + 1 = pc') (go : Go p e below Q (T.setTop (mkF m pc' Ls (v :: rest)))) : Go p e below Q (T.setTop (mkF m pc Ls rest)) := by
  subst hp; exact Go.of (fun _ q => XS.aloadN S.here S.hx rfl hd hv hr q) go
theorem s_istore {i : Nat} {v : Int32} {L' : Array Slot} (S : St p l e R s m args below meth c Z a0 EL n0 own T V h k n) (hd : decode c.code pc = .ok (.istore i, 2)) (hl : storeLocals Ls i (.int v) = some L') {pc' : Nat} (hp : pc + 2 = pc') (go : Go p e below Q (T.setTop (mkF m pc' L' rest))) : Go p e below Q (T.setTop (mkF m pc Ls (.int v :: rest))) := by
  subst hp; exact Go.of (fun _ q => XS.istore S.here S.hx rfl hd rfl hl q) go
theorem s_istoreN {i : Fin 4} {v : Int32} {L' : Array Slot} (S : St p l e R s m args below meth c Z a0 EL n0 own T V h k n) (hd : decode c.code pc = .ok (.istore_n i, 1)) (hl : storeLocals Ls i.val (.int v) = some L') {pc' : Nat} (hp : pc + 1 = pc') (go : Go p e below Q (T.setTop (mkF m pc' L' rest))) : Go p e below Q (T.setTop (mkF m pc Ls (.int v :: rest))) := by
  subst hp; exact Go.of (fun _ q => XS.istoreN S.here S.hx rfl hd rfl hl q) go
theorem s_lstore {i : Nat} {v : Int64} {L' : Array Slot} (S : St p l e R s m args below meth c Z a0 EL n0 own T V h k n) (hd : decode c.code pc = .ok (.lstore i, 2)) (hl : storeLocals Ls i (.long v) = some L') {pc' : Nat} (hp : pc + 2 = pc') (go : Go p e below Q (T.setTop (mkF m pc' L' rest))) : Go p e below Q (T.setTop (mkF m pc Ls (.long v :: rest))) := by
  subst hp; exact Go.of (fun _ q => XS.lstore S.here S.hx rfl hd rfl hl q) go
theorem s_lstoreN {i : Fin 4} {v : Int64} {L' : Array Slot} (S : St p l e R s m args below meth c Z a0 EL n0 own T V h k n) (hd : decode c.code pc = .ok (.lstore_n i, 1)) (hl : storeLocals Ls i.val (.long v) = some L') {pc' : Nat} (hp : pc + 1 = pc') (go : Go p e below Q (T.setTop (mkF m pc' L' rest))) : Go p e below Q (T.setTop (mkF m pc Ls (.long v :: rest))) := by
  subst hp; exact Go.of (fun _ q => XS.lstoreN S.here S.hx rfl hd rfl hl q) go
theorem s_astore {i : Nat} {v : Value} {L' : Array Slot} (S : St p l e R s m args below meth c Z a0 EL n0 own T V h k n) (hd : decode c.code pc = .ok (.astore i, 2)) (hr : v.isRef = true) (hl : storeLocals Ls i v = some L') {pc' : Nat} (hp : pc + 2 = pc') (go : Go p e below Q (T.setTop (mkF m pc' L' rest))) : Go p e below Q (T.setTop (mkF m pc Ls (v :: rest))) := by
  subst hp; exact Go.of (fun _ q => XS.astore S.here S.hx rfl hd rfl hr hl q) go
theorem s_astoreN {i : Fin 4} {v : Value} {L' : Array Slot} (S : St p l e R s m args below meth c Z a0 EL n0 own T V h k n) (hd : decode c.code pc = .ok (.astore_n i, 1)) (hr : v.isRef = true) (hl : storeLocals Ls i.val v = some L') {pc' : Nat} (hp : pc + 1 = pc') (go : Go p e below Q (T.setTop (mkF m pc' L' rest))) : Go p e below Q (T.setTop (mkF m pc Ls (v :: rest))) := by
  subst hp; exact Go.of (fun _ q => XS.astoreN S.here S.hx rfl hd rfl hr hl q) go
theorem s_iconst {i : Int} {v : Int32} (S : St p l e R s m args below meth c Z a0 EL n0 own T V h k n) (hd : decode c.code pc = .ok (.iconst i, 1)) (hv : Int32.ofInt i = v) {pc' : Nat} (hp : pc + 1 = pc') (go : Go p e below Q (T.setTop (mkF m pc' Ls (.int v :: rest)))) : Go p e below Q (T.setTop (mkF m pc Ls rest)) := by
  subst hp hv; exact Go.of (fun _ q => XS.iconst S.here S.hx rfl hd q) go
theorem s_bipush {i : Int} {v : Int32} (S : St p l e R s m args below meth c Z a0 EL n0 own T V h k n) (hd : decode c.code pc = .ok (.bipush i, 2)) (hv : (Int8.ofInt i).toInt32 = v) {pc' : Nat} (hp : pc + 2 = pc') (go : Go p e below Q (T.setTop (mkF m pc' Ls (.int v :: rest)))) : Go p e below Q (T.setTop (mkF m pc Ls rest)) := by
  subst hp hv; exact Go.of (fun _ q => XS.bipush S.here S.hx rfl hd q) go
theorem s_sipush {i : Int} {v : Int32} (S : St p l e R s m args below meth c Z a0 EL n0 own T V h k n) (hd : decode c.code pc = .ok (.sipush i, 3)) (hv : (Int16.ofInt i).toInt32 = v) {pc' : Nat} (hp : pc + 3 = pc') (go : Go p e below Q (T.setTop (mkF m pc' Ls (.int v :: rest)))) : Go p e below Q (T.setTop (mkF m pc Ls rest)) := by
  subst hp hv; exact Go.of (fun _ q => XS.sipush S.here S.hx rfl hd q) go
theorem s_null  (S : St p l e R s m args below meth c Z a0 EL n0 own T V h k n) (hd : decode c.code pc = .ok (.aconst_null, 1))  {pc' : Nat} (hp : pc + 1 = pc') (go : Go p e below Q (T.setTop (mkF m pc' Ls (.null :: rest)))) : Go p e below Q (T.setTop (mkF m pc Ls rest)) := by
  subst hp; exact Go.of (fun _ q => XS.aconstNull S.here S.hx rfl hd q) go
theorem s_dup {v : Value} (S : St p l e R s m args below meth c Z a0 EL n0 own T V h k n) (hd : decode c.code pc = .ok (.dup, 1)) (hc : v.category = 1) {pc' : Nat} (hp : pc + 1 = pc') (go : Go p e below Q (T.setTop (mkF m pc' Ls (v :: v :: rest)))) : Go p e below Q (T.setTop (mkF m pc Ls (v :: rest))) := by
  subst hp; exact Go.of (fun _ q => XS.dup S.here S.hx rfl hd rfl hc q) go
theorem s_pop {v : Value} (S : St p l e R s m args below meth c Z a0 EL n0 own T V h k n) (hd : decode c.code pc = .ok (.pop, 1)) (hc : v.category = 1) {pc' : Nat} (hp : pc + 1 = pc') (go : Go p e below Q (T.setTop (mkF m pc' Ls rest))) : Go p e below Q (T.setTop (mkF m pc Ls (v :: rest))) := by
  subst hp; exact Go.of (fun _ q => XS.pop S.here S.hx rfl hd rfl hc q) go
theorem s_dupX1 {v u : Value} (S : St p l e R s m args below meth c Z a0 EL n0 own T V h k n) (hd : decode c.code pc = .ok (.dup_x1, 1)) (hc : v.category = 1) (hu : u.category = 1) {pc' : Nat} (hp : pc + 1 = pc') (go : Go p e below Q (T.setTop (mkF m pc' Ls (v :: u :: v :: rest)))) : Go p e below Q (T.setTop (mkF m pc Ls (v :: u :: rest))) := by
  subst hp; exact Go.of (fun _ q => XS.dupX1 S.here S.hx rfl hd rfl hc hu q) go
theorem s_iadd {x y z : Int32} (S : St p l e R s m args below meth c Z a0 EL n0 own T V h k n) (hd : decode c.code pc = .ok (.iadd, 1)) (hv : x + y = z) {pc' : Nat} (hp : pc + 1 = pc') (go : Go p e below Q (T.setTop (mkF m pc' Ls (.int z :: rest)))) : Go p e below Q (T.setTop (mkF m pc Ls (.int y :: .int x :: rest))) := by
  subst hp hv; exact Go.of (fun _ q => XS.iadd S.here S.hx rfl hd rfl q) go
theorem s_isub {x y z : Int32} (S : St p l e R s m args below meth c Z a0 EL n0 own T V h k n) (hd : decode c.code pc = .ok (.isub, 1)) (hv : x - y = z) {pc' : Nat} (hp : pc + 1 = pc') (go : Go p e below Q (T.setTop (mkF m pc' Ls (.int z :: rest)))) : Go p e below Q (T.setTop (mkF m pc Ls (.int y :: .int x :: rest))) := by
  subst hp hv; exact Go.of (fun _ q => XS.isub S.here S.hx rfl hd rfl q) go
theorem s_imul {x y z : Int32} (S : St p l e R s m args below meth c Z a0 EL n0 own T V h k n) (hd : decode c.code pc = .ok (.imul, 1)) (hv : x * y = z) {pc' : Nat} (hp : pc + 1 = pc') (go : Go p e below Q (T.setTop (mkF m pc' Ls (.int z :: rest)))) : Go p e below Q (T.setTop (mkF m pc Ls (.int y :: .int x :: rest))) := by
  subst hp hv; exact Go.of (fun _ q => XS.imul S.here S.hx rfl hd rfl q) go
theorem s_iand {x y z : Int32} (S : St p l e R s m args below meth c Z a0 EL n0 own T V h k n) (hd : decode c.code pc = .ok (.iand, 1)) (hv : x &&& y = z) {pc' : Nat} (hp : pc + 1 = pc') (go : Go p e below Q (T.setTop (mkF m pc' Ls (.int z :: rest)))) : Go p e below Q (T.setTop (mkF m pc Ls (.int y :: .int x :: rest))) := by
  subst hp hv; exact Go.of (fun _ q => XS.iand S.here S.hx rfl hd rfl q) go
theorem s_ior {x y z : Int32} (S : St p l e R s m args below meth c Z a0 EL n0 own T V h k n) (hd : decode c.code pc = .ok (.ior, 1)) (hv : x ||| y = z) {pc' : Nat} (hp : pc + 1 = pc') (go : Go p e below Q (T.setTop (mkF m pc' Ls (.int z :: rest)))) : Go p e below Q (T.setTop (mkF m pc Ls (.int y :: .int x :: rest))) := by
  subst hp hv; exact Go.of (fun _ q => XS.ior S.here S.hx rfl hd rfl q) go
theorem s_ixor {x y z : Int32} (S : St p l e R s m args below meth c Z a0 EL n0 own T V h k n) (hd : decode c.code pc = .ok (.ixor, 1)) (hv : x ^^^ y = z) {pc' : Nat} (hp : pc + 1 = pc') (go : Go p e below Q (T.setTop (mkF m pc' Ls (.int z :: rest)))) : Go p e below Q (T.setTop (mkF m pc Ls (.int y :: .int x :: rest))) := by
  subst hp hv; exact Go.of (fun _ q => XS.ixor S.here S.hx rfl hd rfl q) go
theorem s_ladd {x y z : Int64} (S : St p l e R s m args below meth c Z a0 EL n0 own T V h k n) (hd : decode c.code pc = .ok (.ladd, 1)) (hv : x + y = z) {pc' : Nat} (hp : pc + 1 = pc') (go : Go p e below Q (T.setTop (mkF m pc' Ls (.long z :: rest)))) : Go p e below Q (T.setTop (mkF m pc Ls (.long y :: .long x :: rest))) := by
  subst hp hv; exact Go.of (fun _ q => XS.ladd S.here S.hx rfl hd rfl q) go
theorem s_lsub {x y z : Int64} (S : St p l e R s m args below meth c Z a0 EL n0 own T V h k n) (hd : decode c.code pc = .ok (.lsub, 1)) (hv : x - y = z) {pc' : Nat} (hp : pc + 1 = pc') (go : Go p e below Q (T.setTop (mkF m pc' Ls (.long z :: rest)))) : Go p e below Q (T.setTop (mkF m pc Ls (.long y :: .long x :: rest))) := by
  subst hp hv; exact Go.of (fun _ q => XS.lsub S.here S.hx rfl hd rfl q) go
theorem s_lmul {x y z : Int64} (S : St p l e R s m args below meth c Z a0 EL n0 own T V h k n) (hd : decode c.code pc = .ok (.lmul, 1)) (hv : x * y = z) {pc' : Nat} (hp : pc + 1 = pc') (go : Go p e below Q (T.setTop (mkF m pc' Ls (.long z :: rest)))) : Go p e below Q (T.setTop (mkF m pc Ls (.long y :: .long x :: rest))) := by
  subst hp hv; exact Go.of (fun _ q => XS.lmul S.here S.hx rfl hd rfl q) go
theorem s_land {x y z : Int64} (S : St p l e R s m args below meth c Z a0 EL n0 own T V h k n) (hd : decode c.code pc = .ok (.land, 1)) (hv : x &&& y = z) {pc' : Nat} (hp : pc + 1 = pc') (go : Go p e below Q (T.setTop (mkF m pc' Ls (.long z :: rest)))) : Go p e below Q (T.setTop (mkF m pc Ls (.long y :: .long x :: rest))) := by
  subst hp hv; exact Go.of (fun _ q => XS.land S.here S.hx rfl hd rfl q) go
theorem s_lor {x y z : Int64} (S : St p l e R s m args below meth c Z a0 EL n0 own T V h k n) (hd : decode c.code pc = .ok (.lor, 1)) (hv : x ||| y = z) {pc' : Nat} (hp : pc + 1 = pc') (go : Go p e below Q (T.setTop (mkF m pc' Ls (.long z :: rest)))) : Go p e below Q (T.setTop (mkF m pc Ls (.long y :: .long x :: rest))) := by
  subst hp hv; exact Go.of (fun _ q => XS.lor S.here S.hx rfl hd rfl q) go
theorem s_lxor {x y z : Int64} (S : St p l e R s m args below meth c Z a0 EL n0 own T V h k n) (hd : decode c.code pc = .ok (.lxor, 1)) (hv : x ^^^ y = z) {pc' : Nat} (hp : pc + 1 = pc') (go : Go p e below Q (T.setTop (mkF m pc' Ls (.long z :: rest)))) : Go p e below Q (T.setTop (mkF m pc Ls (.long y :: .long x :: rest))) := by
  subst hp hv; exact Go.of (fun _ q => XS.lxor S.here S.hx rfl hd rfl q) go
theorem s_ishl {x y z : Int32} (S : St p l e R s m args below meth c Z a0 EL n0 own T V h k n) (hd : decode c.code pc = .ok (.ishl, 1)) (hv : x <<< (y &&& 31) = z) {pc' : Nat} (hp : pc + 1 = pc') (go : Go p e below Q (T.setTop (mkF m pc' Ls (.int z :: rest)))) : Go p e below Q (T.setTop (mkF m pc Ls (.int y :: .int x :: rest))) := by
  subst hp hv; exact Go.of (fun _ q => XS.ishl S.here S.hx rfl hd rfl q) go
theorem s_ishr {x y z : Int32} (S : St p l e R s m args below meth c Z a0 EL n0 own T V h k n) (hd : decode c.code pc = .ok (.ishr, 1)) (hv : x >>> (y &&& 31) = z) {pc' : Nat} (hp : pc + 1 = pc') (go : Go p e below Q (T.setTop (mkF m pc' Ls (.int z :: rest)))) : Go p e below Q (T.setTop (mkF m pc Ls (.int y :: .int x :: rest))) := by
  subst hp hv; exact Go.of (fun _ q => XS.ishr S.here S.hx rfl hd rfl q) go
theorem s_iushr {x y z : Int32} (S : St p l e R s m args below meth c Z a0 EL n0 own T V h k n) (hd : decode c.code pc = .ok (.iushr, 1)) (hv : (x.toUInt32 >>> (y &&& 31).toUInt32).toInt32 = z) {pc' : Nat} (hp : pc + 1 = pc') (go : Go p e below Q (T.setTop (mkF m pc' Ls (.int z :: rest)))) : Go p e below Q (T.setTop (mkF m pc Ls (.int y :: .int x :: rest))) := by
  subst hp hv; exact Go.of (fun _ q => XS.iushr S.here S.hx rfl hd rfl q) go
theorem s_lshl {x z : Int64} {y : Int32} (S : St p l e R s m args below meth c Z a0 EL n0 own T V h k n) (hd : decode c.code pc = .ok (.lshl, 1)) (hv : x <<< (y &&& 0x3f).toInt64 = z) {pc' : Nat} (hp : pc + 1 = pc') (go : Go p e below Q (T.setTop (mkF m pc' Ls (.long z :: rest)))) : Go p e below Q (T.setTop (mkF m pc Ls (.int y :: .long x :: rest))) := by
  subst hp hv; exact Go.of (fun _ q => XS.lshl S.here S.hx rfl hd rfl q) go
theorem s_lshr {x z : Int64} {y : Int32} (S : St p l e R s m args below meth c Z a0 EL n0 own T V h k n) (hd : decode c.code pc = .ok (.lshr, 1)) (hv : x >>> (y &&& 0x3f).toInt64 = z) {pc' : Nat} (hp : pc + 1 = pc') (go : Go p e below Q (T.setTop (mkF m pc' Ls (.long z :: rest)))) : Go p e below Q (T.setTop (mkF m pc Ls (.int y :: .long x :: rest))) := by
  subst hp hv; exact Go.of (fun _ q => XS.lshr S.here S.hx rfl hd rfl q) go
theorem s_lushr {x z : Int64} {y : Int32} (S : St p l e R s m args below meth c Z a0 EL n0 own T V h k n) (hd : decode c.code pc = .ok (.lushr, 1)) (hv : (x.toUInt64 >>> (y &&& 0x3f).toInt64.toUInt64).toInt64 = z) {pc' : Nat} (hp : pc + 1 = pc') (go : Go p e below Q (T.setTop (mkF m pc' Ls (.long z :: rest)))) : Go p e below Q (T.setTop (mkF m pc Ls (.int y :: .long x :: rest))) := by
  subst hp hv; exact Go.of (fun _ q => XS.lushr S.here S.hx rfl hd rfl q) go
theorem s_i2c {x z : Int32} (S : St p l e R s m args below meth c Z a0 EL n0 own T V h k n) (hd : decode c.code pc = .ok (.i2c, 1)) (hv : x.toUInt32.toUInt16.toUInt32.toInt32 = z) {pc' : Nat} (hp : pc + 1 = pc') (go : Go p e below Q (T.setTop (mkF m pc' Ls (.int z :: rest)))) : Go p e below Q (T.setTop (mkF m pc Ls (.int x :: rest))) := by
  subst hp hv; exact Go.of (fun _ q => XS.i2c S.here S.hx rfl hd rfl q) go
theorem s_i2b {x z : Int32} (S : St p l e R s m args below meth c Z a0 EL n0 own T V h k n) (hd : decode c.code pc = .ok (.i2b, 1)) (hv : x.toInt8.toInt32 = z) {pc' : Nat} (hp : pc + 1 = pc') (go : Go p e below Q (T.setTop (mkF m pc' Ls (.int z :: rest)))) : Go p e below Q (T.setTop (mkF m pc Ls (.int x :: rest))) := by
  subst hp hv; exact Go.of (fun _ q => XS.i2b S.here S.hx rfl hd rfl q) go
theorem s_i2s {x z : Int32} (S : St p l e R s m args below meth c Z a0 EL n0 own T V h k n) (hd : decode c.code pc = .ok (.i2s, 1)) (hv : x.toInt16.toInt32 = z) {pc' : Nat} (hp : pc + 1 = pc') (go : Go p e below Q (T.setTop (mkF m pc' Ls (.int z :: rest)))) : Go p e below Q (T.setTop (mkF m pc Ls (.int x :: rest))) := by
  subst hp hv; exact Go.of (fun _ q => XS.i2s S.here S.hx rfl hd rfl q) go
theorem s_i2l {x : Int32} {z : Int64} (S : St p l e R s m args below meth c Z a0 EL n0 own T V h k n) (hd : decode c.code pc = .ok (.i2l, 1)) (hv : x.toInt64 = z) {pc' : Nat} (hp : pc + 1 = pc') (go : Go p e below Q (T.setTop (mkF m pc' Ls (.long z :: rest)))) : Go p e below Q (T.setTop (mkF m pc Ls (.int x :: rest))) := by
  subst hp hv; exact Go.of (fun _ q => XS.i2l S.here S.hx rfl hd rfl q) go
theorem s_l2i {x : Int64} {z : Int32} (S : St p l e R s m args below meth c Z a0 EL n0 own T V h k n) (hd : decode c.code pc = .ok (.l2i, 1)) (hv : x.toInt32 = z) {pc' : Nat} (hp : pc + 1 = pc') (go : Go p e below Q (T.setTop (mkF m pc' Ls (.int z :: rest)))) : Go p e below Q (T.setTop (mkF m pc Ls (.long x :: rest))) := by
  subst hp hv; exact Go.of (fun _ q => XS.l2i S.here S.hx rfl hd rfl q) go
theorem s_lcmp {x y : Int64} {z : Int32} (S : St p l e R s m args below meth c Z a0 EL n0 own T V h k n) (hd : decode c.code pc = .ok (.lcmp, 1)) (hv : lcmpW x y = z) {pc' : Nat} (hp : pc + 1 = pc') (go : Go p e below Q (T.setTop (mkF m pc' Ls (.int z :: rest)))) : Go p e below Q (T.setTop (mkF m pc Ls (.long y :: .long x :: rest))) := by
  subst hp hv; exact Go.of (fun _ q => XS.lcmp S.here S.hx rfl hd rfl q) go
theorem s_idiv {x y z : Int32} (S : St p l e R s m args below meth c Z a0 EL n0 own T V h k n) (hd : decode c.code pc = .ok (.idiv, 1)) (h0 : y ≠ 0) (hv : x / y = z) {pc' : Nat} (hp : pc + 1 = pc') (go : Go p e below Q (T.setTop (mkF m pc' Ls (.int z :: rest)))) : Go p e below Q (T.setTop (mkF m pc Ls (.int y :: .int x :: rest))) := by
  subst hp hv; exact Go.of (fun _ q => XS.idiv S.here S.hx rfl hd rfl h0 q) go
theorem s_ldiv {x y z : Int64} (S : St p l e R s m args below meth c Z a0 EL n0 own T V h k n) (hd : decode c.code pc = .ok (.ldiv, 1)) (h0 : y ≠ 0) (hv : x / y = z) {pc' : Nat} (hp : pc + 1 = pc') (go : Go p e below Q (T.setTop (mkF m pc' Ls (.long z :: rest)))) : Go p e below Q (T.setTop (mkF m pc Ls (.long y :: .long x :: rest))) := by
  subst hp hv; exact Go.of (fun _ q => XS.ldiv S.here S.hx rfl hd rfl h0 q) go
theorem s_irem {x y z : Int32} (S : St p l e R s m args below meth c Z a0 EL n0 own T V h k n) (hd : decode c.code pc = .ok (.irem, 1)) (h0 : y ≠ 0) (hv : x % y = z) {pc' : Nat} (hp : pc + 1 = pc') (go : Go p e below Q (T.setTop (mkF m pc' Ls (.int z :: rest)))) : Go p e below Q (T.setTop (mkF m pc Ls (.int y :: .int x :: rest))) := by
  subst hp hv; rw [← irem_eq_mod] at go; exact Go.of (fun _ q => XS.irem S.here S.hx rfl hd rfl h0 q) go
theorem s_goto (S : St p l e R s m args below meth c Z a0 EL n0 own T V h k n) {o : Int} {pcT : Nat} (hd : decode c.code pc = .ok (.goto o, 3)) (ho : 0 ≤ (pc : Int) + o) (hp : ((pc : Int) + o).toNat = pcT) (go : Go p e below Q (T.setTop (mkF m pcT Ls rest))) : Go p e below Q (T.setTop (mkF m pc Ls rest)) := Go.of (fun _ q => XS.goto S.here S.hx rfl (pc0 := pc) (pc' := pcT) rfl hd ho hp q) go
theorem s_iinc {i : Nat} {d : Int} {v z : Int32} {L' : Array Slot} (S : St p l e R s m args below meth c Z a0 EL n0 own T V h k n) (hd : decode c.code pc = .ok (.iinc i d, 3)) (hv : Ls[i]? = some (.val (.int v))) (hz : v + Int32.ofInt d = z) (hl : storeLocals Ls i (.int z) = some L') {pc' : Nat} (hp : pc + 3 = pc') (go : Go p e below Q (T.setTop (mkF m pc' L' rest))) : Go p e below Q (T.setTop (mkF m pc Ls rest)) := by
  subst hp hz; exact Go.of (fun _ q => XS.iinc S.here S.hx rfl hd hv hl q) go
theorem s_icmpY (S : St p l e R s m args below meth c Z a0 EL n0 own T V h k n) {cd : ClassFile.Cond} {x y : Int32} {o : Int} {pcT : Nat} (hd : decode c.code pc = .ok (.if_icmp cd o, 3)) (hc : if_icmp.holds cd x y = true) (ho : 0 ≤ (pc : Int) + o) (hp : ((pc : Int) + o).toNat = pcT) (go : Go p e below Q (T.setTop (mkF m pcT Ls rest))) : Go p e below Q (T.setTop (mkF m pc Ls (.int y :: .int x :: rest))) := Go.of (fun _ r => XS.icmpYes S.here S.hx rfl (pc0 := pc) (pc' := pcT) rfl hd rfl hc ho hp r) go
theorem s_icmpN (S : St p l e R s m args below meth c Z a0 EL n0 own T V h k n) {cd : ClassFile.Cond} {x y : Int32} {o : Int} (hd : decode c.code pc = .ok (.if_icmp cd o, 3)) (hc : if_icmp.holds cd x y = false) {pc' : Nat} (hp : pc + 3 = pc') (go : Go p e below Q (T.setTop (mkF m pc' Ls rest))) : Go p e below Q (T.setTop (mkF m pc Ls (.int y :: .int x :: rest))) := by
  subst hp; exact Go.of (fun _ r => XS.icmpNo S.here S.hx rfl hd rfl hc r) go
theorem s_ifY (S : St p l e R s m args below meth c Z a0 EL n0 own T V h k n) {cd : ClassFile.Cond} {x : Int32} {o : Int} {pcT : Nat} (hd : decode c.code pc = .ok (.ifCond cd o, 3)) (hc : ifCond.holds cd x = true) (ho : 0 ≤ (pc : Int) + o) (hp : ((pc : Int) + o).toNat = pcT) (go : Go p e below Q (T.setTop (mkF m pcT Ls rest))) : Go p e below Q (T.setTop (mkF m pc Ls (.int x :: rest))) := Go.of (fun _ r => XS.ifYes S.here S.hx rfl (pc0 := pc) (pc' := pcT) rfl hd rfl hc ho hp r) go
theorem s_ifN (S : St p l e R s m args below meth c Z a0 EL n0 own T V h k n) {cd : ClassFile.Cond} {x : Int32} {o : Int} (hd : decode c.code pc = .ok (.ifCond cd o, 3)) (hc : ifCond.holds cd x = false) {pc' : Nat} (hp : pc + 3 = pc') (go : Go p e below Q (T.setTop (mkF m pc' Ls rest))) : Go p e below Q (T.setTop (mkF m pc Ls (.int x :: rest))) := by
  subst hp; exact Go.of (fun _ r => XS.ifNo S.here S.hx rfl hd rfl hc r) go
theorem s_nullY (S : St p l e R s m args below meth c Z a0 EL n0 own T V h k n) {o : Int} {pcT : Nat} (hd : decode c.code pc = .ok (.ifnull o, 3)) (ho : 0 ≤ (pc : Int) + o) (hp : ((pc : Int) + o).toNat = pcT) (go : Go p e below Q (T.setTop (mkF m pcT Ls rest))) : Go p e below Q (T.setTop (mkF m pc Ls (.null :: rest))) := Go.of (fun _ r => XS.ifnullYes S.here S.hx rfl (pc0 := pc) (pc' := pcT) rfl hd rfl ho hp r) go
theorem s_nullN (S : St p l e R s m args below meth c Z a0 EL n0 own T V h k n) {o : Int} {b : Addr} (hd : decode c.code pc = .ok (.ifnull o, 3)) {pc' : Nat} (hp : pc + 3 = pc') (go : Go p e below Q (T.setTop (mkF m pc' Ls rest))) : Go p e below Q (T.setTop (mkF m pc Ls (.ref b :: rest))) := by
  subst hp; exact Go.of (fun _ r => XS.ifnullNo S.here S.hx rfl hd rfl r) go
theorem s_nonnullY (S : St p l e R s m args below meth c Z a0 EL n0 own T V h k n) {o : Int} {b : Addr} {pcT : Nat} (hd : decode c.code pc = .ok (.ifnonnull o, 3)) (ho : 0 ≤ (pc : Int) + o) (hp : ((pc : Int) + o).toNat = pcT) (go : Go p e below Q (T.setTop (mkF m pcT Ls rest))) : Go p e below Q (T.setTop (mkF m pc Ls (.ref b :: rest))) := Go.of (fun _ r => XS.ifnonnullYes S.here S.hx rfl (pc0 := pc) (pc' := pcT) rfl hd rfl ho hp r) go
theorem s_nonnullN (S : St p l e R s m args below meth c Z a0 EL n0 own T V h k n) {o : Int} (hd : decode c.code pc = .ok (.ifnonnull o, 3)) {pc' : Nat} (hp : pc + 3 = pc') (go : Go p e below Q (T.setTop (mkF m pc' Ls rest))) : Go p e below Q (T.setTop (mkF m pc Ls (.null :: rest))) := by
  subst hp; exact Go.of (fun _ r => XS.ifnonnullNo S.here S.hx rfl hd rfl r) go
theorem s_acmp (S : St p l e R s m args below meth c Z a0 EL n0 own T V h k n) {cd : ACond} {x y : Value} (h1 : x.isRef = true) (h2 : y.isRef = true) {o : Int} {pcT : Nat} {same : Bool} (hd : decode c.code pc = .ok (.if_acmp cd o, 3)) (hq : decide (x = y) = same) (ho : 0 ≤ (pc : Int) + o) (hp : pcT = if acV cd same = true then ((pc : Int) + o).toNat else pc + 3) (go : Go p e below Q (T.setTop (mkF m pcT Ls rest))) : Go p e below Q (T.setTop (mkF m pc Ls (y :: x :: rest))) := by
  obtain ⟨hx, eT, hZ, hown, hO, hE, hC, hlk, locs, k0, X, hS, hk, hF⟩ := S
  exact Go.of (fun _ r => Jvm.RoadKit.acmp (g := mkF m pc Ls (y :: x :: rest)) X hx rfl h1 h2 (pc0 := pc) (pc' := pcT) (same := same) rfl hd rfl hq ho hp r) go
theorem g_bastore (S : St p l e R s m args below meth c Z a0 EL n0 own T V h k n) {a : Addr} {kc : ClassId} {z : Int32} {vs : List Value} {dv : Value} (A : Arv Z h a kc .byte z vs dv) {j : Int32} {x : Int32} (hj : ¬ j < 0 ∧ j < z) (i : Nat) (hi : j.toNatClampNeg = i) (hlt : i < vs.length) (na : n0 ≤ a) (sf : Safe Z EL V h a) (hd : decode c.code pc = .ok (.bastore, 1))
    (go : ∀ T' h', St p l e R s m args below meth c Z a0 EL n0 own T' V h' k n → Keep h h' [a] → Arv Z h' a kc .byte z (vs.set i (.int (nar .byte x))) dv → Safe Z EL V h' a → Go p e below Q (T'.setTop (mkF m (pc + 1) Ls rest))) : Go p e below Q (T.setTop (mkF m pc Ls ((.int x) :: .int j :: .ref a :: rest))) := by
  obtain ⟨hx, eT, hZ, hown, hO, hE, hC, hlk, locs, k0, X, hS, hk, hF⟩ := S
  skip
  obtain ⟨cl, Ar, q1, q2, q3, q4, q5⟩ := A
  obtain ⟨T', h', X', e', W, st⟩ := stB X hx hZ eT Ar (j := j) (x := x) (inb_of q2 hj) (g := mkF m pc Ls ((.int x) :: .int j :: .ref a :: rest)) rfl rfl hd
  have K := Keep.of_wr W
  exact Go.of st (go T' h' ⟨hx, e', hZ, hown, hO.wr W na, hE, hC.trans (CHr.wr W sf hC.1), hlk, _, k0, X', hS, Nat.le_trans hk K.1, Fr.snoc X' hF na⟩ K (Arv.set Ar q1 q2 q3 q4 q5 (fits_nar_byte x) W i hi hlt) (Safe.wr W sf hC.1 sf))
theorem g_iastore (S : St p l e R s m args below meth c Z a0 EL n0 own T V h k n) {a : Addr} {kc : ClassId} {z : Int32} {vs : List Value} {dv : Value} (A : Arv Z h a kc .int z vs dv) {j : Int32} {x : Int32} (hj : ¬ j < 0 ∧ j < z) (i : Nat) (hi : j.toNatClampNeg = i) (hlt : i < vs.length) (na : n0 ≤ a) (hd : decode c.code pc = .ok (.iastore, 1))
    (go : ∀ T' h', St p l e R s m args below meth c Z a0 EL n0 own T' V h' k n → Keep h h' [a] → Arv Z h' a kc .int z (vs.set i (.int x)) dv → Safe Z EL V h' a → Go p e below Q (T'.setTop (mkF m (pc + 1) Ls rest))) : Go p e below Q (T.setTop (mkF m pc Ls ((.int x) :: .int j :: .ref a :: rest))) := by
  obtain ⟨hx, eT, hZ, hown, hO, hE, hC, hlk, locs, k0, X, hS, hk, hF⟩ := S
  have sf : Safe Z EL V h a := Safe.arv hZ.alike A (by decide)
  obtain ⟨cl, Ar, q1, q2, q3, q4, q5⟩ := A
  obtain ⟨T', h', X', e', W, st⟩ := stI X hx hZ eT Ar (j := j) (x := x) (inb_of q2 hj) (g := mkF m pc Ls ((.int x) :: .int j :: .ref a :: rest)) rfl rfl hd
  have K := Keep.of_wr W
  exact Go.of st (go T' h' ⟨hx, e', hZ, hown, hO.wr W na, hE, hC.trans (CHr.wr W sf hC.1), hlk, _, k0, X', hS, Nat.le_trans hk K.1, Fr.snoc X' hF na⟩ K (Arv.set Ar q1 q2 q3 q4 q5 rfl W i hi hlt) (Safe.wr W sf hC.1 sf))
theorem g_lastore (S : St p l e R s m args below meth c Z a0 EL n0 own T V h k n) {a : Addr} {kc : ClassId} {z : Int32} {vs : List Value} {dv : Value} (A : Arv Z h a kc .long z vs dv) {j : Int32} {x : Int64} (hj : ¬ j < 0 ∧ j < z) (i : Nat) (hi : j.toNatClampNeg = i) (hlt : i < vs.length) (na : n0 ≤ a) (hd : decode c.code pc = .ok (.lastore, 1))
    (go : ∀ T' h', St p l e R s m args below meth c Z a0 EL n0 own T' V h' k n → Keep h h' [a] → Arv Z h' a kc .long z (vs.set i (.long x)) dv → Safe Z EL V h' a → Go p e below Q (T'.setTop (mkF m (pc + 1) Ls rest))) : Go p e below Q (T.setTop (mkF m pc Ls ((.long x) :: .int j :: .ref a :: rest))) := by
  obtain ⟨hx, eT, hZ, hown, hO, hE, hC, hlk, locs, k0, X, hS, hk, hF⟩ := S
  have sf : Safe Z EL V h a := Safe.arv hZ.alike A (by decide)
  obtain ⟨cl, Ar, q1, q2, q3, q4, q5⟩ := A
  obtain ⟨T', h', X', e', W, st⟩ := stJ X hx hZ eT Ar (j := j) (x := x) (inb_of q2 hj) (g := mkF m pc Ls ((.long x) :: .int j :: .ref a :: rest)) rfl rfl hd
  have K := Keep.of_wr W
  exact Go.of st (go T' h' ⟨hx, e', hZ, hown, hO.wr W na, hE, hC.trans (CHr.wr W sf hC.1), hlk, _, k0, X', hS, Nat.le_trans hk K.1, Fr.snoc X' hF na⟩ K (Arv.set Ar q1 q2 q3 q4 q5 rfl W i hi hlt) (Safe.wr W sf hC.1 sf))
theorem g_iaload (S : St p l e R s m args below meth c Z a0 EL n0 own T V h k n) {a : Addr} {kc : ClassId} {z : Int32} {vs : List Value} {dv : Value} (A : Arv Z h a kc .int z vs dv) {j : Int32} (hj : ¬ j < 0 ∧ j < z) {x : Int32} (hv : vs.getD j.toNatClampNeg dv = (.int x)) (hd : decode c.code pc = .ok (.iaload, 1)) (go : Go p e below Q (T.setTop (mkF m (pc + 1) Ls ((.int x) :: rest)))) : Go p e below Q (T.setTop (mkF m pc Ls (.int j :: .ref a :: rest))) := by
  obtain ⟨hx, eT, hZ, hown, hO, hE, hC, hlk, locs, k0, X, hS, hk, hF⟩ := S
  obtain ⟨cl, Ar, q1, q2, q3, q4, q5⟩ := A
  have hin := inb_of q2 hj
  exact Go.of (fun _ q => X.iaload hx (j := j) (v := (.int x)) (by rw [eT]; exact Ar.1) (State.isArrayOf_alike (T := s.setVm V) hZ.alike Ar.2.1) Ar.2.2 hin (q4.at hin hv) (g := mkF m pc Ls (.int j :: .ref a :: rest)) rfl rfl hd _ q) go
theorem g_laload (S : St p l e R s m args below meth c Z a0 EL n0 own T V h k n) {a : Addr} {kc : ClassId} {z : Int32} {vs : List Value} {dv : Value} (A : Arv Z h a kc .long z vs dv) {j : Int32} (hj : ¬ j < 0 ∧ j < z) {x : Int64} (hv : vs.getD j.toNatClampNeg dv = (.long x)) (hd : decode c.code pc = .ok (.laload, 1)) (go : Go p e below Q (T.setTop (mkF m (pc + 1) Ls ((.long x) :: rest)))) : Go p e below Q (T.setTop (mkF m pc Ls (.int j :: .ref a :: rest))) := by
  obtain ⟨hx, eT, hZ, hown, hO, hE, hC, hlk, locs, k0, X, hS, hk, hF⟩ := S
  obtain ⟨cl, Ar, q1, q2, q3, q4, q5⟩ := A
  have hin := inb_of q2 hj
  exact Go.of (fun _ q => X.laload hx (j := j) (v := (.long x)) (by rw [eT]; exact Ar.1) (State.isArrayOf_alike (T := s.setVm V) hZ.alike Ar.2.1) Ar.2.2 hin (q4.at hin hv) (g := mkF m pc Ls (.int j :: .ref a :: rest)) rfl rfl hd _ q) go
theorem g_baload (S : St p l e R s m args below meth c Z a0 EL n0 own T V h k n) {a : Addr} {kc : ClassId} {z : Int32} {vs : List Value} {dv : Value} (A : Arv Z h a kc .byte z vs dv) {j : Int32} (hj : ¬ j < 0 ∧ j < z) {x : Int32} (hv : vs.getD j.toNatClampNeg dv = (.int x)) (hd : decode c.code pc = .ok (.baload, 1)) (go : Go p e below Q (T.setTop (mkF m (pc + 1) Ls ((.int x) :: rest)))) : Go p e below Q (T.setTop (mkF m pc Ls (.int j :: .ref a :: rest))) := by
  obtain ⟨hx, eT, hZ, hown, hO, hE, hC, hlk, locs, k0, X, hS, hk, hF⟩ := S
  obtain ⟨cl, Ar, q1, q2, q3, q4, q5⟩ := A
  have hin := inb_of q2 hj
  exact Go.of (fun _ q => X.baloadBytes hx (j := j) (v := (.int x)) (by rw [eT]; exact Ar.1) (State.isArrayOf_alike (T := s.setVm V) hZ.alike Ar.2.1) Ar.2.2 hin (q4.at hin hv) (g := mkF m pc Ls (.int j :: .ref a :: rest)) rfl rfl hd _ q) go
theorem g_instN (S : St p l e R s m args below meth c Z a0 EL n0 own T V h k n) {K C : String} {index : Nat} (w : (Cond.classLink own index K).before a0 Z = true) {a : Addr} (E : Exa Z h a C) (F : ∃ c t, Z.vm.findClass C = some c ∧ Z.vm.findClass K = some t ∧ Z.vm.assignable c t = false) (hd : decode c.code pc = .ok (.instanceof index, 3))
    (go : ∀ T', St p l e R s m args below meth c Z a0 EL n0 own T' V h k n → Go p e below Q (T'.setTop (mkF m (pc + 3) Ls (.int 0 :: rest)))) : Go p e below Q (T.setTop (mkF m pc Ls (.ref a :: rest))) := by
  obtain ⟨hx, eT, hZ, hown, hO, hE, hC, hlk, locs, k0, X, hS, hk, hF⟩ := S
  obtain ⟨T', X', e', st⟩ := instNo X hx hZ hown w eT E F (g := mkF m pc Ls (.ref a :: rest)) rfl rfl hd
  exact Go.of st (go T' ⟨hx, e', hZ, hown, hO, hE, hC, hlk, locs, k0, X', hS, hk, hF⟩)
theorem g_instNull (S : St p l e R s m args below meth c Z a0 EL n0 own T V h k n) {index : Nat} (hd : decode c.code pc = .ok (.instanceof index, 3)) (go : Go p e below Q (T.setTop (mkF m (pc + 3) Ls (.int 0 :: rest)))) : Go p e below Q (T.setTop (mkF m pc Ls (.null :: rest))) := by
  obtain ⟨hx, eT, hZ, hown, hO, hE, hC, hlk, locs, k0, X, hS, hk, hF⟩ := S
  exact Go.of (fun _ q => X.instanceofNull hx (g := mkF m pc Ls (.null :: rest)) rfl rfl hd _ q) go
end Steps
end Jvm.OwnKit
namespace Jvm.Pilot.@@N@@
open Jvm Jvm.ClassFile Sem Op Lib Jvm.Free Jvm.Stand Jvm.LawKit Jvm.RoadKit Jvm.OwnKit Bundle Jvm.Pilot.@@N@@.Jvm.D
def EL1 : List (String × Nat) := [("com/example/nodewarden/nodewarden/core/AsidesIsAtPinLaw", 14)]
abbrev HW (a0 : Array Value) (Z : State) : Prop := ∀ d ∈ tables_1, d.before a0 Z = true
theorem w0 {a0 : Array Value} {Z : State} (hw : HW a0 Z) : (Jvm.Cond.classLink "com/example/nodewarden/nodewarden/core/AsidesIsAtPinLaw" (7 : Nat) "com/example/nodewarden/nodewarden/core/Asides" : Jvm.Cond).before a0 Z = true := hw _ (List.mem_of_getElem? (i := 0) rfl)
theorem w1 {a0 : Array Value} {Z : State} (hw : HW a0 Z) : (Jvm.Cond.instantiable "com/example/nodewarden/nodewarden/core/Asides" (3 : Nat) : Jvm.Cond).before a0 Z = true := hw _ (List.mem_of_getElem? (i := 1) rfl)
theorem w2 {a0 : Array Value} {Z : State} (hw : HW a0 Z) : (Jvm.Cond.initialized "com/example/nodewarden/nodewarden/core/Asides" : Jvm.Cond).before a0 Z = true := hw _ (List.mem_of_getElem? (i := 2) rfl)
theorem w3 {a0 : Array Value} {Z : State} (hw : HW a0 Z) : (Jvm.Cond.methodLink "com/example/nodewarden/nodewarden/core/AsidesIsAtPinLaw" (9 : Nat) ({ cls := "com/example/nodewarden/nodewarden/core/Asides", name := "<init>", desc := "()V" } : Jvm.MethodName) : Jvm.Cond).before a0 Z = true := hw _ (List.mem_of_getElem? (i := 3) rfl)
theorem w4 {a0 : Array Value} {Z : State} (hw : HW a0 Z) : (Jvm.Cond.instanceMethod ({ cls := "com/example/nodewarden/nodewarden/core/Asides", name := "<init>", desc := "()V" } : Jvm.MethodName) : Jvm.Cond).before a0 Z = true := hw _ (List.mem_of_getElem? (i := 4) rfl)
theorem w5 {a0 : Array Value} {Z : State} (hw : HW a0 Z) : (Jvm.Cond.code ({ cls := "com/example/nodewarden/nodewarden/core/Asides", name := "<init>", desc := "()V" } : Jvm.MethodName) prog_3_method_1_code (1 : Nat) (Option.none : Option Jvm.ClassFile.FieldType) : Jvm.Cond).before a0 Z = true := hw _ (List.mem_of_getElem? (i := 5) rfl)
theorem w6 {a0 : Array Value} {Z : State} (hw : HW a0 Z) : (Jvm.Cond.methodLink "com/example/nodewarden/nodewarden/core/Asides" (1 : Nat) ({ cls := "java/lang/Object", name := "<init>", desc := "()V" } : Jvm.MethodName) : Jvm.Cond).before a0 Z = true := hw _ (List.mem_of_getElem? (i := 6) rfl)
theorem w7 {a0 : Array Value} {Z : State} (hw : HW a0 Z) : (Jvm.Cond.instanceMethod ({ cls := "java/lang/Object", name := "<init>", desc := "()V" } : Jvm.MethodName) : Jvm.Cond).before a0 Z = true := hw _ (List.mem_of_getElem? (i := 7) rfl)
theorem w8 {a0 : Array Value} {Z : State} (hw : HW a0 Z) : (Jvm.Cond.code ({ cls := "java/lang/Object", name := "<init>", desc := "()V" } : Jvm.MethodName) object_method_1_code (1 : Nat) (Option.none : Option Jvm.ClassFile.FieldType) : Jvm.Cond).before a0 Z = true := hw _ (List.mem_of_getElem? (i := 8) rfl)
theorem w9 {a0 : Array Value} {Z : State} (hw : HW a0 Z) : (Jvm.Cond.classLink "com/example/nodewarden/nodewarden/core/Asides" (7 : Nat) "java/lang/StringBuilder" : Jvm.Cond).before a0 Z = true := hw _ (List.mem_of_getElem? (i := 9) rfl)
theorem w10 {a0 : Array Value} {Z : State} (hw : HW a0 Z) : (Jvm.Cond.instantiable "java/lang/StringBuilder" (4 : Nat) : Jvm.Cond).before a0 Z = true := hw _ (List.mem_of_getElem? (i := 10) rfl)
theorem w11 {a0 : Array Value} {Z : State} (hw : HW a0 Z) : (Jvm.Cond.initialized "java/lang/StringBuilder" : Jvm.Cond).before a0 Z = true := hw _ (List.mem_of_getElem? (i := 11) rfl)
theorem w12 {a0 : Array Value} {Z : State} (hw : HW a0 Z) : (Jvm.Cond.methodLink "com/example/nodewarden/nodewarden/core/Asides" (9 : Nat) ({ cls := "java/lang/StringBuilder", name := "<init>", desc := "()V" } : Jvm.MethodName) : Jvm.Cond).before a0 Z = true := hw _ (List.mem_of_getElem? (i := 12) rfl)
theorem w13 {a0 : Array Value} {Z : State} (hw : HW a0 Z) : (Jvm.Cond.instanceMethod ({ cls := "java/lang/StringBuilder", name := "<init>", desc := "()V" } : Jvm.MethodName) : Jvm.Cond).before a0 Z = true := hw _ (List.mem_of_getElem? (i := 13) rfl)
theorem w14 {a0 : Array Value} {Z : State} (hw : HW a0 Z) : (Jvm.Cond.code ({ cls := "java/lang/StringBuilder", name := "<init>", desc := "()V" } : Jvm.MethodName) jdk_67_method_1_code (1 : Nat) (Option.none : Option Jvm.ClassFile.FieldType) : Jvm.Cond).before a0 Z = true := hw _ (List.mem_of_getElem? (i := 14) rfl)
theorem w15 {a0 : Array Value} {Z : State} (hw : HW a0 Z) : (Jvm.Cond.methodLink "java/lang/StringBuilder" (1 : Nat) ({ cls := "java/lang/AbstractStringBuilder", name := "<init>", desc := "(I)V" } : Jvm.MethodName) : Jvm.Cond).before a0 Z = true := hw _ (List.mem_of_getElem? (i := 15) rfl)
theorem w16 {a0 : Array Value} {Z : State} (hw : HW a0 Z) : (Jvm.Cond.instanceMethod ({ cls := "java/lang/AbstractStringBuilder", name := "<init>", desc := "(I)V" } : Jvm.MethodName) : Jvm.Cond).before a0 Z = true := hw _ (List.mem_of_getElem? (i := 16) rfl)
theorem w19 {a0 : Array Value} {Z : State} (hw : HW a0 Z) : (Jvm.Cond.initialized "java/lang/AbstractStringBuilder" : Jvm.Cond).before a0 Z = true := hw _ (List.mem_of_getElem? (i := 19) rfl)
theorem w20 {a0 : Array Value} {Z : State} (hw : HW a0 Z) : (Jvm.Cond.code ({ cls := "java/lang/AbstractStringBuilder", name := "<init>", desc := "(I)V" } : Jvm.MethodName) jdk_68_method_2_code (2 : Nat) (Option.none : Option Jvm.ClassFile.FieldType) : Jvm.Cond).before a0 Z = true := hw _ (List.mem_of_getElem? (i := 20) rfl)
theorem w21 {a0 : Array Value} {Z : State} (hw : HW a0 Z) : (Jvm.Cond.methodLink "java/lang/AbstractStringBuilder" (3 : Nat) ({ cls := "java/lang/Object", name := "<init>", desc := "()V" } : Jvm.MethodName) : Jvm.Cond).before a0 Z = true := hw _ (List.mem_of_getElem? (i := 21) rfl)
theorem w22 {a0 : Array Value} {Z : State} (hw : HW a0 Z) : (Jvm.Cond.fieldLink "java/lang/AbstractStringBuilder" (18 : Nat) "java/lang/String" "COMPACT_STRINGS" "Z" : Jvm.Cond).before a0 Z = true := hw _ (List.mem_of_getElem? (i := 22) rfl)
theorem w23 {a0 : Array Value} {Z : State} (hw : HW a0 Z) : (Jvm.Cond.initialized "java/lang/String" : Jvm.Cond).before a0 Z = true := hw _ (List.mem_of_getElem? (i := 23) rfl)
theorem w24 {a0 : Array Value} {Z : State} (hw : HW a0 Z) : (Jvm.Cond.arrayClass Jvm.ClassFile.FieldType.byte : Jvm.Cond).before a0 Z = true := hw _ (List.mem_of_getElem? (i := 24) rfl)
theorem w25 {a0 : Array Value} {Z : State} (hw : HW a0 Z) : (Jvm.Cond.fieldLink "java/lang/AbstractStringBuilder" (15 : Nat) "java/lang/AbstractStringBuilder" "value" "[B" : Jvm.Cond).before a0 Z = true := hw _ (List.mem_of_getElem? (i := 25) rfl)
theorem w26 {a0 : Array Value} {Z : State} (hw : HW a0 Z) : (Jvm.Cond.lays "java/lang/StringBuilder" "java/lang/AbstractStringBuilder" "value" "[B" : Jvm.Cond).before a0 Z = true := hw _ (List.mem_of_getElem? (i := 26) rfl)
theorem w27 {a0 : Array Value} {Z : State} (hw : HW a0 Z) : (Jvm.Cond.fieldLink "java/lang/AbstractStringBuilder" (22 : Nat) "java/lang/AbstractStringBuilder" "coder" "B" : Jvm.Cond).before a0 Z = true := hw _ (List.mem_of_getElem? (i := 27) rfl)
theorem w28 {a0 : Array Value} {Z : State} (hw : HW a0 Z) : (Jvm.Cond.lays "java/lang/StringBuilder" "java/lang/AbstractStringBuilder" "coder" "B" : Jvm.Cond).before a0 Z = true := hw _ (List.mem_of_getElem? (i := 28) rfl)
theorem w29 {a0 : Array Value} {Z : State} (hw : HW a0 Z) : (Jvm.Cond.fieldLink "com/example/nodewarden/nodewarden/core/Asides" (10 : Nat) "com/example/nodewarden/nodewarden/core/Asides" "text" "Ljava/lang/StringBuilder;" : Jvm.Cond).before a0 Z = true := hw _ (List.mem_of_getElem? (i := 29) rfl)
theorem w30 {a0 : Array Value} {Z : State} (hw : HW a0 Z) : (Jvm.Cond.laysFinal "com/example/nodewarden/nodewarden/core/Asides" "com/example/nodewarden/nodewarden/core/Asides" "text" "Ljava/lang/StringBuilder;" : Jvm.Cond).before a0 Z = true := hw _ (List.mem_of_getElem? (i := 30) rfl)
theorem w31 {a0 : Array Value} {Z : State} (hw : HW a0 Z) : (Jvm.Cond.arrayClass Jvm.ClassFile.FieldType.int : Jvm.Cond).before a0 Z = true := hw _ (List.mem_of_getElem? (i := 31) rfl)
theorem w32 {a0 : Array Value} {Z : State} (hw : HW a0 Z) : (Jvm.Cond.fieldLink "com/example/nodewarden/nodewarden/core/Asides" (16 : Nat) "com/example/nodewarden/nodewarden/core/Asides" "table" "[I" : Jvm.Cond).before a0 Z = true := hw _ (List.mem_of_getElem? (i := 32) rfl)
theorem w33 {a0 : Array Value} {Z : State} (hw : HW a0 Z) : (Jvm.Cond.lays "com/example/nodewarden/nodewarden/core/Asides" "com/example/nodewarden/nodewarden/core/Asides" "table" "[I" : Jvm.Cond).before a0 Z = true := hw _ (List.mem_of_getElem? (i := 33) rfl)
theorem w34 {a0 : Array Value} {Z : State} (hw : HW a0 Z) : (Jvm.Cond.arrayClass Jvm.ClassFile.FieldType.char : Jvm.Cond).before a0 Z = true := hw _ (List.mem_of_getElem? (i := 34) rfl)
theorem w35 {a0 : Array Value} {Z : State} (hw : HW a0 Z) : (Jvm.Cond.methodLink "com/example/nodewarden/nodewarden/core/AsidesIsAtPinLaw" (23 : Nat) ({ cls := "com/example/nodewarden/nodewarden/core/Asides", name := "isAt", desc := "(III)Z" } : Jvm.MethodName) : Jvm.Cond).before a0 Z = true := hw _ (List.mem_of_getElem? (i := 35) rfl)
theorem w36 {a0 : Array Value} {Z : State} (hw : HW a0 Z) : (Jvm.Cond.declares ({ cls := "com/example/nodewarden/nodewarden/core/Asides", name := "isAt", desc := "(III)Z" } : Jvm.MethodName) : Jvm.Cond).before a0 Z = true := hw _ (List.mem_of_getElem? (i := 36) rfl)
theorem w37 {a0 : Array Value} {Z : State} (hw : HW a0 Z) : (Jvm.Cond.instanceMethod ({ cls := "com/example/nodewarden/nodewarden/core/Asides", name := "isAt", desc := "(III)Z" } : Jvm.MethodName) : Jvm.Cond).before a0 Z = true := hw _ (List.mem_of_getElem? (i := 37) rfl)
theorem w38 {a0 : Array Value} {Z : State} (hw : HW a0 Z) : (Jvm.Cond.selects "com/example/nodewarden/nodewarden/core/Asides" ({ cls := "com/example/nodewarden/nodewarden/core/Asides", name := "isAt", desc := "(III)Z" } : Jvm.MethodName) ({ cls := "com/example/nodewarden/nodewarden/core/Asides", name := "isAt", desc := "(III)Z" } : Jvm.MethodName) : Jvm.Cond).before a0 Z = true := hw _ (List.mem_of_getElem? (i := 38) rfl)
theorem w39 {a0 : Array Value} {Z : State} (hw : HW a0 Z) : (Jvm.Cond.code ({ cls := "com/example/nodewarden/nodewarden/core/Asides", name := "isAt", desc := "(III)Z" } : Jvm.MethodName) prog_3_method_5_code (4 : Nat) (Option.some Jvm.ClassFile.FieldType.boolean) : Jvm.Cond).before a0 Z = true := hw _ (List.mem_of_getElem? (i := 39) rfl)
theorem w40 {a0 : Array Value} {Z : State} (hw : HW a0 Z) : (Jvm.Cond.fieldLink "com/example/nodewarden/nodewarden/core/Asides" (38 : Nat) "com/example/nodewarden/nodewarden/core/Asides" "count" "I" : Jvm.Cond).before a0 Z = true := hw _ (List.mem_of_getElem? (i := 40) rfl)
theorem w41 {a0 : Array Value} {Z : State} (hw : HW a0 Z) : (Jvm.Cond.lays "com/example/nodewarden/nodewarden/core/Asides" "com/example/nodewarden/nodewarden/core/Asides" "count" "I" : Jvm.Cond).before a0 Z = true := hw _ (List.mem_of_getElem? (i := 41) rfl)
theorem w42 {a0 : Array Value} {Z : State} (hw : HW a0 Z) : (Jvm.Cond.methodLink "com/example/nodewarden/nodewarden/core/AsidesIsAtPinLaw" (10 : Nat) ({ cls := "com/example/nodewarden/nodewarden/core/Asides", name := "addComment", desc := "(III[CII)V" } : Jvm.MethodName) : Jvm.Cond).before a0 Z = true := hw _ (List.mem_of_getElem? (i := 42) rfl)
theorem w43 {a0 : Array Value} {Z : State} (hw : HW a0 Z) : (Jvm.Cond.declares ({ cls := "com/example/nodewarden/nodewarden/core/Asides", name := "addComment", desc := "(III[CII)V" } : Jvm.MethodName) : Jvm.Cond).before a0 Z = true := hw _ (List.mem_of_getElem? (i := 43) rfl)
theorem w44 {a0 : Array Value} {Z : State} (hw : HW a0 Z) : (Jvm.Cond.instanceMethod ({ cls := "com/example/nodewarden/nodewarden/core/Asides", name := "addComment", desc := "(III[CII)V" } : Jvm.MethodName) : Jvm.Cond).before a0 Z = true := hw _ (List.mem_of_getElem? (i := 44) rfl)
theorem w45 {a0 : Array Value} {Z : State} (hw : HW a0 Z) : (Jvm.Cond.selects "com/example/nodewarden/nodewarden/core/Asides" ({ cls := "com/example/nodewarden/nodewarden/core/Asides", name := "addComment", desc := "(III[CII)V" } : Jvm.MethodName) ({ cls := "com/example/nodewarden/nodewarden/core/Asides", name := "addComment", desc := "(III[CII)V" } : Jvm.MethodName) : Jvm.Cond).before a0 Z = true := hw _ (List.mem_of_getElem? (i := 45) rfl)
theorem w46 {a0 : Array Value} {Z : State} (hw : HW a0 Z) : (Jvm.Cond.code ({ cls := "com/example/nodewarden/nodewarden/core/Asides", name := "addComment", desc := "(III[CII)V" } : Jvm.MethodName) prog_3_method_2_code (7 : Nat) (Option.none : Option Jvm.ClassFile.FieldType) : Jvm.Cond).before a0 Z = true := hw _ (List.mem_of_getElem? (i := 46) rfl)
theorem w47 {a0 : Array Value} {Z : State} (hw : HW a0 Z) : (Jvm.Cond.methodLink "com/example/nodewarden/nodewarden/core/Asides" (20 : Nat) ({ cls := "java/lang/StringBuilder", name := "append", desc := "([CII)Ljava/lang/StringBuilder;" } : Jvm.MethodName) : Jvm.Cond).before a0 Z = true := hw _ (List.mem_of_getElem? (i := 47) rfl)
theorem w48 {a0 : Array Value} {Z : State} (hw : HW a0 Z) : (Jvm.Cond.declares ({ cls := "java/lang/StringBuilder", name := "append", desc := "([CII)Ljava/lang/StringBuilder;" } : Jvm.MethodName) : Jvm.Cond).before a0 Z = true := hw _ (List.mem_of_getElem? (i := 48) rfl)
theorem w49 {a0 : Array Value} {Z : State} (hw : HW a0 Z) : (Jvm.Cond.instanceMethod ({ cls := "java/lang/StringBuilder", name := "append", desc := "([CII)Ljava/lang/StringBuilder;" } : Jvm.MethodName) : Jvm.Cond).before a0 Z = true := hw _ (List.mem_of_getElem? (i := 49) rfl)
theorem w50 {a0 : Array Value} {Z : State} (hw : HW a0 Z) : (Jvm.Cond.selects "java/lang/StringBuilder" ({ cls := "java/lang/StringBuilder", name := "append", desc := "([CII)Ljava/lang/StringBuilder;" } : Jvm.MethodName) ({ cls := "java/lang/StringBuilder", name := "append", desc := "([CII)Ljava/lang/StringBuilder;" } : Jvm.MethodName) : Jvm.Cond).before a0 Z = true := hw _ (List.mem_of_getElem? (i := 50) rfl)
theorem w51 {a0 : Array Value} {Z : State} (hw : HW a0 Z) : (Jvm.Cond.code ({ cls := "java/lang/StringBuilder", name := "append", desc := "([CII)Ljava/lang/StringBuilder;" } : Jvm.MethodName) jdk_67_method_12_code (4 : Nat) (Option.some (Jvm.ClassFile.FieldType.object "java/lang/StringBuilder")) : Jvm.Cond).before a0 Z = true := hw _ (List.mem_of_getElem? (i := 51) rfl)
theorem w52 {a0 : Array Value} {Z : State} (hw : HW a0 Z) : (Jvm.Cond.methodLink "java/lang/StringBuilder" (44 : Nat) ({ cls := "java/lang/AbstractStringBuilder", name := "append", desc := "([CII)Ljava/lang/AbstractStringBuilder;" } : Jvm.MethodName) : Jvm.Cond).before a0 Z = true := hw _ (List.mem_of_getElem? (i := 52) rfl)
theorem w53 {a0 : Array Value} {Z : State} (hw : HW a0 Z) : (Jvm.Cond.instanceMethod ({ cls := "java/lang/AbstractStringBuilder", name := "append", desc := "([CII)Ljava/lang/AbstractStringBuilder;" } : Jvm.MethodName) : Jvm.Cond).before a0 Z = true := hw _ (List.mem_of_getElem? (i := 53) rfl)
theorem w54 {a0 : Array Value} {Z : State} (hw : HW a0 Z) : (Jvm.Cond.superclass "java/lang/StringBuilder" "java/lang/AbstractStringBuilder" : Jvm.Cond).before a0 Z = true := hw _ (List.mem_of_getElem? (i := 54) rfl)
theorem w56 {a0 : Array Value} {Z : State} (hw : HW a0 Z) : (Jvm.Cond.code ({ cls := "java/lang/AbstractStringBuilder", name := "append", desc := "([CII)Ljava/lang/AbstractStringBuilder;" } : Jvm.MethodName) jdk_68_method_29_code (5 : Nat) (Option.some (Jvm.ClassFile.FieldType.object "java/lang/AbstractStringBuilder")) : Jvm.Cond).before a0 Z = true := hw _ (List.mem_of_getElem? (i := 56) rfl)
theorem w57 {a0 : Array Value} {Z : State} (hw : HW a0 Z) : (Jvm.Cond.fieldLink "java/lang/AbstractStringBuilder" (183 : Nat) "jdk/internal/util/Preconditions" "IOOBE_FORMATTER" "Ljava/util/function/BiFunction;" : Jvm.Cond).before a0 Z = true := hw _ (List.mem_of_getElem? (i := 57) rfl)
theorem w58 {a0 : Array Value} {Z : State} (hw : HW a0 Z) : (Jvm.Cond.initialized "jdk/internal/util/Preconditions" : Jvm.Cond).before a0 Z = true := hw _ (List.mem_of_getElem? (i := 58) rfl)
theorem w59 {a0 : Array Value} {Z : State} (hw : HW a0 Z) : (Jvm.Cond.laysStatic "jdk/internal/util/Preconditions" "IOOBE_FORMATTER" "Ljava/util/function/BiFunction;" : Jvm.Cond).before a0 Z = true := hw _ (List.mem_of_getElem? (i := 59) rfl)
theorem w60 {a0 : Array Value} {Z : State} (hw : HW a0 Z) : (Jvm.Cond.methodLink "java/lang/AbstractStringBuilder" (161 : Nat) ({ cls := "jdk/internal/util/Preconditions", name := "checkFromToIndex", desc := "(IIILjava/util/function/BiFunction;)I" } : Jvm.MethodName) : Jvm.Cond).before a0 Z = true := hw _ (List.mem_of_getElem? (i := 60) rfl)
theorem w61 {a0 : Array Value} {Z : State} (hw : HW a0 Z) : (Jvm.Cond.static ({ cls := "jdk/internal/util/Preconditions", name := "checkFromToIndex", desc := "(IIILjava/util/function/BiFunction;)I" } : Jvm.MethodName) : Jvm.Cond).before a0 Z = true := hw _ (List.mem_of_getElem? (i := 61) rfl)
theorem w62 {a0 : Array Value} {Z : State} (hw : HW a0 Z) : (Jvm.Cond.code ({ cls := "jdk/internal/util/Preconditions", name := "checkFromToIndex", desc := "(IIILjava/util/function/BiFunction;)I" } : Jvm.MethodName) jdk_41_method_12_code (4 : Nat) (Option.some Jvm.ClassFile.FieldType.int) : Jvm.Cond).before a0 Z = true := hw _ (List.mem_of_getElem? (i := 62) rfl)
theorem w63 {a0 : Array Value} {Z : State} (hw : HW a0 Z) : (Jvm.Cond.fieldLink "java/lang/AbstractStringBuilder" (79 : Nat) "java/lang/AbstractStringBuilder" "count" "I" : Jvm.Cond).before a0 Z = true := hw _ (List.mem_of_getElem? (i := 63) rfl)
theorem w64 {a0 : Array Value} {Z : State} (hw : HW a0 Z) : (Jvm.Cond.lays "java/lang/StringBuilder" "java/lang/AbstractStringBuilder" "count" "I" : Jvm.Cond).before a0 Z = true := hw _ (List.mem_of_getElem? (i := 64) rfl)
theorem w65 {a0 : Array Value} {Z : State} (hw : HW a0 Z) : (Jvm.Cond.methodLink "java/lang/AbstractStringBuilder" (100 : Nat) ({ cls := "java/lang/AbstractStringBuilder", name := "ensureCapacityInternal", desc := "(I)V" } : Jvm.MethodName) : Jvm.Cond).before a0 Z = true := hw _ (List.mem_of_getElem? (i := 65) rfl)
theorem w66 {a0 : Array Value} {Z : State} (hw : HW a0 Z) : (Jvm.Cond.instanceMethod ({ cls := "java/lang/AbstractStringBuilder", name := "ensureCapacityInternal", desc := "(I)V" } : Jvm.MethodName) : Jvm.Cond).before a0 Z = true := hw _ (List.mem_of_getElem? (i := 66) rfl)
theorem w67 {a0 : Array Value} {Z : State} (hw : HW a0 Z) : (Jvm.Cond.privateMethod ({ cls := "java/lang/AbstractStringBuilder", name := "ensureCapacityInternal", desc := "(I)V" } : Jvm.MethodName) : Jvm.Cond).before a0 Z = true := hw _ (List.mem_of_getElem? (i := 67) rfl)
theorem w68 {a0 : Array Value} {Z : State} (hw : HW a0 Z) : (Jvm.Cond.selects "java/lang/StringBuilder" ({ cls := "java/lang/AbstractStringBuilder", name := "ensureCapacityInternal", desc := "(I)V" } : Jvm.MethodName) ({ cls := "java/lang/AbstractStringBuilder", name := "ensureCapacityInternal", desc := "(I)V" } : Jvm.MethodName) : Jvm.Cond).before a0 Z = true := hw _ (List.mem_of_getElem? (i := 68) rfl)
theorem w69 {a0 : Array Value} {Z : State} (hw : HW a0 Z) : (Jvm.Cond.code ({ cls := "java/lang/AbstractStringBuilder", name := "ensureCapacityInternal", desc := "(I)V" } : Jvm.MethodName) jdk_68_method_9_code (3 : Nat) (Option.none : Option Jvm.ClassFile.FieldType) : Jvm.Cond).before a0 Z = true := hw _ (List.mem_of_getElem? (i := 69) rfl)
theorem w70 {a0 : Array Value} {Z : State} (hw : HW a0 Z) : (Jvm.Cond.methodLink "java/lang/AbstractStringBuilder" (239 : Nat) ({ cls := "java/lang/AbstractStringBuilder", name := "appendChars", desc := "([CII)V" } : Jvm.MethodName) : Jvm.Cond).before a0 Z = true := hw _ (List.mem_of_getElem? (i := 70) rfl)
theorem w71 {a0 : Array Value} {Z : State} (hw : HW a0 Z) : (Jvm.Cond.instanceMethod ({ cls := "java/lang/AbstractStringBuilder", name := "appendChars", desc := "([CII)V" } : Jvm.MethodName) : Jvm.Cond).before a0 Z = true := hw _ (List.mem_of_getElem? (i := 71) rfl)
theorem w72 {a0 : Array Value} {Z : State} (hw : HW a0 Z) : (Jvm.Cond.privateMethod ({ cls := "java/lang/AbstractStringBuilder", name := "appendChars", desc := "([CII)V" } : Jvm.MethodName) : Jvm.Cond).before a0 Z = true := hw _ (List.mem_of_getElem? (i := 72) rfl)
theorem w74 {a0 : Array Value} {Z : State} (hw : HW a0 Z) : (Jvm.Cond.code ({ cls := "java/lang/AbstractStringBuilder", name := "appendChars", desc := "([CII)V" } : Jvm.MethodName) jdk_68_method_74_code (9 : Nat) (Option.none : Option Jvm.ClassFile.FieldType) : Jvm.Cond).before a0 Z = true := hw _ (List.mem_of_getElem? (i := 74) rfl)
theorem w75 {a0 : Array Value} {Z : State} (hw : HW a0 Z) : (Jvm.Cond.methodLink "java/lang/AbstractStringBuilder" (83 : Nat) ({ cls := "java/lang/AbstractStringBuilder", name := "isLatin1", desc := "()Z" } : Jvm.MethodName) : Jvm.Cond).before a0 Z = true := hw _ (List.mem_of_getElem? (i := 75) rfl)
theorem w76 {a0 : Array Value} {Z : State} (hw : HW a0 Z) : (Jvm.Cond.declares ({ cls := "java/lang/AbstractStringBuilder", name := "isLatin1", desc := "()Z" } : Jvm.MethodName) : Jvm.Cond).before a0 Z = true := hw _ (List.mem_of_getElem? (i := 76) rfl)
theorem w77 {a0 : Array Value} {Z : State} (hw : HW a0 Z) : (Jvm.Cond.instanceMethod ({ cls := "java/lang/AbstractStringBuilder", name := "isLatin1", desc := "()Z" } : Jvm.MethodName) : Jvm.Cond).before a0 Z = true := hw _ (List.mem_of_getElem? (i := 77) rfl)
theorem w78 {a0 : Array Value} {Z : State} (hw : HW a0 Z) : (Jvm.Cond.selects "java/lang/StringBuilder" ({ cls := "java/lang/AbstractStringBuilder", name := "isLatin1", desc := "()Z" } : Jvm.MethodName) ({ cls := "java/lang/AbstractStringBuilder", name := "isLatin1", desc := "()Z" } : Jvm.MethodName) : Jvm.Cond).before a0 Z = true := hw _ (List.mem_of_getElem? (i := 78) rfl)
theorem w79 {a0 : Array Value} {Z : State} (hw : HW a0 Z) : (Jvm.Cond.code ({ cls := "java/lang/AbstractStringBuilder", name := "isLatin1", desc := "()Z" } : Jvm.MethodName) jdk_68_method_68_code (1 : Nat) (Option.some Jvm.ClassFile.FieldType.boolean) : Jvm.Cond).before a0 Z = true := hw _ (List.mem_of_getElem? (i := 79) rfl)
theorem w80 {a0 : Array Value} {Z : State} (hw : HW a0 Z) : (Jvm.Cond.methodLink "com/example/nodewarden/nodewarden/core/Asides" (24 : Nat) ({ cls := "com/example/nodewarden/nodewarden/core/Asides", name := "add", desc := "(IIII)V" } : Jvm.MethodName) : Jvm.Cond).before a0 Z = true := hw _ (List.mem_of_getElem? (i := 80) rfl)
theorem w81 {a0 : Array Value} {Z : State} (hw : HW a0 Z) : (Jvm.Cond.instanceMethod ({ cls := "com/example/nodewarden/nodewarden/core/Asides", name := "add", desc := "(IIII)V" } : Jvm.MethodName) : Jvm.Cond).before a0 Z = true := hw _ (List.mem_of_getElem? (i := 81) rfl)
theorem w82 {a0 : Array Value} {Z : State} (hw : HW a0 Z) : (Jvm.Cond.privateMethod ({ cls := "com/example/nodewarden/nodewarden/core/Asides", name := "add", desc := "(IIII)V" } : Jvm.MethodName) : Jvm.Cond).before a0 Z = true := hw _ (List.mem_of_getElem? (i := 82) rfl)
theorem w83 {a0 : Array Value} {Z : State} (hw : HW a0 Z) : (Jvm.Cond.code ({ cls := "com/example/nodewarden/nodewarden/core/Asides", name := "add", desc := "(IIII)V" } : Jvm.MethodName) prog_3_method_13_code (6 : Nat) (Option.none : Option Jvm.ClassFile.FieldType) : Jvm.Cond).before a0 Z = true := hw _ (List.mem_of_getElem? (i := 83) rfl)
theorem w84 {a0 : Array Value} {Z : State} (hw : HW a0 Z) : (Jvm.Cond.methodLink "com/example/nodewarden/nodewarden/core/Asides" (56 : Nat) ({ cls := "java/lang/Math", name := "max", desc := "(II)I" } : Jvm.MethodName) : Jvm.Cond).before a0 Z = true := hw _ (List.mem_of_getElem? (i := 84) rfl)
theorem w85 {a0 : Array Value} {Z : State} (hw : HW a0 Z) : (Jvm.Cond.static ({ cls := "java/lang/Math", name := "max", desc := "(II)I" } : Jvm.MethodName) : Jvm.Cond).before a0 Z = true := hw _ (List.mem_of_getElem? (i := 85) rfl)
theorem w86 {a0 : Array Value} {Z : State} (hw : HW a0 Z) : (Jvm.Cond.initialized "java/lang/Math" : Jvm.Cond).before a0 Z = true := hw _ (List.mem_of_getElem? (i := 86) rfl)
theorem w87 {a0 : Array Value} {Z : State} (hw : HW a0 Z) : (Jvm.Cond.code ({ cls := "java/lang/Math", name := "max", desc := "(II)I" } : Jvm.MethodName) jdk_29_method_65_code (2 : Nat) (Option.some Jvm.ClassFile.FieldType.int) : Jvm.Cond).before a0 Z = true := hw _ (List.mem_of_getElem? (i := 87) rfl)
theorem w88 {a0 : Array Value} {Z : State} (hw : HW a0 Z) : (Jvm.Cond.methodLink "com/example/nodewarden/nodewarden/core/Asides" (42 : Nat) ({ cls := "java/util/Arrays", name := "copyOf", desc := "([II)[I" } : Jvm.MethodName) : Jvm.Cond).before a0 Z = true := hw _ (List.mem_of_getElem? (i := 88) rfl)
theorem w89 {a0 : Array Value} {Z : State} (hw : HW a0 Z) : (Jvm.Cond.static ({ cls := "java/util/Arrays", name := "copyOf", desc := "([II)[I" } : Jvm.MethodName) : Jvm.Cond).before a0 Z = true := hw _ (List.mem_of_getElem? (i := 89) rfl)
theorem w90 {a0 : Array Value} {Z : State} (hw : HW a0 Z) : (Jvm.Cond.initialized "java/util/Arrays" : Jvm.Cond).before a0 Z = true := hw _ (List.mem_of_getElem? (i := 90) rfl)
theorem w91 {a0 : Array Value} {Z : State} (hw : HW a0 Z) : (Jvm.Cond.code ({ cls := "java/util/Arrays", name := "copyOf", desc := "([II)[I" } : Jvm.MethodName) jdk_65_method_123_code (3 : Nat) (Option.some (Jvm.ClassFile.FieldType.array Jvm.ClassFile.FieldType.int)) : Jvm.Cond).before a0 Z = true := hw _ (List.mem_of_getElem? (i := 91) rfl)
theorem w92 {a0 : Array Value} {Z : State} (hw : HW a0 Z) : (Jvm.Cond.methodLink "java/util/Arrays" (304 : Nat) ({ cls := "java/lang/Math", name := "min", desc := "(II)I" } : Jvm.MethodName) : Jvm.Cond).before a0 Z = true := hw _ (List.mem_of_getElem? (i := 92) rfl)
theorem w93 {a0 : Array Value} {Z : State} (hw : HW a0 Z) : (Jvm.Cond.static ({ cls := "java/lang/Math", name := "min", desc := "(II)I" } : Jvm.MethodName) : Jvm.Cond).before a0 Z = true := hw _ (List.mem_of_getElem? (i := 93) rfl)
theorem w94 {a0 : Array Value} {Z : State} (hw : HW a0 Z) : (Jvm.Cond.code ({ cls := "java/lang/Math", name := "min", desc := "(II)I" } : Jvm.MethodName) jdk_29_method_69_code (2 : Nat) (Option.some Jvm.ClassFile.FieldType.int) : Jvm.Cond).before a0 Z = true := hw _ (List.mem_of_getElem? (i := 94) rfl)
theorem w95 {a0 : Array Value} {Z : State} (hw : HW a0 Z) : (Jvm.Cond.methodLink "java/util/Arrays" (150 : Nat) ({ cls := "java/lang/System", name := "arraycopy", desc := "(Ljava/lang/Object;ILjava/lang/Object;II)V" } : Jvm.MethodName) : Jvm.Cond).before a0 Z = true := hw _ (List.mem_of_getElem? (i := 95) rfl)
theorem w96 {a0 : Array Value} {Z : State} (hw : HW a0 Z) : (Jvm.Cond.static ({ cls := "java/lang/System", name := "arraycopy", desc := "(Ljava/lang/Object;ILjava/lang/Object;II)V" } : Jvm.MethodName) : Jvm.Cond).before a0 Z = true := hw _ (List.mem_of_getElem? (i := 96) rfl)
theorem w97 {a0 : Array Value} {Z : State} (hw : HW a0 Z) : (Jvm.Cond.initialized "java/lang/System" : Jvm.Cond).before a0 Z = true := hw _ (List.mem_of_getElem? (i := 97) rfl)
theorem w98 {a0 : Array Value} {Z : State} (hw : HW a0 Z) : (Jvm.Cond.native ({ cls := "java/lang/System", name := "arraycopy", desc := "(Ljava/lang/Object;ILjava/lang/Object;II)V" } : Jvm.MethodName) : Jvm.Cond).before a0 Z = true := hw _ (List.mem_of_getElem? (i := 98) rfl)
theorem w99 {a0 : Array Value} {Z : State} (hw : HW a0 Z) : (Jvm.Cond.methodLink "com/example/nodewarden/nodewarden/core/Asides" (31 : Nat) ({ cls := "java/lang/StringBuilder", name := "length", desc := "()I" } : Jvm.MethodName) : Jvm.Cond).before a0 Z = true := hw _ (List.mem_of_getElem? (i := 99) rfl)
theorem w100 {a0 : Array Value} {Z : State} (hw : HW a0 Z) : (Jvm.Cond.declares ({ cls := "java/lang/StringBuilder", name := "length", desc := "()I" } : Jvm.MethodName) : Jvm.Cond).before a0 Z = true := hw _ (List.mem_of_getElem? (i := 100) rfl)
theorem w101 {a0 : Array Value} {Z : State} (hw : HW a0 Z) : (Jvm.Cond.instanceMethod ({ cls := "java/lang/StringBuilder", name := "length", desc := "()I" } : Jvm.MethodName) : Jvm.Cond).before a0 Z = true := hw _ (List.mem_of_getElem? (i := 101) rfl)
theorem w102 {a0 : Array Value} {Z : State} (hw : HW a0 Z) : (Jvm.Cond.selects "java/lang/StringBuilder" ({ cls := "java/lang/StringBuilder", name := "length", desc := "()I" } : Jvm.MethodName) ({ cls := "java/lang/StringBuilder", name := "length", desc := "()I" } : Jvm.MethodName) : Jvm.Cond).before a0 Z = true := hw _ (List.mem_of_getElem? (i := 102) rfl)
theorem w103 {a0 : Array Value} {Z : State} (hw : HW a0 Z) : (Jvm.Cond.code ({ cls := "java/lang/StringBuilder", name := "length", desc := "()I" } : Jvm.MethodName) jdk_67_method_93_code (1 : Nat) (Option.some Jvm.ClassFile.FieldType.int) : Jvm.Cond).before a0 Z = true := hw _ (List.mem_of_getElem? (i := 103) rfl)
theorem w104 {a0 : Array Value} {Z : State} (hw : HW a0 Z) : (Jvm.Cond.methodLink "java/lang/StringBuilder" (343 : Nat) ({ cls := "java/lang/AbstractStringBuilder", name := "length", desc := "()I" } : Jvm.MethodName) : Jvm.Cond).before a0 Z = true := hw _ (List.mem_of_getElem? (i := 104) rfl)
theorem w105 {a0 : Array Value} {Z : State} (hw : HW a0 Z) : (Jvm.Cond.instanceMethod ({ cls := "java/lang/AbstractStringBuilder", name := "length", desc := "()I" } : Jvm.MethodName) : Jvm.Cond).before a0 Z = true := hw _ (List.mem_of_getElem? (i := 105) rfl)
theorem w107 {a0 : Array Value} {Z : State} (hw : HW a0 Z) : (Jvm.Cond.code ({ cls := "java/lang/AbstractStringBuilder", name := "length", desc := "()I" } : Jvm.MethodName) jdk_68_method_6_code (1 : Nat) (Option.some Jvm.ClassFile.FieldType.int) : Jvm.Cond).before a0 Z = true := hw _ (List.mem_of_getElem? (i := 107) rfl)
theorem w108 {a0 : Array Value} {Z : State} (hw : HW a0 Z) : (Jvm.Cond.stringLink "com/example/nodewarden/nodewarden/core/AsidesIsAtPinLaw" (14 : Nat) "" : Jvm.Cond).before a0 Z = true := hw _ (List.mem_of_getElem? (i := 108) rfl)
theorem w109 {a0 : Array Value} {Z : State} (hw : HW a0 Z) : (Jvm.Cond.instantiable "java/lang/String" (4 : Nat) : Jvm.Cond).before a0 Z = true := hw _ (List.mem_of_getElem? (i := 109) rfl)
theorem w114 {a0 : Array Value} {Z : State} (hw : HW a0 Z) : (Jvm.Cond.methodLink "com/example/nodewarden/nodewarden/core/AsidesIsAtPinLaw" (16 : Nat) ({ cls := "com/example/nodewarden/nodewarden/core/Asides", name := "addInstruction", desc := "(IIILjava/lang/String;Ljava/lang/String;)V" } : Jvm.MethodName) : Jvm.Cond).before a0 Z = true := hw _ (List.mem_of_getElem? (i := 114) rfl)
theorem w115 {a0 : Array Value} {Z : State} (hw : HW a0 Z) : (Jvm.Cond.declares ({ cls := "com/example/nodewarden/nodewarden/core/Asides", name := "addInstruction", desc := "(IIILjava/lang/String;Ljava/lang/String;)V" } : Jvm.MethodName) : Jvm.Cond).before a0 Z = true := hw _ (List.mem_of_getElem? (i := 115) rfl)
theorem w116 {a0 : Array Value} {Z : State} (hw : HW a0 Z) : (Jvm.Cond.instanceMethod ({ cls := "com/example/nodewarden/nodewarden/core/Asides", name := "addInstruction", desc := "(IIILjava/lang/String;Ljava/lang/String;)V" } : Jvm.MethodName) : Jvm.Cond).before a0 Z = true := hw _ (List.mem_of_getElem? (i := 116) rfl)
theorem w117 {a0 : Array Value} {Z : State} (hw : HW a0 Z) : (Jvm.Cond.selects "com/example/nodewarden/nodewarden/core/Asides" ({ cls := "com/example/nodewarden/nodewarden/core/Asides", name := "addInstruction", desc := "(IIILjava/lang/String;Ljava/lang/String;)V" } : Jvm.MethodName) ({ cls := "com/example/nodewarden/nodewarden/core/Asides", name := "addInstruction", desc := "(IIILjava/lang/String;Ljava/lang/String;)V" } : Jvm.MethodName) : Jvm.Cond).before a0 Z = true := hw _ (List.mem_of_getElem? (i := 117) rfl)
theorem w118 {a0 : Array Value} {Z : State} (hw : HW a0 Z) : (Jvm.Cond.code ({ cls := "com/example/nodewarden/nodewarden/core/Asides", name := "addInstruction", desc := "(IIILjava/lang/String;Ljava/lang/String;)V" } : Jvm.MethodName) prog_3_method_3_code (7 : Nat) (Option.none : Option Jvm.ClassFile.FieldType) : Jvm.Cond).before a0 Z = true := hw _ (List.mem_of_getElem? (i := 118) rfl)
theorem w119 {a0 : Array Value} {Z : State} (hw : HW a0 Z) : (Jvm.Cond.methodLink "com/example/nodewarden/nodewarden/core/Asides" (28 : Nat) ({ cls := "java/lang/StringBuilder", name := "append", desc := "(Ljava/lang/String;)Ljava/lang/StringBuilder;" } : Jvm.MethodName) : Jvm.Cond).before a0 Z = true := hw _ (List.mem_of_getElem? (i := 119) rfl)
theorem w120 {a0 : Array Value} {Z : State} (hw : HW a0 Z) : (Jvm.Cond.declares ({ cls := "java/lang/StringBuilder", name := "append", desc := "(Ljava/lang/String;)Ljava/lang/StringBuilder;" } : Jvm.MethodName) : Jvm.Cond).before a0 Z = true := hw _ (List.mem_of_getElem? (i := 120) rfl)
theorem w121 {a0 : Array Value} {Z : State} (hw : HW a0 Z) : (Jvm.Cond.instanceMethod ({ cls := "java/lang/StringBuilder", name := "append", desc := "(Ljava/lang/String;)Ljava/lang/StringBuilder;" } : Jvm.MethodName) : Jvm.Cond).before a0 Z = true := hw _ (List.mem_of_getElem? (i := 121) rfl)
theorem w122 {a0 : Array Value} {Z : State} (hw : HW a0 Z) : (Jvm.Cond.selects "java/lang/StringBuilder" ({ cls := "java/lang/StringBuilder", name := "append", desc := "(Ljava/lang/String;)Ljava/lang/StringBuilder;" } : Jvm.MethodName) ({ cls := "java/lang/StringBuilder", name := "append", desc := "(Ljava/lang/String;)Ljava/lang/StringBuilder;" } : Jvm.MethodName) : Jvm.Cond).before a0 Z = true := hw _ (List.mem_of_getElem? (i := 122) rfl)
theorem w123 {a0 : Array Value} {Z : State} (hw : HW a0 Z) : (Jvm.Cond.code ({ cls := "java/lang/StringBuilder", name := "append", desc := "(Ljava/lang/String;)Ljava/lang/StringBuilder;" } : Jvm.MethodName) jdk_67_method_7_code (2 : Nat) (Option.some (Jvm.ClassFile.FieldType.object "java/lang/StringBuilder")) : Jvm.Cond).before a0 Z = true := hw _ (List.mem_of_getElem? (i := 123) rfl)
theorem w124 {a0 : Array Value} {Z : State} (hw : HW a0 Z) : (Jvm.Cond.methodLink "java/lang/StringBuilder" (29 : Nat) ({ cls := "java/lang/AbstractStringBuilder", name := "append", desc := "(Ljava/lang/String;)Ljava/lang/AbstractStringBuilder;" } : Jvm.MethodName) : Jvm.Cond).before a0 Z = true := hw _ (List.mem_of_getElem? (i := 124) rfl)
theorem w125 {a0 : Array Value} {Z : State} (hw : HW a0 Z) : (Jvm.Cond.instanceMethod ({ cls := "java/lang/AbstractStringBuilder", name := "append", desc := "(Ljava/lang/String;)Ljava/lang/AbstractStringBuilder;" } : Jvm.MethodName) : Jvm.Cond).before a0 Z = true := hw _ (List.mem_of_getElem? (i := 125) rfl)
theorem w127 {a0 : Array Value} {Z : State} (hw : HW a0 Z) : (Jvm.Cond.code ({ cls := "java/lang/AbstractStringBuilder", name := "append", desc := "(Ljava/lang/String;)Ljava/lang/AbstractStringBuilder;" } : Jvm.MethodName) jdk_68_method_22_code (3 : Nat) (Option.some (Jvm.ClassFile.FieldType.object "java/lang/AbstractStringBuilder")) : Jvm.Cond).before a0 Z = true := hw _ (List.mem_of_getElem? (i := 127) rfl)
theorem w128 {a0 : Array Value} {Z : State} (hw : HW a0 Z) : (Jvm.Cond.methodLink "java/lang/AbstractStringBuilder" (32 : Nat) ({ cls := "java/lang/String", name := "length", desc := "()I" } : Jvm.MethodName) : Jvm.Cond).before a0 Z = true := hw _ (List.mem_of_getElem? (i := 128) rfl)
theorem w129 {a0 : Array Value} {Z : State} (hw : HW a0 Z) : (Jvm.Cond.declares ({ cls := "java/lang/String", name := "length", desc := "()I" } : Jvm.MethodName) : Jvm.Cond).before a0 Z = true := hw _ (List.mem_of_getElem? (i := 129) rfl)
theorem w130 {a0 : Array Value} {Z : State} (hw : HW a0 Z) : (Jvm.Cond.instanceMethod ({ cls := "java/lang/String", name := "length", desc := "()I" } : Jvm.MethodName) : Jvm.Cond).before a0 Z = true := hw _ (List.mem_of_getElem? (i := 130) rfl)
theorem w131 {a0 : Array Value} {Z : State} (hw : HW a0 Z) : (Jvm.Cond.selects "java/lang/String" ({ cls := "java/lang/String", name := "length", desc := "()I" } : Jvm.MethodName) ({ cls := "java/lang/String", name := "length", desc := "()I" } : Jvm.MethodName) : Jvm.Cond).before a0 Z = true := hw _ (List.mem_of_getElem? (i := 131) rfl)
theorem w132 {a0 : Array Value} {Z : State} (hw : HW a0 Z) : (Jvm.Cond.code ({ cls := "java/lang/String", name := "length", desc := "()I" } : Jvm.MethodName) jdk_42_method_54_code (1 : Nat) (Option.some Jvm.ClassFile.FieldType.int) : Jvm.Cond).before a0 Z = true := hw _ (List.mem_of_getElem? (i := 132) rfl)
theorem w133 {a0 : Array Value} {Z : State} (hw : HW a0 Z) : (Jvm.Cond.fieldLink "java/lang/String" (9 : Nat) "java/lang/String" "value" "[B" : Jvm.Cond).before a0 Z = true := hw _ (List.mem_of_getElem? (i := 133) rfl)
theorem w134 {a0 : Array Value} {Z : State} (hw : HW a0 Z) : (Jvm.Cond.methodLink "java/lang/String" (335 : Nat) ({ cls := "java/lang/String", name := "coder", desc := "()B" } : Jvm.MethodName) : Jvm.Cond).before a0 Z = true := hw _ (List.mem_of_getElem? (i := 134) rfl)
theorem w135 {a0 : Array Value} {Z : State} (hw : HW a0 Z) : (Jvm.Cond.declares ({ cls := "java/lang/String", name := "coder", desc := "()B" } : Jvm.MethodName) : Jvm.Cond).before a0 Z = true := hw _ (List.mem_of_getElem? (i := 135) rfl)
theorem w136 {a0 : Array Value} {Z : State} (hw : HW a0 Z) : (Jvm.Cond.instanceMethod ({ cls := "java/lang/String", name := "coder", desc := "()B" } : Jvm.MethodName) : Jvm.Cond).before a0 Z = true := hw _ (List.mem_of_getElem? (i := 136) rfl)
theorem w137 {a0 : Array Value} {Z : State} (hw : HW a0 Z) : (Jvm.Cond.selects "java/lang/String" ({ cls := "java/lang/String", name := "coder", desc := "()B" } : Jvm.MethodName) ({ cls := "java/lang/String", name := "coder", desc := "()B" } : Jvm.MethodName) : Jvm.Cond).before a0 Z = true := hw _ (List.mem_of_getElem? (i := 137) rfl)
theorem w138 {a0 : Array Value} {Z : State} (hw : HW a0 Z) : (Jvm.Cond.code ({ cls := "java/lang/String", name := "coder", desc := "()B" } : Jvm.MethodName) jdk_42_method_152_code (1 : Nat) (Option.some Jvm.ClassFile.FieldType.byte) : Jvm.Cond).before a0 Z = true := hw _ (List.mem_of_getElem? (i := 138) rfl)
theorem w139 {a0 : Array Value} {Z : State} (hw : HW a0 Z) : (Jvm.Cond.fieldLink "java/lang/String" (38 : Nat) "java/lang/String" "COMPACT_STRINGS" "Z" : Jvm.Cond).before a0 Z = true := hw _ (List.mem_of_getElem? (i := 139) rfl)
theorem w140 {a0 : Array Value} {Z : State} (hw : HW a0 Z) : (Jvm.Cond.fieldLink "java/lang/String" (15 : Nat) "java/lang/String" "coder" "B" : Jvm.Cond).before a0 Z = true := hw _ (List.mem_of_getElem? (i := 140) rfl)
theorem w141 {a0 : Array Value} {Z : State} (hw : HW a0 Z) : (Jvm.Cond.methodLink "java/lang/AbstractStringBuilder" (208 : Nat) ({ cls := "java/lang/AbstractStringBuilder", name := "putStringAt", desc := "(ILjava/lang/String;)V" } : Jvm.MethodName) : Jvm.Cond).before a0 Z = true := hw _ (List.mem_of_getElem? (i := 141) rfl)
theorem w142 {a0 : Array Value} {Z : State} (hw : HW a0 Z) : (Jvm.Cond.instanceMethod ({ cls := "java/lang/AbstractStringBuilder", name := "putStringAt", desc := "(ILjava/lang/String;)V" } : Jvm.MethodName) : Jvm.Cond).before a0 Z = true := hw _ (List.mem_of_getElem? (i := 142) rfl)
theorem w143 {a0 : Array Value} {Z : State} (hw : HW a0 Z) : (Jvm.Cond.privateMethod ({ cls := "java/lang/AbstractStringBuilder", name := "putStringAt", desc := "(ILjava/lang/String;)V" } : Jvm.MethodName) : Jvm.Cond).before a0 Z = true := hw _ (List.mem_of_getElem? (i := 143) rfl)
theorem w145 {a0 : Array Value} {Z : State} (hw : HW a0 Z) : (Jvm.Cond.code ({ cls := "java/lang/AbstractStringBuilder", name := "putStringAt", desc := "(ILjava/lang/String;)V" } : Jvm.MethodName) jdk_68_method_73_code (3 : Nat) (Option.none : Option Jvm.ClassFile.FieldType) : Jvm.Cond).before a0 Z = true := hw _ (List.mem_of_getElem? (i := 145) rfl)
theorem w146 {a0 : Array Value} {Z : State} (hw : HW a0 Z) : (Jvm.Cond.methodLink "java/lang/AbstractStringBuilder" (397 : Nat) ({ cls := "java/lang/AbstractStringBuilder", name := "inflateIfNeededFor", desc := "(Ljava/lang/String;)V" } : Jvm.MethodName) : Jvm.Cond).before a0 Z = true := hw _ (List.mem_of_getElem? (i := 146) rfl)
theorem w147 {a0 : Array Value} {Z : State} (hw : HW a0 Z) : (Jvm.Cond.instanceMethod ({ cls := "java/lang/AbstractStringBuilder", name := "inflateIfNeededFor", desc := "(Ljava/lang/String;)V" } : Jvm.MethodName) : Jvm.Cond).before a0 Z = true := hw _ (List.mem_of_getElem? (i := 147) rfl)
theorem w148 {a0 : Array Value} {Z : State} (hw : HW a0 Z) : (Jvm.Cond.privateMethod ({ cls := "java/lang/AbstractStringBuilder", name := "inflateIfNeededFor", desc := "(Ljava/lang/String;)V" } : Jvm.MethodName) : Jvm.Cond).before a0 Z = true := hw _ (List.mem_of_getElem? (i := 148) rfl)
theorem w150 {a0 : Array Value} {Z : State} (hw : HW a0 Z) : (Jvm.Cond.code ({ cls := "java/lang/AbstractStringBuilder", name := "inflateIfNeededFor", desc := "(Ljava/lang/String;)V" } : Jvm.MethodName) jdk_68_method_71_code (2 : Nat) (Option.none : Option Jvm.ClassFile.FieldType) : Jvm.Cond).before a0 Z = true := hw _ (List.mem_of_getElem? (i := 150) rfl)
theorem w151 {a0 : Array Value} {Z : State} (hw : HW a0 Z) : (Jvm.Cond.methodLink "java/lang/AbstractStringBuilder" (40 : Nat) ({ cls := "java/lang/String", name := "coder", desc := "()B" } : Jvm.MethodName) : Jvm.Cond).before a0 Z = true := hw _ (List.mem_of_getElem? (i := 151) rfl)
theorem w152 {a0 : Array Value} {Z : State} (hw : HW a0 Z) : (Jvm.Cond.methodLink "java/lang/AbstractStringBuilder" (399 : Nat) ({ cls := "java/lang/String", name := "getBytes", desc := "([BIB)V" } : Jvm.MethodName) : Jvm.Cond).before a0 Z = true := hw _ (List.mem_of_getElem? (i := 152) rfl)
theorem w153 {a0 : Array Value} {Z : State} (hw : HW a0 Z) : (Jvm.Cond.declares ({ cls := "java/lang/String", name := "getBytes", desc := "([BIB)V" } : Jvm.MethodName) : Jvm.Cond).before a0 Z = true := hw _ (List.mem_of_getElem? (i := 153) rfl)
theorem w154 {a0 : Array Value} {Z : State} (hw : HW a0 Z) : (Jvm.Cond.instanceMethod ({ cls := "java/lang/String", name := "getBytes", desc := "([BIB)V" } : Jvm.MethodName) : Jvm.Cond).before a0 Z = true := hw _ (List.mem_of_getElem? (i := 154) rfl)
theorem w155 {a0 : Array Value} {Z : State} (hw : HW a0 Z) : (Jvm.Cond.selects "java/lang/String" ({ cls := "java/lang/String", name := "getBytes", desc := "([BIB)V" } : Jvm.MethodName) ({ cls := "java/lang/String", name := "getBytes", desc := "([BIB)V" } : Jvm.MethodName) : Jvm.Cond).before a0 Z = true := hw _ (List.mem_of_getElem? (i := 155) rfl)
theorem w156 {a0 : Array Value} {Z : State} (hw : HW a0 Z) : (Jvm.Cond.code ({ cls := "java/lang/String", name := "getBytes", desc := "([BIB)V" } : Jvm.MethodName) jdk_42_method_147_code (4 : Nat) (Option.none : Option Jvm.ClassFile.FieldType) : Jvm.Cond).before a0 Z = true := hw _ (List.mem_of_getElem? (i := 156) rfl)
theorem w157 {a0 : Array Value} {Z : State} (hw : HW a0 Z) : (Jvm.Cond.methodLink "java/lang/String" (212 : Nat) ({ cls := "java/lang/System", name := "arraycopy", desc := "(Ljava/lang/Object;ILjava/lang/Object;II)V" } : Jvm.MethodName) : Jvm.Cond).before a0 Z = true := hw _ (List.mem_of_getElem? (i := 157) rfl)
theorem w158 {a0 : Array Value} {Z : State} (hw : HW a0 Z) : (Jvm.Cond.methodLink "com/example/nodewarden/nodewarden/core/AsidesIsAtPinLaw" (20 : Nat) ({ cls := "com/example/nodewarden/nodewarden/core/Asides", name := "close", desc := "()V" } : Jvm.MethodName) : Jvm.Cond).before a0 Z = true := hw _ (List.mem_of_getElem? (i := 158) rfl)
theorem w159 {a0 : Array Value} {Z : State} (hw : HW a0 Z) : (Jvm.Cond.declares ({ cls := "com/example/nodewarden/nodewarden/core/Asides", name := "close", desc := "()V" } : Jvm.MethodName) : Jvm.Cond).before a0 Z = true := hw _ (List.mem_of_getElem? (i := 159) rfl)
theorem w160 {a0 : Array Value} {Z : State} (hw : HW a0 Z) : (Jvm.Cond.instanceMethod ({ cls := "com/example/nodewarden/nodewarden/core/Asides", name := "close", desc := "()V" } : Jvm.MethodName) : Jvm.Cond).before a0 Z = true := hw _ (List.mem_of_getElem? (i := 160) rfl)
theorem w161 {a0 : Array Value} {Z : State} (hw : HW a0 Z) : (Jvm.Cond.selects "com/example/nodewarden/nodewarden/core/Asides" ({ cls := "com/example/nodewarden/nodewarden/core/Asides", name := "close", desc := "()V" } : Jvm.MethodName) ({ cls := "com/example/nodewarden/nodewarden/core/Asides", name := "close", desc := "()V" } : Jvm.MethodName) : Jvm.Cond).before a0 Z = true := hw _ (List.mem_of_getElem? (i := 161) rfl)
theorem w162 {a0 : Array Value} {Z : State} (hw : HW a0 Z) : (Jvm.Cond.code ({ cls := "com/example/nodewarden/nodewarden/core/Asides", name := "close", desc := "()V" } : Jvm.MethodName) prog_3_method_4_code (1 : Nat) (Option.none : Option Jvm.ClassFile.FieldType) : Jvm.Cond).before a0 Z = true := hw _ (List.mem_of_getElem? (i := 162) rfl)
theorem w163 {a0 : Array Value} {Z : State} (hw : HW a0 Z) : (Jvm.Cond.methodLink "com/example/nodewarden/nodewarden/core/Asides" (35 : Nat) ({ cls := "java/lang/StringBuilder", name := "trimToSize", desc := "()V" } : Jvm.MethodName) : Jvm.Cond).before a0 Z = true := hw _ (List.mem_of_getElem? (i := 163) rfl)
theorem w164 {a0 : Array Value} {Z : State} (hw : HW a0 Z) : (Jvm.Cond.declares ({ cls := "java/lang/StringBuilder", name := "trimToSize", desc := "()V" } : Jvm.MethodName) : Jvm.Cond).before a0 Z = true := hw _ (List.mem_of_getElem? (i := 164) rfl)
theorem w165 {a0 : Array Value} {Z : State} (hw : HW a0 Z) : (Jvm.Cond.instanceMethod ({ cls := "java/lang/StringBuilder", name := "trimToSize", desc := "()V" } : Jvm.MethodName) : Jvm.Cond).before a0 Z = true := hw _ (List.mem_of_getElem? (i := 165) rfl)
theorem w166 {a0 : Array Value} {Z : State} (hw : HW a0 Z) : (Jvm.Cond.selects "java/lang/StringBuilder" ({ cls := "java/lang/StringBuilder", name := "trimToSize", desc := "()V" } : Jvm.MethodName) ({ cls := "java/lang/StringBuilder", name := "trimToSize", desc := "()V" } : Jvm.MethodName) : Jvm.Cond).before a0 Z = true := hw _ (List.mem_of_getElem? (i := 166) rfl)
theorem w167 {a0 : Array Value} {Z : State} (hw : HW a0 Z) : (Jvm.Cond.code ({ cls := "java/lang/StringBuilder", name := "trimToSize", desc := "()V" } : Jvm.MethodName) jdk_67_method_90_code (1 : Nat) (Option.none : Option Jvm.ClassFile.FieldType) : Jvm.Cond).before a0 Z = true := hw _ (List.mem_of_getElem? (i := 167) rfl)
theorem w168 {a0 : Array Value} {Z : State} (hw : HW a0 Z) : (Jvm.Cond.methodLink "java/lang/StringBuilder" (336 : Nat) ({ cls := "java/lang/AbstractStringBuilder", name := "trimToSize", desc := "()V" } : Jvm.MethodName) : Jvm.Cond).before a0 Z = true := hw _ (List.mem_of_getElem? (i := 168) rfl)
theorem w169 {a0 : Array Value} {Z : State} (hw : HW a0 Z) : (Jvm.Cond.instanceMethod ({ cls := "java/lang/AbstractStringBuilder", name := "trimToSize", desc := "()V" } : Jvm.MethodName) : Jvm.Cond).before a0 Z = true := hw _ (List.mem_of_getElem? (i := 169) rfl)
theorem w171 {a0 : Array Value} {Z : State} (hw : HW a0 Z) : (Jvm.Cond.code ({ cls := "java/lang/AbstractStringBuilder", name := "trimToSize", desc := "()V" } : Jvm.MethodName) jdk_68_method_12_code (2 : Nat) (Option.none : Option Jvm.ClassFile.FieldType) : Jvm.Cond).before a0 Z = true := hw _ (List.mem_of_getElem? (i := 171) rfl)
theorem w172 {a0 : Array Value} {Z : State} (hw : HW a0 Z) : (Jvm.Cond.methodLink "java/lang/AbstractStringBuilder" (108 : Nat) ({ cls := "java/util/Arrays", name := "copyOf", desc := "([BI)[B" } : Jvm.MethodName) : Jvm.Cond).before a0 Z = true := hw _ (List.mem_of_getElem? (i := 172) rfl)
theorem w173 {a0 : Array Value} {Z : State} (hw : HW a0 Z) : (Jvm.Cond.static ({ cls := "java/util/Arrays", name := "copyOf", desc := "([BI)[B" } : Jvm.MethodName) : Jvm.Cond).before a0 Z = true := hw _ (List.mem_of_getElem? (i := 173) rfl)
theorem w174 {a0 : Array Value} {Z : State} (hw : HW a0 Z) : (Jvm.Cond.code ({ cls := "java/util/Arrays", name := "copyOf", desc := "([BI)[B" } : Jvm.MethodName) jdk_65_method_121_code (3 : Nat) (Option.some (Jvm.ClassFile.FieldType.array Jvm.ClassFile.FieldType.byte)) : Jvm.Cond).before a0 Z = true := hw _ (List.mem_of_getElem? (i := 174) rfl)
theorem w175 {a0 : Array Value} {Z : State} (hw : HW a0 Z) : (Jvm.Cond.methodLink "java/util/Arrays" (316 : Nat) ({ cls := "[I", name := "clone", desc := "()Ljava/lang/Object;" } : Jvm.MethodName) : Jvm.Cond).before a0 Z = true := hw _ (List.mem_of_getElem? (i := 175) rfl)
theorem w176 {a0 : Array Value} {Z : State} (hw : HW a0 Z) : (Jvm.Cond.sameMethod "[I" "java/lang/Object" "clone" "()Ljava/lang/Object;" : Jvm.Cond).before a0 Z = true := hw _ (List.mem_of_getElem? (i := 176) rfl)
theorem w178 {a0 : Array Value} {Z : State} (hw : HW a0 Z) : (Jvm.Cond.instanceMethod ({ cls := "java/lang/Object", name := "clone", desc := "()Ljava/lang/Object;" } : Jvm.MethodName) : Jvm.Cond).before a0 Z = true := hw _ (List.mem_of_getElem? (i := 178) rfl)
theorem w179 {a0 : Array Value} {Z : State} (hw : HW a0 Z) : (Jvm.Cond.selects "[I" ({ cls := "[I", name := "clone", desc := "()Ljava/lang/Object;" } : Jvm.MethodName) ({ cls := "java/lang/Object", name := "clone", desc := "()Ljava/lang/Object;" } : Jvm.MethodName) : Jvm.Cond).before a0 Z = true := hw _ (List.mem_of_getElem? (i := 179) rfl)
theorem w180 {a0 : Array Value} {Z : State} (hw : HW a0 Z) : (Jvm.Cond.native ({ cls := "java/lang/Object", name := "clone", desc := "()Ljava/lang/Object;" } : Jvm.MethodName) : Jvm.Cond).before a0 Z = true := hw _ (List.mem_of_getElem? (i := 180) rfl)
theorem w181 {a0 : Array Value} {Z : State} (hw : HW a0 Z) : (Jvm.Cond.castable "[I" "java/lang/Cloneable" : Jvm.Cond).before a0 Z = true := hw _ (List.mem_of_getElem? (i := 181) rfl)
theorem w182 {a0 : Array Value} {Z : State} (hw : HW a0 Z) : (Jvm.Cond.classLink "java/util/Arrays" (317 : Nat) "[I" : Jvm.Cond).before a0 Z = true := hw _ (List.mem_of_getElem? (i := 182) rfl)
theorem w183 {a0 : Array Value} {Z : State} (hw : HW a0 Z) : (Jvm.Cond.castable "[I" "[I" : Jvm.Cond).before a0 Z = true := hw _ (List.mem_of_getElem? (i := 183) rfl)
theorem pd0 : parseMethodDescriptor "(I)V" = some ⟨[.int], none⟩ := by decide +kernel
theorem pd1 : parseMethodDescriptor "()I" = some ⟨[], some .int⟩ := by decide +kernel
theorem pd2 : parseMethodDescriptor "()Z" = some ⟨[], some .boolean⟩ := by decide +kernel
theorem pd3 : parseMethodDescriptor "(IIILjava/util/function/BiFunction;)I" = some ⟨[.int, .int, .int, (.object "java/util/function/BiFunction")], some .int⟩ := by decide +kernel
theorem pd4 : parseMethodDescriptor "([CII)V" = some ⟨[(.array .char), .int, .int], none⟩ := by decide +kernel
theorem pd5 : parseMethodDescriptor "([CII)Ljava/lang/AbstractStringBuilder;" = some ⟨[(.array .char), .int, .int], some (.object "java/lang/AbstractStringBuilder")⟩ := by decide +kernel
theorem pd6 : parseMethodDescriptor "()V" = some ⟨[], none⟩ := by decide +kernel
theorem pd7 : parseMethodDescriptor "(II)I" = some ⟨[.int, .int], some .int⟩ := by decide +kernel
theorem pd8 : parseMethodDescriptor "([II)[I" = some ⟨[(.array .int), .int], some (.array .int)⟩ := by decide +kernel
theorem pd9 : parseMethodDescriptor "([CII)Ljava/lang/StringBuilder;" = some ⟨[(.array .char), .int, .int], some (.object "java/lang/StringBuilder")⟩ := by decide +kernel
theorem pd10 : parseMethodDescriptor "(IIII)V" = some ⟨[.int, .int, .int, .int], none⟩ := by decide +kernel
theorem pd11 : parseMethodDescriptor "()B" = some ⟨[], some .byte⟩ := by decide +kernel
theorem pd12 : parseMethodDescriptor "(Ljava/lang/String;)V" = some ⟨[(.object "java/lang/String")], none⟩ := by decide +kernel
theorem pd13 : parseMethodDescriptor "([BIB)V" = some ⟨[(.array .byte), .int, .byte], none⟩ := by decide +kernel
theorem pd14 : parseMethodDescriptor "(ILjava/lang/String;)V" = some ⟨[.int, (.object "java/lang/String")], none⟩ := by decide +kernel
theorem pd15 : parseMethodDescriptor "(Ljava/lang/String;)Ljava/lang/AbstractStringBuilder;" = some ⟨[(.object "java/lang/String")], some (.object "java/lang/AbstractStringBuilder")⟩ := by decide +kernel
theorem pd16 : parseMethodDescriptor "(Ljava/lang/String;)Ljava/lang/StringBuilder;" = some ⟨[(.object "java/lang/String")], some (.object "java/lang/StringBuilder")⟩ := by decide +kernel
theorem pd17 : parseMethodDescriptor "([BI)[B" = some ⟨[(.array .byte), .int], some (.array .byte)⟩ := by decide +kernel
theorem pd18 : parseMethodDescriptor "(III)Z" = some ⟨[.int, .int, .int], some .boolean⟩ := by decide +kernel
theorem pd19 : parseMethodDescriptor "(III[CII)V" = some ⟨[.int, .int, .int, (.array .char), .int, .int], none⟩ := by decide +kernel
theorem pd20 : parseMethodDescriptor "(IIILjava/lang/String;Ljava/lang/String;)V" = some ⟨[.int, .int, .int, (.object "java/lang/String"), (.object "java/lang/String")], none⟩ := by decide +kernel
theorem pn0 : plainName "java/lang/AbstractStringBuilder" = true := by first | (simp [plainName, overriddenIn]; done) | decide +kernel
theorem pn1 : plainName "java/lang/StringBuilder" = true := by first | (simp [plainName, overriddenIn]; done) | decide +kernel
theorem pn2 : plainName "jdk/internal/util/Preconditions" = true := by first | (simp [plainName, overriddenIn]; done) | decide +kernel
theorem pn3 : plainName "com/example/nodewarden/nodewarden/core/Asides" = true := by first | (simp [plainName, overriddenIn]; done) | decide +kernel
theorem pn4 : plainName "java/util/Arrays" = true := by first | (simp [plainName, overriddenIn]; done) | decide +kernel
theorem pn5 : plainName "java/lang/String" = true := by first | (simp [plainName, overriddenIn]; done) | decide +kernel
theorem pn6 : plainName "com/example/nodewarden/nodewarden/core/AsidesIsAtPinLaw" = true := by first | (simp [plainName, overriddenIn]; done) | decide +kernel
theorem ef0 (m : MethodId) (x0 : Int32) (x1 : Int32) : entryFrame m #[(.int x0), (.int x1)] 2 = mkF m 0 #[.val (.int x0), .val (.int x1)] [] := by first | (simp [entryFrame, mkF, argsToLocals, Value.category]; done) | rfl
theorem ef1 (m : MethodId) (x0 : Addr) (x1 : Int32) : entryFrame m #[(.ref x0), (.int x1)] 2 = mkF m 0 #[.val (.ref x0), .val (.int x1)] [] := by first | (simp [entryFrame, mkF, argsToLocals, Value.category]; done) | rfl
theorem ef2 (m : MethodId) (x0 : Addr) : entryFrame m #[(.ref x0)] 1 = mkF m 0 #[.val (.ref x0)] [] := by first | (simp [entryFrame, mkF, argsToLocals, Value.category]; done) | rfl
theorem ef3 (m : MethodId) (x0 : Int32) (x1 : Int32) (x2 : Int32) (x3 : Addr) : entryFrame m #[(.int x0), (.int x1), (.int x2), (.ref x3)] 4 = mkF m 0 #[.val (.int x0), .val (.int x1), .val (.int x2), .val (.ref x3)] [] := by first | (simp [entryFrame, mkF, argsToLocals, Value.category]; done) | rfl
theorem ef4 (m : MethodId) (x0 : Int32) (x1 : Int32) (x2 : Int32) : entryFrame m #[(.int x0), (.int x1), (.int x2), .null] 4 = mkF m 0 #[.val (.int x0), .val (.int x1), .val (.int x2), .val .null] [] := by first | (simp [entryFrame, mkF, argsToLocals, Value.category]; done) | rfl
theorem ef5 (m : MethodId) (x0 : Addr) (x1 : Int32) : entryFrame m #[(.ref x0), (.int x1)] 3 = mkF m 0 #[.val (.ref x0), .val (.int x1), .unset] [] := by first | (simp [entryFrame, mkF, argsToLocals, Value.category]; done) | rfl
theorem ef6 (m : MethodId) (x0 : Addr) (x1 : Addr) (x2 : Int32) (x3 : Int32) : entryFrame m #[(.ref x0), (.ref x1), (.int x2), (.int x3)] 9 = mkF m 0 #[.val (.ref x0), .val (.ref x1), .val (.int x2), .val (.int x3), .unset, .unset, .unset, .unset, .unset] [] := by first | (simp [entryFrame, mkF, argsToLocals, Value.category]; done) | rfl
theorem ef7 (m : MethodId) (x0 : Addr) (x1 : Addr) (x2 : Int32) (x3 : Int32) : entryFrame m #[(.ref x0), (.ref x1), (.int x2), (.int x3)] 5 = mkF m 0 #[.val (.ref x0), .val (.ref x1), .val (.int x2), .val (.int x3), .unset] [] := by first | (simp [entryFrame, mkF, argsToLocals, Value.category]; done) | rfl
theorem ef8 (m : MethodId) (x0 : Addr) (x1 : Addr) (x2 : Int32) (x3 : Int32) : entryFrame m #[(.ref x0), (.ref x1), (.int x2), (.int x3)] 4 = mkF m 0 #[.val (.ref x0), .val (.ref x1), .val (.int x2), .val (.int x3)] [] := by first | (simp [entryFrame, mkF, argsToLocals, Value.category]; done) | rfl
theorem ef9 (m : MethodId) (x0 : Addr) (x1 : Int32) (x2 : Int32) (x3 : Int32) (x4 : Int32) : entryFrame m #[(.ref x0), (.int x1), (.int x2), (.int x3), (.int x4)] 6 = mkF m 0 #[.val (.ref x0), .val (.int x1), .val (.int x2), .val (.int x3), .val (.int x4), .unset] [] := by first | (simp [entryFrame, mkF, argsToLocals, Value.category]; done) | rfl
theorem ef10 (m : MethodId) (x0 : Addr) (x1 : Int32) (x2 : Int32) (x3 : Int32) (x4 : Addr) (x5 : Int32) (x6 : Int32) : entryFrame m #[(.ref x0), (.int x1), (.int x2), (.int x3), (.ref x4), (.int x5), (.int x6)] 7 = mkF m 0 #[.val (.ref x0), .val (.int x1), .val (.int x2), .val (.int x3), .val (.ref x4), .val (.int x5), .val (.int x6)] [] := by first | (simp [entryFrame, mkF, argsToLocals, Value.category]; done) | rfl
theorem ef11 (m : MethodId) (x0 : Addr) (x1 : Addr) : entryFrame m #[(.ref x0), (.ref x1)] 2 = mkF m 0 #[.val (.ref x0), .val (.ref x1)] [] := by first | (simp [entryFrame, mkF, argsToLocals, Value.category]; done) | rfl
theorem ef12 (m : MethodId) (x0 : Addr) (x1 : Int32) (x2 : Addr) : entryFrame m #[(.ref x0), (.int x1), (.ref x2)] 3 = mkF m 0 #[.val (.ref x0), .val (.int x1), .val (.ref x2)] [] := by first | (simp [entryFrame, mkF, argsToLocals, Value.category]; done) | rfl
theorem ef13 (m : MethodId) (x0 : Addr) (x1 : Addr) : entryFrame m #[(.ref x0), (.ref x1)] 3 = mkF m 0 #[.val (.ref x0), .val (.ref x1), .unset] [] := by first | (simp [entryFrame, mkF, argsToLocals, Value.category]; done) | rfl
theorem ef14 (m : MethodId) (x0 : Addr) (x1 : Int32) (x2 : Int32) (x3 : Int32) (x4 : Addr) (x5 : Addr) : entryFrame m #[(.ref x0), (.int x1), (.int x2), (.int x3), (.ref x4), (.ref x5)] 7 = mkF m 0 #[.val (.ref x0), .val (.int x1), .val (.int x2), .val (.int x3), .val (.ref x4), .val (.ref x5), .unset] [] := by first | (simp [entryFrame, mkF, argsToLocals, Value.category]; done) | rfl
theorem ef15 (m : MethodId) (x0 : Addr) : entryFrame m #[(.ref x0)] 2 = mkF m 0 #[.val (.ref x0), .unset] [] := by first | (simp [entryFrame, mkF, argsToLocals, Value.category]; done) | rfl
theorem ef16 (m : MethodId) (x0 : Addr) (x1 : Int32) (x2 : Int32) (x3 : Int32) : entryFrame m #[(.ref x0), (.int x1), (.int x2), (.int x3)] 4 = mkF m 0 #[.val (.ref x0), .val (.int x1), .val (.int x2), .val (.int x3)] [] := by first | (simp [entryFrame, mkF, argsToLocals, Value.category]; done) | rfl
theorem ef17 (m : MethodId) (x0 : Int32) (x1 : Int32) (x2 : Int32) (x3 : Int32) (x4 : Int32) (x5 : Int32) : entryFrame m #[(.int x0), (.int x1), (.int x2), (.int x3), (.int x4), (.int x5)] maxLocals = mkF m 0 #[.val (.int x0), .val (.int x1), .val (.int x2), .val (.int x3), .val (.int x4), .val (.int x5), .unset, .unset, .unset, .unset, .unset, .unset, .unset] [] := by first | (simp [entryFrame, mkF, argsToLocals, Value.category, maxLocals]; done) | rfl
def Ctx (Z : State) (a0 : Array Value) : Prop := HW a0 Z ∧ EW Z a0 EL1 ∧ (∃ z1 : Int32, Sta Z Z.heap "java/lang/String" "COMPACT_STRINGS" "Z" (.int z1) ∧ ¬ z1 = 0) ∧ (∃ fm : Value, Sta Z Z.heap "jdk/internal/util/Preconditions" "IOOBE_FORMATTER" "Ljava/util/function/BiFunction;" fm ∧ fm.isRef = true)
theorem Ctx.fm {Z : State} {a0 : Array Value} (X : Ctx Z a0) : ∃ fm : Value, Sta Z Z.heap "jdk/internal/util/Preconditions" "IOOBE_FORMATTER" "Ljava/util/function/BiFunction;" fm ∧ fm.isRef = true := X.2.2.2
theorem Ctx.hw {Z : State} {a0 : Array Value} (X : Ctx Z a0) : HW a0 Z := X.1
theorem Ctx.ew {Z : State} {a0 : Array Value} (X : Ctx Z a0) : EW Z a0 EL1 := X.2.1
theorem sAtoms {Z : State} {a0 : Array Value} (hw : HW a0 Z) : ∀ a ∈ Bundle.stringAtoms, a.before a0 Z = true := fun d hd => hw d ((by decide +kernel : ∀ d ∈ Bundle.stringAtoms, d ∈ tables_1) d hd)
abbrev SBN : String := "java/lang/StringBuilder"
abbrev ASB : String := "java/lang/AbstractStringBuilder"
abbrev AD : String := "com/example/nodewarden/nodewarden/core/Asides"
/-- a builder of count sc over 16 bytes -/
def SBF (Z : State) (h : Heap) (sb tb : Addr) (kb : ClassId) (zb sc : Int32) (bs : List Value) : Prop := Exa Z h sb "java/lang/StringBuilder" ∧ Fld Z h sb "java/lang/AbstractStringBuilder" "value" "[B" (.ref tb) ∧ Fld Z h sb "java/lang/AbstractStringBuilder" "coder" "B" (.int (0 : Int32)) ∧ Fld Z h sb "java/lang/AbstractStringBuilder" "count" "I" (.int sc) ∧ Arv Z h tb kb .byte zb bs (.int (0 : Int32))
theorem SBF.ext {Z : State} {h h' : Heap} {sb tb : Addr} {kb : ClassId} {zb sc : Int32} {bs : List Value} (F : SBF Z h sb tb kb zb sc bs) (E : Ext h h') : SBF Z h' sb tb kb zb sc bs := ⟨F.1.ext E, F.2.1.ext E, F.2.2.1.ext E, F.2.2.2.1.ext E, F.2.2.2.2.ext E⟩
/-- the Asides at x: cnt rows in the table t, of length zt, that opens with vs -/
def AS (Z : State) (h : Heap) (n0 : Nat) (x sb tb t : Addr) (kb kt : ClassId) (cnt zt : Int32) (vs : List Value) (zb sc : Int32) (bs : List Value) : Prop := Exa Z h x "com/example/nodewarden/nodewarden/core/Asides" ∧ Fld Z h x "com/example/nodewarden/nodewarden/core/Asides" "text" "Ljava/lang/StringBuilder;" (.ref sb) ∧ Fld Z h x "com/example/nodewarden/nodewarden/core/Asides" "table" "[I" (.ref t) ∧ Fld Z h x "com/example/nodewarden/nodewarden/core/Asides" "count" "I" (.int cnt) ∧ Arv Z h t kt .int zt vs (.int (0 : Int32)) ∧ SBF Z h sb tb kb zb sc bs ∧ n0 ≤ x ∧ n0 ≤ sb ∧ n0 ≤ tb ∧ n0 ≤ t
theorem AS.ext {Z : State} {h h' : Heap} {n0 : Nat} {x sb tb t : Addr} {kb kt : ClassId} {cnt zt : Int32} {vs : List Value} {zb sc : Int32} {bs : List Value} (F : AS Z h n0 x sb tb t kb kt cnt zt vs zb sc bs) (E : Ext h h') : AS Z h' n0 x sb tb t kb kt cnt zt vs zb sc bs := ⟨F.1.ext E, F.2.1.ext E, F.2.2.1.ext E, F.2.2.2.1.ext E, F.2.2.2.2.1.ext E, F.2.2.2.2.2.1.ext E, F.2.2.2.2.2.2⟩
/-- a Latin-1 String over the bytes vs -/
def LS (Z : State) (h : Heap) (a t : Addr) (kt : ClassId) (z : Int32) (vs : List Value) : Prop := Exa Z h a "java/lang/String" ∧ Fld Z h a "java/lang/String" "value" "[B" (.ref t) ∧ Fld Z h a "java/lang/String" "coder" "B" (.int (0 : Int32)) ∧ Arv Z h t kt .byte z vs (.int (0 : Int32))
theorem LS.ext {Z : State} {h h' : Heap} {a t : Addr} {kt : ClassId} {z : Int32} {vs : List Value} (F : LS Z h a t kt z vs) (E : Ext h h') : LS Z h' a t kt z vs := ⟨F.1.ext E, F.2.1.ext E, F.2.2.1.ext E, F.2.2.2.ext E⟩
theorem own_shr0 (c : Int32) : c >>> ((0 : Int32) &&& 31) = c := by
  apply Int32.toBitVec_inj.mp
  rw [Int32.toBitVec_shiftRight]
  have e : (((0 : Int32) &&& 31).toBitVec.smod 32) = 0#32 := by decide
  rw [e]
  exact BitVec.sshiftRight_zero
theorem own_shl0 (c : Int32) : c <<< ((0 : Int32) &&& 31) = c := by
  apply Int32.toBitVec_inj.mp
  rw [Int32.toBitVec_shiftLeft]
  have e : (((0 : Int32) &&& 31).toBitVec.smod 32) = 0#32 := by decide
  rw [e]
  exact BitVec.shiftLeft_zero _
theorem own_nn {x : Int32} (h : 0 ≤ x.toInt) : ¬ x < 0 := by
  rw [Int32.lt_iff_toInt_lt]; have e : (0 : Int32).toInt = 0 := rfl; omega
theorem own_lt16 {x : Int32} (h : x.toInt < 16) : x < (16 : Int32) := by
  rw [Int32.lt_iff_toInt_lt]; have e : (16 : Int32).toInt = 16 := rfl; omega
theorem own_nat {x : Int32} (h : 0 ≤ x.toInt) : (x.toNatClampNeg : Int) = x.toInt := by
  simp only [Int32.toNatClampNeg]; omega
theorem own_add {x y : Int32} (h0 : 0 ≤ x.toInt) (h1 : 0 ≤ y.toInt) (h : x.toInt + y.toInt ≤ 1000000) : (x + y).toInt = x.toInt + y.toInt := by
  have q := c_iadd x y
  have r := rng32 (x + y)
  omega
theorem own_cap {x : Int32} (h0 : 0 ≤ x.toInt) (h1 : x.toInt ≤ 16) : ¬ (0 : Int32) < x - (16 : Int32) := by
  have q := c_isub x 16
  have r := rng32 (x - 16)
  have e : (16 : Int32).toInt = 16 := rfl
  have e0 : (0 : Int32).toInt = 0 := rfl
  rw [Int32.lt_iff_toInt_lt]; omega
theorem own_ne16 {x : Int32} (h : x.toInt < 16) : ¬ x = (16 : Int32) := fun q => by
  subst q; have e : (16 : Int32).toInt = 16 := rfl; omega
theorem own_fit {x z : Int32} {bs : List Value} (h0 : 0 ≤ x.toInt) (h1 : 0 ≤ z.toInt) (h : x.toInt + z.toInt ≤ 16) (hbl : bs.length = 16) : x.toNatClampNeg + z.toNatClampNeg ≤ (16 : Int32).toNatClampNeg ∧ x.toNatClampNeg + z.toNatClampNeg ≤ bs.length := by
  have a := own_nat h0
  have b := own_nat h1
  have e : (16 : Int32).toNatClampNeg = 16 := rfl
  rw [e, hbl]; omega
theorem own_len {x z : Int32} {bs us : List Value} (h0 : 0 ≤ x.toInt) (h1 : 0 ≤ z.toInt) (h : x.toInt + z.toInt ≤ 16) (hbl : bs.length = 16) (hu : us.length = z.toNatClampNeg) : (bs.take x.toNatClampNeg ++ us ++ bs.drop (x.toNatClampNeg + z.toNatClampNeg)).length = 16 := by
  have a := own_nat h0
  have b := own_nat h1
  simp only [List.length_append, List.length_take, List.length_drop, hu, hbl]; omega
theorem own_mod3 (k n : Int32) (e : (k &&& (3 : Int32)) % (3 : Int32) = n) : n = 0 ∨ n = 1 ∨ n = 2 := by
  subst e
  have q := c_mask k 3 2 (by decide) (by decide)
  have r := (c_irem (k &&& 3) 3 3 rfl).1 (by rw [q]; omega)
  have hlt : ∀ x : Int32, 0 ≤ x.toInt → x.toInt < 3 → x = 0 ∨ x = 1 ∨ x = 2 := fun x h1 h2 => by
    have e0 : (0 : Int32).toInt = 0 := rfl
    have e1 : (1 : Int32).toInt = 1 := rfl
    have e2 : (2 : Int32).toInt = 2 := rfl
    simp only [← Int32.toInt_inj, e0, e1, e2]
    omega
  exact hlt _ (by omega) (by omega)
theorem own_and3s (k n : Int32) (e : ((k.toUInt32 >>> ((2 : Int32) &&& 31).toUInt32).toInt32) &&& (3 : Int32) = n) : n = 0 ∨ n = 1 ∨ n = 2 ∨ n = 3 := by
  subst e
  have q := c_mask ((k.toUInt32 >>> ((2 : Int32) &&& 31).toUInt32).toInt32) 3 2 (by decide) (by decide)
  have hlt : ∀ x : Int32, 0 ≤ x.toInt → x.toInt < 4 → x = 0 ∨ x = 1 ∨ x = 2 ∨ x = 3 := fun x h1 h2 => by
    have e0 : (0 : Int32).toInt = 0 := rfl
    have e1 : (1 : Int32).toInt = 1 := rfl
    have e2 : (2 : Int32).toInt = 2 := rfl
    have e3 : (3 : Int32).toInt = 3 := rfl
    simp only [← Int32.toInt_inj, e0, e1, e2, e3]
    omega
  exact hlt _ (by omega) (by omega)
end Jvm.Pilot.@@N@@

namespace Jvm.Pilot.@@N@@
open Jvm Jvm.ClassFile Sem Op Lib Jvm.Free Jvm.Stand Jvm.LawKit Jvm.RoadKit Jvm.OwnKit Bundle Jvm.Pilot.@@N@@.Jvm.D
theorem dMX_0 : decode jdk_29_method_65_code 0 = .ok (.iload_n 0, 1) := by decide +kernel
theorem dMX_1 : decode jdk_29_method_65_code 1 = .ok (.iload_n 1, 1) := by decide +kernel
theorem dMX_2 : decode jdk_29_method_65_code 2 = .ok (.if_icmp .lt 7, 3) := by decide +kernel
theorem dMX_5 : decode jdk_29_method_65_code 5 = .ok (.iload_n 0, 1) := by decide +kernel
theorem dMX_6 : decode jdk_29_method_65_code 6 = .ok (.goto 4, 3) := by decide +kernel
theorem dMX_9 : decode jdk_29_method_65_code 9 = .ok (.iload_n 1, 1) := by decide +kernel
theorem dMX_10 : decode jdk_29_method_65_code 10 = .ok (.ireturn, 1) := by decide +kernel
set_option maxRecDepth 65536 in
set_option maxHeartbeats 40000000 in
theorem rmMX {l : Launch} {Z : State} {a0 : Array Value} {n0 : Nat} (X : Ctx Z a0) {a b z : Int32} (hz : (if a < b then b else a) = z) {h : Heap} (hO : Old Z n0 h)  :
    Ctr l Z EL1 n0 (⟨"java/lang/Math", "max", "(II)I"⟩ : MethodName) jdk_29_method_65_code 2 (some .int) ({ frames := 0, cells := 0, slots := 0, locals := 0 } : Room) #[(.int a), (.int b)] h [] (fun v h' => v = some (.int z) ∧ h' = h) := by
  have hw := X.hw
  obtain ⟨z1, hz1, hz2⟩ := X.2.2.1
  refine Ctr.intro (a0 := a0) (by decide +kernel) hO X.ew ?_
  intro p e s m below meth c T0 V0 S0 hby hml hret hnm hsf
  rw [ef0]
  refine s_iloadN S0 (hb hby dMX_0) rfl (pc' := 1) rfl ?_
  refine s_iloadN S0 (hb hby dMX_1) rfl (pc' := 2) rfl ?_
  refine g_icmp S0 (hb hby dMX_2) (by decide) (pcT := 9) (by decide) (fun q => ?_) (fun q => ?_)
  · have hc2_1 : a < b := icT_lt q
    show Go p e below _ (T0.setTop (mkF m 9 #[.val (.int a), .val (.int b)] []))
    refine s_iloadN S0 (hb hby dMX_9) rfl (pc' := 10) rfl ?_
    show Go p e below _ (T0.setTop (mkF m 10 #[.val (.int a), .val (.int b)] [(.int b)]))
    exact g_iret S0 (hb hby dMX_10) hret ⟨by rw [← hz, if_pos hc2_1], rfl⟩
  · have hc2_1 : ¬ a < b := icF_lt q
    show Go p e below _ (T0.setTop (mkF m 5 #[.val (.int a), .val (.int b)] []))
    refine s_iloadN S0 (hb hby dMX_5) rfl (pc' := 6) rfl ?_
    refine s_goto S0 (hb hby dMX_6) (by decide) (pcT := 10) (by decide) ?_
    show Go p e below _ (T0.setTop (mkF m 10 #[.val (.int a), .val (.int b)] [(.int a)]))
    exact g_iret S0 (hb hby dMX_10) hret ⟨by rw [← hz, if_neg hc2_1], rfl⟩
theorem dMN_0 : decode jdk_29_method_69_code 0 = .ok (.iload_n 0, 1) := by decide +kernel
theorem dMN_1 : decode jdk_29_method_69_code 1 = .ok (.iload_n 1, 1) := by decide +kernel
theorem dMN_2 : decode jdk_29_method_69_code 2 = .ok (.if_icmp .gt 7, 3) := by decide +kernel
theorem dMN_5 : decode jdk_29_method_69_code 5 = .ok (.iload_n 0, 1) := by decide +kernel
theorem dMN_6 : decode jdk_29_method_69_code 6 = .ok (.goto 4, 3) := by decide +kernel
theorem dMN_9 : decode jdk_29_method_69_code 9 = .ok (.iload_n 1, 1) := by decide +kernel
theorem dMN_10 : decode jdk_29_method_69_code 10 = .ok (.ireturn, 1) := by decide +kernel
set_option maxRecDepth 65536 in
set_option maxHeartbeats 40000000 in
theorem rmMN {l : Launch} {Z : State} {a0 : Array Value} {n0 : Nat} (X : Ctx Z a0) {a b z : Int32} (hz : (if b < a then b else a) = z) {h : Heap} (hO : Old Z n0 h)  :
    Ctr l Z EL1 n0 (⟨"java/lang/Math", "min", "(II)I"⟩ : MethodName) jdk_29_method_69_code 2 (some .int) ({ frames := 0, cells := 0, slots := 0, locals := 0 } : Room) #[(.int a), (.int b)] h [] (fun v h' => v = some (.int z) ∧ h' = h) := by
  have hw := X.hw
  obtain ⟨z1, hz1, hz2⟩ := X.2.2.1
  refine Ctr.intro (a0 := a0) (by decide +kernel) hO X.ew ?_
  intro p e s m below meth c T0 V0 S0 hby hml hret hnm hsf
  rw [ef0]
  refine s_iloadN S0 (hb hby dMN_0) rfl (pc' := 1) rfl ?_
  refine s_iloadN S0 (hb hby dMN_1) rfl (pc' := 2) rfl ?_
  refine g_icmp S0 (hb hby dMN_2) (by decide) (pcT := 9) (by decide) (fun q => ?_) (fun q => ?_)
  · have hc2_2 : b < a := icT_gt q
    show Go p e below _ (T0.setTop (mkF m 9 #[.val (.int a), .val (.int b)] []))
    refine s_iloadN S0 (hb hby dMN_9) rfl (pc' := 10) rfl ?_
    show Go p e below _ (T0.setTop (mkF m 10 #[.val (.int a), .val (.int b)] [(.int b)]))
    exact g_iret S0 (hb hby dMN_10) hret ⟨by rw [← hz, if_pos hc2_2], rfl⟩
  · have hc2_2 : ¬ b < a := icF_gt q
    show Go p e below _ (T0.setTop (mkF m 5 #[.val (.int a), .val (.int b)] []))
    refine s_iloadN S0 (hb hby dMN_5) rfl (pc' := 6) rfl ?_
    refine s_goto S0 (hb hby dMN_6) (by decide) (pcT := 10) (by decide) ?_
    show Go p e below _ (T0.setTop (mkF m 10 #[.val (.int a), .val (.int b)] [(.int a)]))
    exact g_iret S0 (hb hby dMN_10) hret ⟨by rw [← hz, if_neg hc2_2], rfl⟩
theorem dAI_0 : decode jdk_68_method_2_code 0 = .ok (.aload_n 0, 1) := by decide +kernel
theorem dAI_1 : decode jdk_68_method_2_code 1 = .ok (.invokespecial 3, 3) := by decide +kernel
theorem dAI_4 : decode jdk_68_method_2_code 4 = .ok (.getstatic 18, 3) := by decide +kernel
theorem dAI_7 : decode jdk_68_method_2_code 7 = .ok (.ifCond .eq 18, 3) := by decide +kernel
theorem dAI_10 : decode jdk_68_method_2_code 10 = .ok (.aload_n 0, 1) := by decide +kernel
theorem dAI_11 : decode jdk_68_method_2_code 11 = .ok (.iload_n 1, 1) := by decide +kernel
theorem dAI_12 : decode jdk_68_method_2_code 12 = .ok (.newarray .byte, 2) := by decide +kernel
theorem dAI_14 : decode jdk_68_method_2_code 14 = .ok (.putfield 15, 3) := by decide +kernel
theorem dAI_17 : decode jdk_68_method_2_code 17 = .ok (.aload_n 0, 1) := by decide +kernel
theorem dAI_18 : decode jdk_68_method_2_code 18 = .ok (.iconst 0, 1) := by decide +kernel
theorem dAI_19 : decode jdk_68_method_2_code 19 = .ok (.putfield 22, 3) := by decide +kernel
theorem dAI_22 : decode jdk_68_method_2_code 22 = .ok (.goto 16, 3) := by decide +kernel
theorem dAI_38 : decode jdk_68_method_2_code 38 = .ok (.return_, 1) := by decide +kernel
set_option maxRecDepth 65536 in
set_option maxHeartbeats 40000000 in
theorem rmAI {l : Launch} {Z : State} {a0 : Array Value} {n0 : Nat} (X : Ctx Z a0) {x : Addr} {v0 c0 : Value} (na : n0 ≤ x) {h : Heap} (hO : Old Z n0 h) (Ex : Exa Z h x "java/lang/StringBuilder") (Fv : Fld Z h x "java/lang/AbstractStringBuilder" "value" "[B" v0) (Fk : Fld Z h x "java/lang/AbstractStringBuilder" "coder" "B" c0) (Fs : Fld Z h x "java/lang/AbstractStringBuilder" "count" "I" (.int (0 : Int32))) :
    CtrV l Z EL1 n0 (⟨"java/lang/AbstractStringBuilder", "<init>", "(I)V"⟩ : MethodName) jdk_68_method_2_code 2 none ({ frames := 1, cells := 1, slots := 16, locals := 12 } : Room) #[(.ref x), (.int (16 : Int32))] h [] (fun v h' vm => v = none ∧ ∃ tb kb, Keep h h' [x] ∧ n0 ≤ tb ∧ h.size ≤ tb ∧ SBF Z h' x tb kb (16 : Int32) (0 : Int32) (List.replicate 16 (.int (0 : Int32))) ∧ Safe Z EL1 vm h' tb) := by
  have hw := X.hw
  obtain ⟨z1, hz1, hz2⟩ := X.2.2.1
  refine CtrV.intro (a0 := a0) (plainFor_of_name pn0) hO X.ew ?_
  intro p e s m below meth c T0 V0 S0 hby hml hret hnm hsf
  rw [ef1]
  refine s_aloadN S0 (hb hby dAI_0) rfl rfl (pc' := 1) rfl ?_
  refine g_initO S0 (w21 hw) (w7 hw) (w8 hw) (by rw [hml]; rfl) (hb hby dAI_1) (Nat.le_of_ble_eq_true rfl) (Nat.le_of_ble_eq_true rfl) ?_
  intro T3 ST3
  show Go p e below _ (T3.setTop (mkF m 4 #[.val (.ref x), .val (.int (16 : Int32))] []))
  refine g_getS ST3 (w22 hw) Via.refl (hz1.ext ST3.old.2) (hb hby dAI_4) ?_
  intro T4 ST4
  show Go p e below _ (T4.setTop (mkF m 7 #[.val (.ref x), .val (.int (16 : Int32))] [(.int z1)]))
  refine s_ifN ST4 (hb hby dAI_7) ((if0 _ _).trans (feq hz2).1) (pc' := 10) rfl ?_
  refine s_aloadN ST4 (hb hby dAI_10) rfl rfl (pc' := 11) rfl ?_
  refine s_iloadN ST4 (hb hby dAI_11) rfl (pc' := 12) rfl ?_
  refine g_newarr (aty := .byte) ST4 (w24 hw) (hb hby dAI_12) (by decide) (cap := 16) (by decide) (by decide) (Nat.le_of_ble_eq_true rfl) (Nat.le_of_ble_eq_true rfl) ?_
  intro T5 h5 b5 kc5 S5 E5 fr5 lt5 na5 sf5 A5
  have V5 : Arv Z h5 b5 kc5 .byte (16 : Int32) (List.replicate 16 (.int (0 : Int32))) (.int (0 : Int32)) := A5 16
  show Go p e below _ (T5.setTop (mkF m 14 #[.val (.ref x), .val (.int (16 : Int32))] [(.ref b5), (.ref x)]))
  show Go p e below _ (T5.setTop (mkF m 14 #[.val (.ref x), .val (.int (16 : Int32))] [(.ref b5), (.ref x)]))
  have Fv7 := Fv.ext E5
  have Ex8 := Ex.ext E5
  have Fk9 := Fk.ext E5
  have Fs10 := Fs.ext E5
  refine g_putF S5 (w25 hw) Via.refl Fv7 Ex8 (Or.inl (w26 hw)) (w10 hw) (ty := (.array .byte)) (v' := (.ref b5)) (by decide) rfl rfl na (Safe.exa S5.warm.alike Ex8 (by decide) (by decide)) (hb hby dAI_14) ?_
  intro T6 h6 S6 K6 W6 A6 F6 sg6
  have sf11 := Safe.keep K6 (sfS (Safe.exa S5.warm.alike Ex8 (by decide) (by decide)) sf0) S5.chv sf5
  have F12 := Fk9.other W6 (Or.inr (slot_ne (Or.inl (w28 hw)) (Or.inl (w26 hw)) (by decide) (t := .byte) (t' := (.array .byte)) (by decide) (by decide)))
  have F13 := Fs10.other W6 (Or.inr (slot_ne (Or.inl (w64 hw)) (Or.inl (w26 hw)) (by decide) (t := .int) (t' := (.array .byte)) (by decide) (by decide)))
  show Go p e below _ (T6.setTop (mkF m 17 #[.val (.ref x), .val (.int (16 : Int32))] []))
  refine s_aloadN S6 (hb hby dAI_17) rfl rfl (pc' := 18) rfl ?_
  refine s_iconst S6 (hb hby dAI_18) (v := (0 : Int32)) rfl (pc' := 19) rfl ?_
  show Go p e below _ (T6.setTop (mkF m 19 #[.val (.ref x), .val (.int (16 : Int32))] [(.int (0 : Int32)), (.ref x)]))
  refine g_putF S6 (w27 hw) Via.refl F12 A6 (Or.inl (w28 hw)) (w10 hw) (ty := .byte) (v' := (.int (0 : Int32))) (by decide) rfl rfl na (Safe.exa S6.warm.alike A6 (by decide) (by decide)) (hb hby dAI_19) ?_
  intro T14 h14 S14 K14 W14 A14 F14 sg14
  have sf15 := Safe.keep K14 (sfS (Safe.exa S6.warm.alike A6 (by decide) (by decide)) sf0) S6.chv sf11
  have F16 := F6.other W14 (Or.inr (slot_ne (Or.inl (w26 hw)) (Or.inl (w28 hw)) (by decide) (t := (.array .byte)) (t' := .byte) (by decide) (by decide)))
  have F17 := F13.other W14 (Or.inr (slot_ne (Or.inl (w64 hw)) (Or.inl (w28 hw)) (by decide) (t := .int) (t' := .byte) (by decide) (by decide)))
  show Go p e below _ (T14.setTop (mkF m 22 #[.val (.ref x), .val (.int (16 : Int32))] []))
  refine s_goto S14 (hb hby dAI_22) (by decide) (pcT := 38) (by decide) ?_
  show Go p e below _ (T14.setTop (mkF m 38 #[.val (.ref x), .val (.int (16 : Int32))] []))
  have KA18 : Keep h h14 [x] := ((((Keep.refl h [x]).ext E5).trans K6 (fun y hy => Or.inl hy)).trans K14 (fun y hy => Or.inl hy))
  have F19 := V5.keep K6 (ninS (Ne.symm (Nat.ne_of_lt (Nat.lt_of_lt_of_le (Nat.lt_of_lt_of_le Ex.lt (Nat.le_refl _)) fr5))) nin0)
  have F20 := F19.keep K14 (ninS (Ne.symm (Nat.ne_of_lt (Nat.lt_of_lt_of_le (Nat.lt_of_lt_of_le Ex.lt (Nat.le_refl _)) fr5))) nin0)
  exact g_retV S14 (hb hby dAI_38) hret (fun sfx => ⟨rfl, b5, _, KA18, na5, Nat.le_of_lt_succ (Nat.lt_succ_of_le fr5), ⟨A14, F16, F14, F17, F20⟩, sfx _ F20.lt sf15⟩)
theorem dSI_0 : decode jdk_67_method_1_code 0 = .ok (.aload_n 0, 1) := by decide +kernel
theorem dSI_1 : decode jdk_67_method_1_code 1 = .ok (.bipush 16, 2) := by decide +kernel
theorem dSI_3 : decode jdk_67_method_1_code 3 = .ok (.invokespecial 1, 3) := by decide +kernel
theorem dSI_6 : decode jdk_67_method_1_code 6 = .ok (.return_, 1) := by decide +kernel
set_option maxRecDepth 65536 in
set_option maxHeartbeats 40000000 in
theorem rmSI {l : Launch} {Z : State} {a0 : Array Value} {n0 : Nat} (X : Ctx Z a0) {x : Addr} {v0 c0 : Value} (na : n0 ≤ x) {h : Heap} (hO : Old Z n0 h) (Ex : Exa Z h x "java/lang/StringBuilder") (Fv : Fld Z h x "java/lang/AbstractStringBuilder" "value" "[B" v0) (Fk : Fld Z h x "java/lang/AbstractStringBuilder" "coder" "B" c0) (Fs : Fld Z h x "java/lang/AbstractStringBuilder" "count" "I" (.int (0 : Int32))) :
    CtrV l Z EL1 n0 (⟨"java/lang/StringBuilder", "<init>", "()V"⟩ : MethodName) jdk_67_method_1_code 1 none ({ frames := 2, cells := 1, slots := 16, locals := 25 } : Room) #[(.ref x)] h [] (fun v h' vm => v = none ∧ ∃ tb kb, Keep h h' [x] ∧ n0 ≤ tb ∧ h.size ≤ tb ∧ SBF Z h' x tb kb (16 : Int32) (0 : Int32) (List.replicate 16 (.int (0 : Int32))) ∧ Safe Z EL1 vm h' tb) := by
  have hw := X.hw
  obtain ⟨z1, hz1, hz2⟩ := X.2.2.1
  refine CtrV.intro (a0 := a0) (plainFor_of_name pn1) hO X.ew ?_
  intro p e s m below meth c T0 V0 S0 hby hml hret hnm hsf
  rw [ef2]
  refine s_aloadN S0 (hb hby dSI_0) rfl rfl (pc' := 1) rfl ?_
  refine s_bipush S0 (hb hby dSI_1) (v := (16 : Int32)) rfl (pc' := 3) rfl ?_
  show Go p e below _ (T0.setTop (mkF m 3 #[.val (.ref x)] [(.int (16 : Int32)), (.ref x)]))
  refine g_special S0 (rmAI X na S0.old Ex Fv Fk Fs) (fun _ q => nomatch q) rfl (w15 hw) (w16 hw) (w19 hw) (w20 hw) (by decide) (hb hby dSI_3) (by rw [hml]; rfl) x [(.int (16 : Int32))] (lenOf pd0 rfl) rfl rfl (Nat.le_of_ble_eq_true rfl) (Nat.le_of_ble_eq_true rfl) (Nat.le_of_ble_eq_true rfl) (Nat.le_of_ble_eq_true rfl) ?_
  intro v21 T21 V21 h21 S21 C21 q21
  obtain ⟨rfl, tb, kb, K1, ntb, frb, F1, sf1_⟩ := q21
  show Go p e below _ (T21.setTop (mkF m 6 #[.val (.ref x)] []))
  show Go p e below _ (T21.setTop (mkF m 6 #[.val (.ref x)] []))
  exact g_retV S21 (hb hby dSI_6) hret (fun sfx => ⟨rfl, tb, kb, K1, ntb, frb, F1, sfx _ F1.2.2.2.2.lt sf1_⟩)
theorem dLN_0 : decode jdk_68_method_6_code 0 = .ok (.aload_n 0, 1) := by decide +kernel
theorem dLN_1 : decode jdk_68_method_6_code 1 = .ok (.getfield 79, 3) := by decide +kernel
theorem dLN_4 : decode jdk_68_method_6_code 4 = .ok (.ireturn, 1) := by decide +kernel
set_option maxRecDepth 65536 in
set_option maxHeartbeats 40000000 in
theorem rmLN {l : Launch} {Z : State} {a0 : Array Value} {n0 : Nat} (X : Ctx Z a0) {x tb : Addr} {sc : Int32} {h : Heap} (hO : Old Z n0 h) (Ex : Exa Z h x "java/lang/StringBuilder") (Fv : Fld Z h x "java/lang/AbstractStringBuilder" "value" "[B" (.ref tb)) (Fk : Fld Z h x "java/lang/AbstractStringBuilder" "coder" "B" (.int (0 : Int32))) (Fs : Fld Z h x "java/lang/AbstractStringBuilder" "count" "I" (.int sc)) :
    Ctr l Z EL1 n0 (⟨"java/lang/AbstractStringBuilder", "length", "()I"⟩ : MethodName) jdk_68_method_6_code 1 (some .int) ({ frames := 0, cells := 0, slots := 0, locals := 0 } : Room) #[(.ref x)] h [] (fun v h' => v = some (.int sc) ∧ h' = h) := by
  have hw := X.hw
  obtain ⟨z1, hz1, hz2⟩ := X.2.2.1
  refine Ctr.intro (a0 := a0) (plainFor_of_name pn0) hO X.ew ?_
  intro p e s m below meth c T0 V0 S0 hby hml hret hnm hsf
  rw [ef2]
  refine s_aloadN S0 (hb hby dLN_0) rfl rfl (pc' := 1) rfl ?_
  refine g_getF S0 (w63 hw) Via.refl Fs (hb hby dLN_1) ?_
  intro T22 ST22
  show Go p e below _ (T22.setTop (mkF m 4 #[.val (.ref x)] [(.int sc)]))
  exact g_iret ST22 (hb hby dLN_4) hret ⟨rfl, rfl⟩
theorem dSL_0 : decode jdk_67_method_93_code 0 = .ok (.aload_n 0, 1) := by decide +kernel
theorem dSL_1 : decode jdk_67_method_93_code 1 = .ok (.invokespecial 343, 3) := by decide +kernel
theorem dSL_4 : decode jdk_67_method_93_code 4 = .ok (.ireturn, 1) := by decide +kernel
set_option maxRecDepth 65536 in
set_option maxHeartbeats 40000000 in
theorem rmSL {l : Launch} {Z : State} {a0 : Array Value} {n0 : Nat} (X : Ctx Z a0) {x tb : Addr} {sc : Int32} {h : Heap} (hO : Old Z n0 h) (Ex : Exa Z h x "java/lang/StringBuilder") (Fv : Fld Z h x "java/lang/AbstractStringBuilder" "value" "[B" (.ref tb)) (Fk : Fld Z h x "java/lang/AbstractStringBuilder" "coder" "B" (.int (0 : Int32))) (Fs : Fld Z h x "java/lang/AbstractStringBuilder" "count" "I" (.int sc)) :
    Ctr l Z EL1 n0 (⟨"java/lang/StringBuilder", "length", "()I"⟩ : MethodName) jdk_67_method_93_code 1 (some .int) ({ frames := 1, cells := 0, slots := 0, locals := 12 } : Room) #[(.ref x)] h [] (fun v h' => v = some (.int sc) ∧ h' = h) := by
  have hw := X.hw
  obtain ⟨z1, hz1, hz2⟩ := X.2.2.1
  refine Ctr.intro (a0 := a0) (plainFor_of_name pn1) hO X.ew ?_
  intro p e s m below meth c T0 V0 S0 hby hml hret hnm hsf
  rw [ef2]
  refine s_aloadN S0 (hb hby dSL_0) rfl rfl (pc' := 1) rfl ?_
  show Go p e below _ (T0.setTop (mkF m 1 #[.val (.ref x)] [(.ref x)]))
  refine g_super S0 (rmLN X S0.old Ex Fv Fk Fs) (fun _ q => nomatch q) (by decide) (w104 hw) (ni_sel (w68 hw) rfl) (w105 hw) (w54 hw) (w19 hw) (w107 hw) (by decide) (hb hby dSL_1) (by rw [hml]; rfl) x Ex [] (lenOf pd1 rfl) rfl rfl (Nat.le_of_ble_eq_true rfl) (Nat.le_of_ble_eq_true rfl) (Nat.le_of_ble_eq_true rfl) (Nat.le_of_ble_eq_true rfl) ?_
  intro v23 T23 V23 h23 S23 C23 q23
  obtain ⟨rfl, rfl⟩ := q23
  show Go p e below _ (T23.setTop (mkF m 4 #[.val (.ref x)] [(.int sc)]))
  exact g_iret S23 (hb hby dSL_4) hret ⟨rfl, rfl⟩
theorem dIL_0 : decode jdk_68_method_68_code 0 = .ok (.getstatic 18, 3) := by decide +kernel
theorem dIL_3 : decode jdk_68_method_68_code 3 = .ok (.ifCond .eq 14, 3) := by decide +kernel
theorem dIL_6 : decode jdk_68_method_68_code 6 = .ok (.aload_n 0, 1) := by decide +kernel
theorem dIL_7 : decode jdk_68_method_68_code 7 = .ok (.getfield 22, 3) := by decide +kernel
theorem dIL_10 : decode jdk_68_method_68_code 10 = .ok (.ifCond .ne 7, 3) := by decide +kernel
theorem dIL_13 : decode jdk_68_method_68_code 13 = .ok (.iconst 1, 1) := by decide +kernel
theorem dIL_14 : decode jdk_68_method_68_code 14 = .ok (.goto 4, 3) := by decide +kernel
theorem dIL_18 : decode jdk_68_method_68_code 18 = .ok (.ireturn, 1) := by decide +kernel
set_option maxRecDepth 65536 in
set_option maxHeartbeats 40000000 in
theorem rmIL {l : Launch} {Z : State} {a0 : Array Value} {n0 : Nat} (X : Ctx Z a0) {x tb : Addr} {sc : Int32} {h : Heap} (hO : Old Z n0 h) (Ex : Exa Z h x "java/lang/StringBuilder") (Fv : Fld Z h x "java/lang/AbstractStringBuilder" "value" "[B" (.ref tb)) (Fk : Fld Z h x "java/lang/AbstractStringBuilder" "coder" "B" (.int (0 : Int32))) (Fs : Fld Z h x "java/lang/AbstractStringBuilder" "count" "I" (.int sc)) :
    Ctr l Z EL1 n0 (⟨"java/lang/AbstractStringBuilder", "isLatin1", "()Z"⟩ : MethodName) jdk_68_method_68_code 1 (some .boolean) ({ frames := 0, cells := 0, slots := 0, locals := 0 } : Room) #[(.ref x)] h [] (fun v h' => v = some (.int 1) ∧ h' = h) := by
  have hw := X.hw
  obtain ⟨z1, hz1, hz2⟩ := X.2.2.1
  refine Ctr.intro (a0 := a0) (plainFor_of_name pn0) hO X.ew ?_
  intro p e s m below meth c T0 V0 S0 hby hml hret hnm hsf
  rw [ef2]
  refine g_getS S0 (w22 hw) Via.refl (hz1.ext S0.old.2) (hb hby dIL_0) ?_
  intro T24 ST24
  show Go p e below _ (T24.setTop (mkF m 3 #[.val (.ref x)] [(.int z1)]))
  refine s_ifN ST24 (hb hby dIL_3) ((if0 _ _).trans (feq hz2).1) (pc' := 6) rfl ?_
  refine s_aloadN ST24 (hb hby dIL_6) rfl rfl (pc' := 7) rfl ?_
  refine g_getF ST24 (w27 hw) Via.refl Fk (hb hby dIL_7) ?_
  intro T25 ST25
  show Go p e below _ (T25.setTop (mkF m 10 #[.val (.ref x)] [(.int (0 : Int32))]))
  refine s_ifN ST25 (hb hby dIL_10) (by decide) (pc' := 13) rfl ?_
  refine s_iconst ST25 (hb hby dIL_13) (v := (1 : Int32)) rfl (pc' := 14) rfl ?_
  refine s_goto ST25 (hb hby dIL_14) (by decide) (pcT := 18) (by decide) ?_
  exact g_iretN ST25 (hb hby dIL_18) hret (by simp) ⟨rfl, rfl⟩
theorem dCF000r_0 : decode jdk_41_method_12_code 0 = .ok (.iload_n 0, 1) := by decide +kernel
theorem dCF000r_1 : decode jdk_41_method_12_code 1 = .ok (.ifCond .lt 13, 3) := by decide +kernel
theorem dCF000r_4 : decode jdk_41_method_12_code 4 = .ok (.iload_n 0, 1) := by decide +kernel
theorem dCF000r_5 : decode jdk_41_method_12_code 5 = .ok (.iload_n 1, 1) := by decide +kernel
theorem dCF000r_6 : decode jdk_41_method_12_code 6 = .ok (.if_icmp .gt 8, 3) := by decide +kernel
theorem dCF000r_9 : decode jdk_41_method_12_code 9 = .ok (.iload_n 1, 1) := by decide +kernel
theorem dCF000r_10 : decode jdk_41_method_12_code 10 = .ok (.iload_n 2, 1) := by decide +kernel
theorem dCF000r_11 : decode jdk_41_method_12_code 11 = .ok (.if_icmp .le 11, 3) := by decide +kernel
theorem dCF000r_22 : decode jdk_41_method_12_code 22 = .ok (.iload_n 0, 1) := by decide +kernel
theorem dCF000r_23 : decode jdk_41_method_12_code 23 = .ok (.ireturn, 1) := by decide +kernel
set_option maxRecDepth 65536 in
set_option maxHeartbeats 40000000 in
theorem rmCF000r {l : Launch} {Z : State} {a0 : Array Value} {n0 : Nat} (X : Ctx Z a0) (fb : Addr) {h : Heap} (hO : Old Z n0 h)  :
    Ctr l Z EL1 n0 (⟨"jdk/internal/util/Preconditions", "checkFromToIndex", "(IIILjava/util/function/BiFunction;)I"⟩ : MethodName) jdk_41_method_12_code 4 (some .int) ({ frames := 0, cells := 0, slots := 0, locals := 0 } : Room) #[(.int (0 : Int32)), (.int (0 : Int32)), (.int (0 : Int32)), (.ref fb)] h [] (fun v h' => v = some (.int (0 : Int32)) ∧ h' = h) := by
  have hw := X.hw
  obtain ⟨z1, hz1, hz2⟩ := X.2.2.1
  refine Ctr.intro (a0 := a0) (plainFor_of_name pn2) hO X.ew ?_
  intro p e s m below meth c T0 V0 S0 hby hml hret hnm hsf
  rw [ef3]
  refine s_iloadN S0 (hb hby dCF000r_0) rfl (pc' := 1) rfl ?_
  refine s_ifN S0 (hb hby dCF000r_1) (by decide) (pc' := 4) rfl ?_
  refine s_iloadN S0 (hb hby dCF000r_4) rfl (pc' := 5) rfl ?_
  refine s_iloadN S0 (hb hby dCF000r_5) rfl (pc' := 6) rfl ?_
  refine s_icmpN S0 (hb hby dCF000r_6) (by decide) (pc' := 9) rfl ?_
  refine s_iloadN S0 (hb hby dCF000r_9) rfl (pc' := 10) rfl ?_
  refine s_iloadN S0 (hb hby dCF000r_10) rfl (pc' := 11) rfl ?_
  refine s_icmpY S0 (hb hby dCF000r_11) (by decide) (by decide) (pcT := 22) (by decide) ?_
  refine s_iloadN S0 (hb hby dCF000r_22) rfl (pc' := 23) rfl ?_
  exact g_iret S0 (hb hby dCF000r_23) hret ⟨rfl, rfl⟩
theorem dCF000n_0 : decode jdk_41_method_12_code 0 = .ok (.iload_n 0, 1) := by decide +kernel
theorem dCF000n_1 : decode jdk_41_method_12_code 1 = .ok (.ifCond .lt 13, 3) := by decide +kernel
theorem dCF000n_4 : decode jdk_41_method_12_code 4 = .ok (.iload_n 0, 1) := by decide +kernel
theorem dCF000n_5 : decode jdk_41_method_12_code 5 = .ok (.iload_n 1, 1) := by decide +kernel
theorem dCF000n_6 : decode jdk_41_method_12_code 6 = .ok (.if_icmp .gt 8, 3) := by decide +kernel
theorem dCF000n_9 : decode jdk_41_method_12_code 9 = .ok (.iload_n 1, 1) := by decide +kernel
theorem dCF000n_10 : decode jdk_41_method_12_code 10 = .ok (.iload_n 2, 1) := by decide +kernel
theorem dCF000n_11 : decode jdk_41_method_12_code 11 = .ok (.if_icmp .le 11, 3) := by decide +kernel
theorem dCF000n_22 : decode jdk_41_method_12_code 22 = .ok (.iload_n 0, 1) := by decide +kernel
theorem dCF000n_23 : decode jdk_41_method_12_code 23 = .ok (.ireturn, 1) := by decide +kernel
set_option maxRecDepth 65536 in
set_option maxHeartbeats 40000000 in
theorem rmCF000n {l : Launch} {Z : State} {a0 : Array Value} {n0 : Nat} (X : Ctx Z a0)  {h : Heap} (hO : Old Z n0 h)  :
    Ctr l Z EL1 n0 (⟨"jdk/internal/util/Preconditions", "checkFromToIndex", "(IIILjava/util/function/BiFunction;)I"⟩ : MethodName) jdk_41_method_12_code 4 (some .int) ({ frames := 0, cells := 0, slots := 0, locals := 0 } : Room) #[(.int (0 : Int32)), (.int (0 : Int32)), (.int (0 : Int32)), .null] h [] (fun v h' => v = some (.int (0 : Int32)) ∧ h' = h) := by
  have hw := X.hw
  obtain ⟨z1, hz1, hz2⟩ := X.2.2.1
  refine Ctr.intro (a0 := a0) (plainFor_of_name pn2) hO X.ew ?_
  intro p e s m below meth c T0 V0 S0 hby hml hret hnm hsf
  rw [ef4]
  refine s_iloadN S0 (hb hby dCF000n_0) rfl (pc' := 1) rfl ?_
  refine s_ifN S0 (hb hby dCF000n_1) (by decide) (pc' := 4) rfl ?_
  refine s_iloadN S0 (hb hby dCF000n_4) rfl (pc' := 5) rfl ?_
  refine s_iloadN S0 (hb hby dCF000n_5) rfl (pc' := 6) rfl ?_
  refine s_icmpN S0 (hb hby dCF000n_6) (by decide) (pc' := 9) rfl ?_
  refine s_iloadN S0 (hb hby dCF000n_9) rfl (pc' := 10) rfl ?_
  refine s_iloadN S0 (hb hby dCF000n_10) rfl (pc' := 11) rfl ?_
  refine s_icmpY S0 (hb hby dCF000n_11) (by decide) (by decide) (pcT := 22) (by decide) ?_
  refine s_iloadN S0 (hb hby dCF000n_22) rfl (pc' := 23) rfl ?_
  exact g_iret S0 (hb hby dCF000n_23) hret ⟨rfl, rfl⟩
theorem dEC0_0 : decode jdk_68_method_9_code 0 = .ok (.aload_n 0, 1) := by decide +kernel
theorem dEC0_1 : decode jdk_68_method_9_code 1 = .ok (.getfield 15, 3) := by decide +kernel
theorem dEC0_4 : decode jdk_68_method_9_code 4 = .ok (.arraylength, 1) := by decide +kernel
theorem dEC0_5 : decode jdk_68_method_9_code 5 = .ok (.aload_n 0, 1) := by decide +kernel
theorem dEC0_6 : decode jdk_68_method_9_code 6 = .ok (.getfield 22, 3) := by decide +kernel
theorem dEC0_9 : decode jdk_68_method_9_code 9 = .ok (.ishr, 1) := by decide +kernel
theorem dEC0_10 : decode jdk_68_method_9_code 10 = .ok (.istore_n 2, 1) := by decide +kernel
theorem dEC0_11 : decode jdk_68_method_9_code 11 = .ok (.iload_n 1, 1) := by decide +kernel
theorem dEC0_12 : decode jdk_68_method_9_code 12 = .ok (.iload_n 2, 1) := by decide +kernel
theorem dEC0_13 : decode jdk_68_method_9_code 13 = .ok (.isub, 1) := by decide +kernel
theorem dEC0_14 : decode jdk_68_method_9_code 14 = .ok (.ifCond .le 24, 3) := by decide +kernel
theorem dEC0_38 : decode jdk_68_method_9_code 38 = .ok (.return_, 1) := by decide +kernel
set_option maxRecDepth 65536 in
set_option maxHeartbeats 40000000 in
theorem rmEC0 {l : Launch} {Z : State} {a0 : Array Value} {n0 : Nat} (X : Ctx Z a0) {x tb : Addr} {sc : Int32} {kb : ClassId} {bs : List Value} {dv : Value} {h : Heap} (hO : Old Z n0 h) (Ex : Exa Z h x "java/lang/StringBuilder") (Fv : Fld Z h x "java/lang/AbstractStringBuilder" "value" "[B" (.ref tb)) (Fk : Fld Z h x "java/lang/AbstractStringBuilder" "coder" "B" (.int (0 : Int32))) (Fs : Fld Z h x "java/lang/AbstractStringBuilder" "count" "I" (.int sc)) (Vb : Arv Z h tb kb .byte (16 : Int32) bs dv) :
    Ctr l Z EL1 n0 (⟨"java/lang/AbstractStringBuilder", "ensureCapacityInternal", "(I)V"⟩ : MethodName) jdk_68_method_9_code 3 none ({ frames := 0, cells := 0, slots := 0, locals := 0 } : Room) #[(.ref x), (.int (0 : Int32))] h [] (fun v h' => v = none ∧ h' = h) := by
  have hw := X.hw
  obtain ⟨z1, hz1, hz2⟩ := X.2.2.1
  refine Ctr.intro (a0 := a0) (plainFor_of_name pn0) hO X.ew ?_
  intro p e s m below meth c T0 V0 S0 hby hml hret hnm hsf
  rw [ef5]
  refine s_aloadN S0 (hb hby dEC0_0) rfl rfl (pc' := 1) rfl ?_
  refine g_getF S0 (w25 hw) Via.refl Fv (hb hby dEC0_1) ?_
  intro T26 ST26
  show Go p e below _ (T26.setTop (mkF m 4 #[.val (.ref x), .val (.int (0 : Int32)), .unset] [(.ref tb)]))
  refine g_len ST26 Vb (hb hby dEC0_4) ?_
  show Go p e below _ (T26.setTop (mkF m 5 #[.val (.ref x), .val (.int (0 : Int32)), .unset] [(.int (16 : Int32))]))
  refine s_aloadN ST26 (hb hby dEC0_5) rfl rfl (pc' := 6) rfl ?_
  refine g_getF ST26 (w27 hw) Via.refl Fk (hb hby dEC0_6) ?_
  intro T27 ST27
  show Go p e below _ (T27.setTop (mkF m 9 #[.val (.ref x), .val (.int (0 : Int32)), .unset] [(.int (0 : Int32)), (.int (16 : Int32))]))
  refine s_ishr ST27 (hb hby dEC0_9) (z := (16 : Int32)) (by decide) (pc' := 10) rfl ?_
  refine s_istoreN ST27 (hb hby dEC0_10) (L' := #[.val (.ref x), .val (.int (0 : Int32)), .val (.int (16 : Int32))]) rfl (pc' := 11) rfl ?_
  refine s_iloadN ST27 (hb hby dEC0_11) rfl (pc' := 12) rfl ?_
  refine s_iloadN ST27 (hb hby dEC0_12) rfl (pc' := 13) rfl ?_
  refine s_isub ST27 (hb hby dEC0_13) (z := (-16 : Int32)) rfl (pc' := 14) rfl ?_
  refine s_ifY ST27 (hb hby dEC0_14) (by decide) (by decide) (pcT := 38) (by decide) ?_
  exact g_ret ST27 (hb hby dEC0_38) hret ⟨rfl, rfl⟩
theorem dAP_0 : decode jdk_68_method_74_code 0 = .ok (.aload_n 0, 1) := by decide +kernel
theorem dAP_1 : decode jdk_68_method_74_code 1 = .ok (.getfield 79, 3) := by decide +kernel
theorem dAP_4 : decode jdk_68_method_74_code 4 = .ok (.istore 4, 2) := by decide +kernel
theorem dAP_6 : decode jdk_68_method_74_code 6 = .ok (.aload_n 0, 1) := by decide +kernel
theorem dAP_7 : decode jdk_68_method_74_code 7 = .ok (.invokevirtual 83, 3) := by decide +kernel
theorem dAP_10 : decode jdk_68_method_74_code 10 = .ok (.ifCond .eq 97, 3) := by decide +kernel
theorem dAP_13 : decode jdk_68_method_74_code 13 = .ok (.aload_n 0, 1) := by decide +kernel
theorem dAP_14 : decode jdk_68_method_74_code 14 = .ok (.getfield 15, 3) := by decide +kernel
theorem dAP_17 : decode jdk_68_method_74_code 17 = .ok (.astore 5, 2) := by decide +kernel
theorem dAP_19 : decode jdk_68_method_74_code 19 = .ok (.iload_n 2, 1) := by decide +kernel
theorem dAP_20 : decode jdk_68_method_74_code 20 = .ok (.istore 6, 2) := by decide +kernel
theorem dAP_22 : decode jdk_68_method_74_code 22 = .ok (.iload 4, 2) := by decide +kernel
theorem dAP_24 : decode jdk_68_method_74_code 24 = .ok (.istore 7, 2) := by decide +kernel
theorem dAP_26 : decode jdk_68_method_74_code 26 = .ok (.iload 6, 2) := by decide +kernel
theorem dAP_28 : decode jdk_68_method_74_code 28 = .ok (.iload_n 3, 1) := by decide +kernel
theorem dAP_29 : decode jdk_68_method_74_code 29 = .ok (.if_icmp .ge 75, 3) := by decide +kernel
theorem dAP_104 : decode jdk_68_method_74_code 104 = .ok (.goto 15, 3) := by decide +kernel
theorem dAP_119 : decode jdk_68_method_74_code 119 = .ok (.aload_n 0, 1) := by decide +kernel
theorem dAP_120 : decode jdk_68_method_74_code 120 = .ok (.iload 4, 2) := by decide +kernel
theorem dAP_122 : decode jdk_68_method_74_code 122 = .ok (.iload_n 3, 1) := by decide +kernel
theorem dAP_123 : decode jdk_68_method_74_code 123 = .ok (.iadd, 1) := by decide +kernel
theorem dAP_124 : decode jdk_68_method_74_code 124 = .ok (.iload_n 2, 1) := by decide +kernel
theorem dAP_125 : decode jdk_68_method_74_code 125 = .ok (.isub, 1) := by decide +kernel
theorem dAP_126 : decode jdk_68_method_74_code 126 = .ok (.putfield 79, 3) := by decide +kernel
theorem dAP_129 : decode jdk_68_method_74_code 129 = .ok (.return_, 1) := by decide +kernel
set_option maxRecDepth 65536 in
set_option maxHeartbeats 40000000 in
theorem rmAP {l : Launch} {Z : State} {a0 : Array Value} {n0 : Nat} (X : Ctx Z a0) {x tb b : Addr} {kc : ClassId} {vs : List Value} {dv : Value} (na : n0 ≤ x) {h : Heap} (hO : Old Z n0 h) (Ex : Exa Z h x "java/lang/StringBuilder") (Fv : Fld Z h x "java/lang/AbstractStringBuilder" "value" "[B" (.ref tb)) (Fk : Fld Z h x "java/lang/AbstractStringBuilder" "coder" "B" (.int (0 : Int32))) (Fs : Fld Z h x "java/lang/AbstractStringBuilder" "count" "I" (.int (0 : Int32))) (Vc : Arv Z h b kc .char (0 : Int32) vs dv) :
    Ctr l Z EL1 n0 (⟨"java/lang/AbstractStringBuilder", "appendChars", "([CII)V"⟩ : MethodName) jdk_68_method_74_code 9 none ({ frames := 1, cells := 0, slots := 0, locals := 12 } : Room) #[(.ref x), (.ref b), (.int (0 : Int32)), (.int (0 : Int32))] h [] (fun v h' => v = none ∧ Keep h h' [x] ∧ Exa Z h' x "java/lang/StringBuilder" ∧ Fld Z h' x "java/lang/AbstractStringBuilder" "value" "[B" (.ref tb) ∧ Fld Z h' x "java/lang/AbstractStringBuilder" "coder" "B" (.int (0 : Int32)) ∧ Fld Z h' x "java/lang/AbstractStringBuilder" "count" "I" (.int (0 : Int32))) := by
  have hw := X.hw
  obtain ⟨z1, hz1, hz2⟩ := X.2.2.1
  refine Ctr.intro (a0 := a0) (plainFor_of_name pn0) hO X.ew ?_
  intro p e s m below meth c T0 V0 S0 hby hml hret hnm hsf
  rw [ef6]
  refine s_aloadN S0 (hb hby dAP_0) rfl rfl (pc' := 1) rfl ?_
  refine g_getF S0 (w63 hw) Via.refl Fs (hb hby dAP_1) ?_
  intro T28 ST28
  show Go p e below _ (T28.setTop (mkF m 4 #[.val (.ref x), .val (.ref b), .val (.int (0 : Int32)), .val (.int (0 : Int32)), .unset, .unset, .unset, .unset, .unset] [(.int (0 : Int32))]))
  refine s_istore ST28 (hb hby dAP_4) (L' := #[.val (.ref x), .val (.ref b), .val (.int (0 : Int32)), .val (.int (0 : Int32)), .val (.int (0 : Int32)), .unset, .unset, .unset, .unset]) rfl (pc' := 6) rfl ?_
  refine s_aloadN ST28 (hb hby dAP_6) rfl rfl (pc' := 7) rfl ?_
  show Go p e below _ (T28.setTop (mkF m 7 #[.val (.ref x), .val (.ref b), .val (.int (0 : Int32)), .val (.int (0 : Int32)), .val (.int (0 : Int32)), .unset, .unset, .unset, .unset] [(.ref x)]))
  refine g_virtual ST28 (rmIL X ST28.old Ex Fv Fk Fs) (fun _ q => nomatch q) (w75 hw) (w76 hw) (w78 hw) (w77 hw) (w19 hw) (w79 hw) (by decide) (fun _ h => notFace_of_selects h) (hb hby dAP_7) (by rw [hml]; rfl) x Ex [] (lenOf pd2 rfl) rfl rfl (Nat.le_of_ble_eq_true rfl) (Nat.le_of_ble_eq_true rfl) (Nat.le_of_ble_eq_true rfl) (Nat.le_of_ble_eq_true rfl) ?_
  intro v29 T29 V29 h29 S29 C29 q29
  obtain ⟨rfl, rfl⟩ := q29
  show Go p e below _ (T29.setTop (mkF m 10 #[.val (.ref x), .val (.ref b), .val (.int (0 : Int32)), .val (.int (0 : Int32)), .val (.int (0 : Int32)), .unset, .unset, .unset, .unset] [(.int (1 : Int32))]))
  refine s_ifN S29 (hb hby dAP_10) (by decide) (pc' := 13) rfl ?_
  refine s_aloadN S29 (hb hby dAP_13) rfl rfl (pc' := 14) rfl ?_
  refine g_getF S29 (w25 hw) Via.refl Fv (hb hby dAP_14) ?_
  intro T30 ST30
  show Go p e below _ (T30.setTop (mkF m 17 #[.val (.ref x), .val (.ref b), .val (.int (0 : Int32)), .val (.int (0 : Int32)), .val (.int (0 : Int32)), .unset, .unset, .unset, .unset] [(.ref tb)]))
  refine s_astore ST30 (hb hby dAP_17) rfl (L' := #[.val (.ref x), .val (.ref b), .val (.int (0 : Int32)), .val (.int (0 : Int32)), .val (.int (0 : Int32)), .val (.ref tb), .unset, .unset, .unset]) rfl (pc' := 19) rfl ?_
  refine s_iloadN ST30 (hb hby dAP_19) rfl (pc' := 20) rfl ?_
  refine s_istore ST30 (hb hby dAP_20) (L' := #[.val (.ref x), .val (.ref b), .val (.int (0 : Int32)), .val (.int (0 : Int32)), .val (.int (0 : Int32)), .val (.ref tb), .val (.int (0 : Int32)), .unset, .unset]) rfl (pc' := 22) rfl ?_
  refine s_iload ST30 (hb hby dAP_22) rfl (pc' := 24) rfl ?_
  refine s_istore ST30 (hb hby dAP_24) (L' := #[.val (.ref x), .val (.ref b), .val (.int (0 : Int32)), .val (.int (0 : Int32)), .val (.int (0 : Int32)), .val (.ref tb), .val (.int (0 : Int32)), .val (.int (0 : Int32)), .unset]) rfl (pc' := 26) rfl ?_
  refine s_iload ST30 (hb hby dAP_26) rfl (pc' := 28) rfl ?_
  refine s_iloadN ST30 (hb hby dAP_28) rfl (pc' := 29) rfl ?_
  refine s_icmpY ST30 (hb hby dAP_29) (by decide) (by decide) (pcT := 104) (by decide) ?_
  refine s_goto ST30 (hb hby dAP_104) (by decide) (pcT := 119) (by decide) ?_
  refine s_aloadN ST30 (hb hby dAP_119) rfl rfl (pc' := 120) rfl ?_
  refine s_iload ST30 (hb hby dAP_120) rfl (pc' := 122) rfl ?_
  refine s_iloadN ST30 (hb hby dAP_122) rfl (pc' := 123) rfl ?_
  refine s_iadd ST30 (hb hby dAP_123) (z := (0 : Int32)) rfl (pc' := 124) rfl ?_
  refine s_iloadN ST30 (hb hby dAP_124) rfl (pc' := 125) rfl ?_
  refine s_isub ST30 (hb hby dAP_125) (z := (0 : Int32)) rfl (pc' := 126) rfl ?_
  show Go p e below _ (T30.setTop (mkF m 126 #[.val (.ref x), .val (.ref b), .val (.int (0 : Int32)), .val (.int (0 : Int32)), .val (.int (0 : Int32)), .val (.ref tb), .val (.int (0 : Int32)), .val (.int (0 : Int32)), .unset] [(.int (0 : Int32)), (.ref x)]))
  refine g_putF ST30 (w63 hw) Via.refl Fs Ex (Or.inl (w64 hw)) (w10 hw) (ty := .int) (v' := (.int (0 : Int32))) (by decide) rfl rfl na (Safe.exa ST30.warm.alike Ex (by decide) (by decide)) (hb hby dAP_126) ?_
  intro T31 h31 S31 K31 W31 A31 F31 sg31
  have F32 := Fv.other W31 (Or.inr (slot_ne (Or.inl (w26 hw)) (Or.inl (w64 hw)) (by decide) (t := (.array .byte)) (t' := .int) (by decide) (by decide)))
  have F33 := Fk.other W31 (Or.inr (slot_ne (Or.inl (w28 hw)) (Or.inl (w64 hw)) (by decide) (t := .byte) (t' := .int) (by decide) (by decide)))
  show Go p e below _ (T31.setTop (mkF m 129 #[.val (.ref x), .val (.ref b), .val (.int (0 : Int32)), .val (.int (0 : Int32)), .val (.int (0 : Int32)), .val (.ref tb), .val (.int (0 : Int32)), .val (.int (0 : Int32)), .unset] []))
  show Go p e below _ (T31.setTop (mkF m 129 #[.val (.ref x), .val (.ref b), .val (.int (0 : Int32)), .val (.int (0 : Int32)), .val (.int (0 : Int32)), .val (.ref tb), .val (.int (0 : Int32)), .val (.int (0 : Int32)), .unset] []))
  have KA34 : Keep h29 h31 [x] := ((Keep.refl h29 [x]).trans K31 (fun y hy => Or.inl hy))
  exact g_ret S31 (hb hby dAP_129) hret ⟨rfl, KA34, A31, F32, F33, F31⟩
theorem dAA_0 : decode jdk_68_method_29_code 0 = .ok (.iload_n 2, 1) := by decide +kernel
theorem dAA_1 : decode jdk_68_method_29_code 1 = .ok (.iload_n 3, 1) := by decide +kernel
theorem dAA_2 : decode jdk_68_method_29_code 2 = .ok (.iadd, 1) := by decide +kernel
theorem dAA_3 : decode jdk_68_method_29_code 3 = .ok (.istore 4, 2) := by decide +kernel
theorem dAA_5 : decode jdk_68_method_29_code 5 = .ok (.iload_n 2, 1) := by decide +kernel
theorem dAA_6 : decode jdk_68_method_29_code 6 = .ok (.iload 4, 2) := by decide +kernel
theorem dAA_8 : decode jdk_68_method_29_code 8 = .ok (.aload_n 1, 1) := by decide +kernel
theorem dAA_9 : decode jdk_68_method_29_code 9 = .ok (.arraylength, 1) := by decide +kernel
theorem dAA_10 : decode jdk_68_method_29_code 10 = .ok (.getstatic 183, 3) := by decide +kernel
theorem dAA_13 : decode jdk_68_method_29_code 13 = .ok (.invokestatic 161, 3) := by decide +kernel
theorem dAA_16 : decode jdk_68_method_29_code 16 = .ok (.pop, 1) := by decide +kernel
theorem dAA_17 : decode jdk_68_method_29_code 17 = .ok (.aload_n 0, 1) := by decide +kernel
theorem dAA_18 : decode jdk_68_method_29_code 18 = .ok (.aload_n 0, 1) := by decide +kernel
theorem dAA_19 : decode jdk_68_method_29_code 19 = .ok (.getfield 79, 3) := by decide +kernel
theorem dAA_22 : decode jdk_68_method_29_code 22 = .ok (.iload_n 3, 1) := by decide +kernel
theorem dAA_23 : decode jdk_68_method_29_code 23 = .ok (.iadd, 1) := by decide +kernel
theorem dAA_24 : decode jdk_68_method_29_code 24 = .ok (.invokevirtual 100, 3) := by decide +kernel
theorem dAA_27 : decode jdk_68_method_29_code 27 = .ok (.aload_n 0, 1) := by decide +kernel
theorem dAA_28 : decode jdk_68_method_29_code 28 = .ok (.aload_n 1, 1) := by decide +kernel
theorem dAA_29 : decode jdk_68_method_29_code 29 = .ok (.iload_n 2, 1) := by decide +kernel
theorem dAA_30 : decode jdk_68_method_29_code 30 = .ok (.iload 4, 2) := by decide +kernel
theorem dAA_32 : decode jdk_68_method_29_code 32 = .ok (.invokevirtual 239, 3) := by decide +kernel
theorem dAA_35 : decode jdk_68_method_29_code 35 = .ok (.aload_n 0, 1) := by decide +kernel
theorem dAA_36 : decode jdk_68_method_29_code 36 = .ok (.areturn, 1) := by decide +kernel
set_option maxRecDepth 65536 in
set_option maxHeartbeats 40000000 in
theorem rmAA {l : Launch} {Z : State} {a0 : Array Value} {n0 : Nat} (X : Ctx Z a0) {x tb b : Addr} {kc : ClassId} {vs : List Value} {dv : Value} (na : n0 ≤ x) {kb : ClassId} {bs : List Value} {db : Value} {h : Heap} (hO : Old Z n0 h) (Ex : Exa Z h x "java/lang/StringBuilder") (Fv : Fld Z h x "java/lang/AbstractStringBuilder" "value" "[B" (.ref tb)) (Fk : Fld Z h x "java/lang/AbstractStringBuilder" "coder" "B" (.int (0 : Int32))) (Fs : Fld Z h x "java/lang/AbstractStringBuilder" "count" "I" (.int (0 : Int32))) (Vc : Arv Z h b kc .char (0 : Int32) vs dv) (Vb : Arv Z h tb kb .byte (16 : Int32) bs db) :
    Ctr l Z EL1 n0 (⟨"java/lang/AbstractStringBuilder", "append", "([CII)Ljava/lang/AbstractStringBuilder;"⟩ : MethodName) jdk_68_method_29_code 5 (some (.object "java/lang/AbstractStringBuilder")) ({ frames := 2, cells := 0, slots := 0, locals := 32 } : Room) #[(.ref x), (.ref b), (.int (0 : Int32)), (.int (0 : Int32))] h [] (fun v h' => v = some (.ref x) ∧ Keep h h' [x] ∧ Exa Z h' x "java/lang/StringBuilder" ∧ Fld Z h' x "java/lang/AbstractStringBuilder" "value" "[B" (.ref tb) ∧ Fld Z h' x "java/lang/AbstractStringBuilder" "coder" "B" (.int (0 : Int32)) ∧ Fld Z h' x "java/lang/AbstractStringBuilder" "count" "I" (.int (0 : Int32))) := by
  have hw := X.hw
  obtain ⟨z1, hz1, hz2⟩ := X.2.2.1
  refine Ctr.intro (a0 := a0) (plainFor_of_name pn0) hO X.ew ?_
  intro p e s m below meth c T0 V0 S0 hby hml hret hnm hsf
  rw [ef7]
  obtain ⟨fm, hfm, rfm⟩ := X.fm
  rcases ref_cases rfm with rfl | ⟨fb, rfl⟩
  · skip
    refine s_iloadN S0 (hb hby dAA_0) rfl (pc' := 1) rfl ?_
    refine s_iloadN S0 (hb hby dAA_1) rfl (pc' := 2) rfl ?_
    refine s_iadd S0 (hb hby dAA_2) (z := (0 : Int32)) rfl (pc' := 3) rfl ?_
    refine s_istore S0 (hb hby dAA_3) (L' := #[.val (.ref x), .val (.ref b), .val (.int (0 : Int32)), .val (.int (0 : Int32)), .val (.int (0 : Int32))]) rfl (pc' := 5) rfl ?_
    refine s_iloadN S0 (hb hby dAA_5) rfl (pc' := 6) rfl ?_
    refine s_iload S0 (hb hby dAA_6) rfl (pc' := 8) rfl ?_
    refine s_aloadN S0 (hb hby dAA_8) rfl rfl (pc' := 9) rfl ?_
    refine g_len S0 Vc (hb hby dAA_9) ?_
    show Go p e below _ (T0.setTop (mkF m 10 #[.val (.ref x), .val (.ref b), .val (.int (0 : Int32)), .val (.int (0 : Int32)), .val (.int (0 : Int32))] [(.int (0 : Int32)), (.int (0 : Int32)), (.int (0 : Int32))]))
    refine g_getS S0 (w57 hw) Via.refl (hfm.ext S0.old.2) (hb hby dAA_10) ?_
    intro T35 ST35
    show Go p e below _ (T35.setTop (mkF m 13 #[.val (.ref x), .val (.ref b), .val (.int (0 : Int32)), .val (.int (0 : Int32)), .val (.int (0 : Int32))] [.null, (.int (0 : Int32)), (.int (0 : Int32)), (.int (0 : Int32))]))
    show Go p e below _ (T35.setTop (mkF m 13 #[.val (.ref x), .val (.ref b), .val (.int (0 : Int32)), .val (.int (0 : Int32)), .val (.int (0 : Int32))] [.null, (.int (0 : Int32)), (.int (0 : Int32)), (.int (0 : Int32))]))
    refine g_static ST35 (rmCF000n X ST35.old) (fun _ q => nomatch q) (w60 hw) (w61 hw) (w58 hw) (w62 hw) (by decide) (hb hby dAA_13) (by rw [hml]; rfl) [(.int (0 : Int32)), (.int (0 : Int32)), (.int (0 : Int32)), .null] (lenOf pd3 rfl) rfl rfl (Nat.le_of_ble_eq_true rfl) (Nat.le_of_ble_eq_true rfl) (Nat.le_of_ble_eq_true rfl) (Nat.le_of_ble_eq_true rfl) ?_
    intro v36 T36 V36 h36 S36 C36 q36
    obtain ⟨rfl, rfl⟩ := q36
    show Go p e below _ (T36.setTop (mkF m 16 #[.val (.ref x), .val (.ref b), .val (.int (0 : Int32)), .val (.int (0 : Int32)), .val (.int (0 : Int32))] [(.int (0 : Int32))]))
    refine s_pop S36 (hb hby dAA_16) rfl (pc' := 17) rfl ?_
    refine s_aloadN S36 (hb hby dAA_17) rfl rfl (pc' := 18) rfl ?_
    refine s_aloadN S36 (hb hby dAA_18) rfl rfl (pc' := 19) rfl ?_
    refine g_getF S36 (w63 hw) Via.refl Fs (hb hby dAA_19) ?_
    intro T37 ST37
    show Go p e below _ (T37.setTop (mkF m 22 #[.val (.ref x), .val (.ref b), .val (.int (0 : Int32)), .val (.int (0 : Int32)), .val (.int (0 : Int32))] [(.int (0 : Int32)), (.ref x)]))
    refine s_iloadN ST37 (hb hby dAA_22) rfl (pc' := 23) rfl ?_
    refine s_iadd ST37 (hb hby dAA_23) (z := (0 : Int32)) rfl (pc' := 24) rfl ?_
    show Go p e below _ (T37.setTop (mkF m 24 #[.val (.ref x), .val (.ref b), .val (.int (0 : Int32)), .val (.int (0 : Int32)), .val (.int (0 : Int32))] [(.int (0 : Int32)), (.ref x)]))
    refine g_private ST37 (rmEC0 X ST37.old Ex Fv Fk Fs Vb) (fun _ q => nomatch q) (w65 hw) (ni_sel (w68 hw) rfl) (w67 hw) (w66 hw) (w19 hw) (w69 hw) (by decide) (hb hby dAA_24) (by rw [hml]; rfl) x Ex [(.int (0 : Int32))] (lenOf pd0 rfl) rfl rfl (Nat.le_of_ble_eq_true rfl) (Nat.le_of_ble_eq_true rfl) (Nat.le_of_ble_eq_true rfl) (Nat.le_of_ble_eq_true rfl) ?_
    intro v38 T38 V38 h38 S38 C38 q38
    obtain ⟨rfl, rfl⟩ := q38
    show Go p e below _ (T38.setTop (mkF m 27 #[.val (.ref x), .val (.ref b), .val (.int (0 : Int32)), .val (.int (0 : Int32)), .val (.int (0 : Int32))] []))
    refine s_aloadN S38 (hb hby dAA_27) rfl rfl (pc' := 28) rfl ?_
    refine s_aloadN S38 (hb hby dAA_28) rfl rfl (pc' := 29) rfl ?_
    refine s_iloadN S38 (hb hby dAA_29) rfl (pc' := 30) rfl ?_
    refine s_iload S38 (hb hby dAA_30) rfl (pc' := 32) rfl ?_
    show Go p e below _ (T38.setTop (mkF m 32 #[.val (.ref x), .val (.ref b), .val (.int (0 : Int32)), .val (.int (0 : Int32)), .val (.int (0 : Int32))] [(.int (0 : Int32)), (.int (0 : Int32)), (.ref b), (.ref x)]))
    refine g_private S38 (rmAP X na S38.old Ex Fv Fk Fs Vc) (fun _ q => nomatch q) (w70 hw) (ni_sel (w68 hw) rfl) (w72 hw) (w71 hw) (w19 hw) (w74 hw) (by decide) (hb hby dAA_32) (by rw [hml]; rfl) x Ex [(.ref b), (.int (0 : Int32)), (.int (0 : Int32))] (lenOf pd4 rfl) rfl rfl (Nat.le_of_ble_eq_true rfl) (Nat.le_of_ble_eq_true rfl) (Nat.le_of_ble_eq_true rfl) (Nat.le_of_ble_eq_true rfl) ?_
    intro v39 T39 V39 h39 S39 C39 q39
    obtain ⟨rfl, K1, E1, F1, F2, F3⟩ := q39
    show Go p e below _ (T39.setTop (mkF m 35 #[.val (.ref x), .val (.ref b), .val (.int (0 : Int32)), .val (.int (0 : Int32)), .val (.int (0 : Int32))] []))
    refine s_aloadN S39 (hb hby dAA_35) rfl rfl (pc' := 36) rfl ?_
    exact g_aret S39 (hb hby dAA_36) hret rfl rfl rfl ⟨rfl, K1, E1, F1, F2, F3⟩
  · skip
    refine s_iloadN S0 (hb hby dAA_0) rfl (pc' := 1) rfl ?_
    refine s_iloadN S0 (hb hby dAA_1) rfl (pc' := 2) rfl ?_
    refine s_iadd S0 (hb hby dAA_2) (z := (0 : Int32)) rfl (pc' := 3) rfl ?_
    refine s_istore S0 (hb hby dAA_3) (L' := #[.val (.ref x), .val (.ref b), .val (.int (0 : Int32)), .val (.int (0 : Int32)), .val (.int (0 : Int32))]) rfl (pc' := 5) rfl ?_
    refine s_iloadN S0 (hb hby dAA_5) rfl (pc' := 6) rfl ?_
    refine s_iload S0 (hb hby dAA_6) rfl (pc' := 8) rfl ?_
    refine s_aloadN S0 (hb hby dAA_8) rfl rfl (pc' := 9) rfl ?_
    refine g_len S0 Vc (hb hby dAA_9) ?_
    show Go p e below _ (T0.setTop (mkF m 10 #[.val (.ref x), .val (.ref b), .val (.int (0 : Int32)), .val (.int (0 : Int32)), .val (.int (0 : Int32))] [(.int (0 : Int32)), (.int (0 : Int32)), (.int (0 : Int32))]))
    refine g_getS S0 (w57 hw) Via.refl (hfm.ext S0.old.2) (hb hby dAA_10) ?_
    intro T40 ST40
    show Go p e below _ (T40.setTop (mkF m 13 #[.val (.ref x), .val (.ref b), .val (.int (0 : Int32)), .val (.int (0 : Int32)), .val (.int (0 : Int32))] [(.ref fb), (.int (0 : Int32)), (.int (0 : Int32)), (.int (0 : Int32))]))
    show Go p e below _ (T40.setTop (mkF m 13 #[.val (.ref x), .val (.ref b), .val (.int (0 : Int32)), .val (.int (0 : Int32)), .val (.int (0 : Int32))] [(.ref fb), (.int (0 : Int32)), (.int (0 : Int32)), (.int (0 : Int32))]))
    refine g_static ST40 (rmCF000r X fb ST40.old) (fun _ q => nomatch q) (w60 hw) (w61 hw) (w58 hw) (w62 hw) (by decide) (hb hby dAA_13) (by rw [hml]; rfl) [(.int (0 : Int32)), (.int (0 : Int32)), (.int (0 : Int32)), (.ref fb)] (lenOf pd3 rfl) rfl rfl (Nat.le_of_ble_eq_true rfl) (Nat.le_of_ble_eq_true rfl) (Nat.le_of_ble_eq_true rfl) (Nat.le_of_ble_eq_true rfl) ?_
    intro v41 T41 V41 h41 S41 C41 q41
    obtain ⟨rfl, rfl⟩ := q41
    show Go p e below _ (T41.setTop (mkF m 16 #[.val (.ref x), .val (.ref b), .val (.int (0 : Int32)), .val (.int (0 : Int32)), .val (.int (0 : Int32))] [(.int (0 : Int32))]))
    refine s_pop S41 (hb hby dAA_16) rfl (pc' := 17) rfl ?_
    refine s_aloadN S41 (hb hby dAA_17) rfl rfl (pc' := 18) rfl ?_
    refine s_aloadN S41 (hb hby dAA_18) rfl rfl (pc' := 19) rfl ?_
    refine g_getF S41 (w63 hw) Via.refl Fs (hb hby dAA_19) ?_
    intro T42 ST42
    show Go p e below _ (T42.setTop (mkF m 22 #[.val (.ref x), .val (.ref b), .val (.int (0 : Int32)), .val (.int (0 : Int32)), .val (.int (0 : Int32))] [(.int (0 : Int32)), (.ref x)]))
    refine s_iloadN ST42 (hb hby dAA_22) rfl (pc' := 23) rfl ?_
    refine s_iadd ST42 (hb hby dAA_23) (z := (0 : Int32)) rfl (pc' := 24) rfl ?_
    show Go p e below _ (T42.setTop (mkF m 24 #[.val (.ref x), .val (.ref b), .val (.int (0 : Int32)), .val (.int (0 : Int32)), .val (.int (0 : Int32))] [(.int (0 : Int32)), (.ref x)]))
    refine g_private ST42 (rmEC0 X ST42.old Ex Fv Fk Fs Vb) (fun _ q => nomatch q) (w65 hw) (ni_sel (w68 hw) rfl) (w67 hw) (w66 hw) (w19 hw) (w69 hw) (by decide) (hb hby dAA_24) (by rw [hml]; rfl) x Ex [(.int (0 : Int32))] (lenOf pd0 rfl) rfl rfl (Nat.le_of_ble_eq_true rfl) (Nat.le_of_ble_eq_true rfl) (Nat.le_of_ble_eq_true rfl) (Nat.le_of_ble_eq_true rfl) ?_
    intro v43 T43 V43 h43 S43 C43 q43
    obtain ⟨rfl, rfl⟩ := q43
    show Go p e below _ (T43.setTop (mkF m 27 #[.val (.ref x), .val (.ref b), .val (.int (0 : Int32)), .val (.int (0 : Int32)), .val (.int (0 : Int32))] []))
    refine s_aloadN S43 (hb hby dAA_27) rfl rfl (pc' := 28) rfl ?_
    refine s_aloadN S43 (hb hby dAA_28) rfl rfl (pc' := 29) rfl ?_
    refine s_iloadN S43 (hb hby dAA_29) rfl (pc' := 30) rfl ?_
    refine s_iload S43 (hb hby dAA_30) rfl (pc' := 32) rfl ?_
    show Go p e below _ (T43.setTop (mkF m 32 #[.val (.ref x), .val (.ref b), .val (.int (0 : Int32)), .val (.int (0 : Int32)), .val (.int (0 : Int32))] [(.int (0 : Int32)), (.int (0 : Int32)), (.ref b), (.ref x)]))
    refine g_private S43 (rmAP X na S43.old Ex Fv Fk Fs Vc) (fun _ q => nomatch q) (w70 hw) (ni_sel (w68 hw) rfl) (w72 hw) (w71 hw) (w19 hw) (w74 hw) (by decide) (hb hby dAA_32) (by rw [hml]; rfl) x Ex [(.ref b), (.int (0 : Int32)), (.int (0 : Int32))] (lenOf pd4 rfl) rfl rfl (Nat.le_of_ble_eq_true rfl) (Nat.le_of_ble_eq_true rfl) (Nat.le_of_ble_eq_true rfl) (Nat.le_of_ble_eq_true rfl) ?_
    intro v44 T44 V44 h44 S44 C44 q44
    obtain ⟨rfl, K1, E1, F1, F2, F3⟩ := q44
    show Go p e below _ (T44.setTop (mkF m 35 #[.val (.ref x), .val (.ref b), .val (.int (0 : Int32)), .val (.int (0 : Int32)), .val (.int (0 : Int32))] []))
    refine s_aloadN S44 (hb hby dAA_35) rfl rfl (pc' := 36) rfl ?_
    exact g_aret S44 (hb hby dAA_36) hret rfl rfl rfl ⟨rfl, K1, E1, F1, F2, F3⟩
theorem dSA_0 : decode jdk_67_method_12_code 0 = .ok (.aload_n 0, 1) := by decide +kernel
theorem dSA_1 : decode jdk_67_method_12_code 1 = .ok (.aload_n 1, 1) := by decide +kernel
theorem dSA_2 : decode jdk_67_method_12_code 2 = .ok (.iload_n 2, 1) := by decide +kernel
theorem dSA_3 : decode jdk_67_method_12_code 3 = .ok (.iload_n 3, 1) := by decide +kernel
theorem dSA_4 : decode jdk_67_method_12_code 4 = .ok (.invokespecial 44, 3) := by decide +kernel
theorem dSA_7 : decode jdk_67_method_12_code 7 = .ok (.pop, 1) := by decide +kernel
theorem dSA_8 : decode jdk_67_method_12_code 8 = .ok (.aload_n 0, 1) := by decide +kernel
theorem dSA_9 : decode jdk_67_method_12_code 9 = .ok (.areturn, 1) := by decide +kernel
set_option maxRecDepth 65536 in
set_option maxHeartbeats 40000000 in
theorem rmSA {l : Launch} {Z : State} {a0 : Array Value} {n0 : Nat} (X : Ctx Z a0) {x tb b : Addr} {kc : ClassId} {vs : List Value} {dv : Value} (na : n0 ≤ x) {kb : ClassId} {bs : List Value} {db : Value} {h : Heap} (hO : Old Z n0 h) (Ex : Exa Z h x "java/lang/StringBuilder") (Fv : Fld Z h x "java/lang/AbstractStringBuilder" "value" "[B" (.ref tb)) (Fk : Fld Z h x "java/lang/AbstractStringBuilder" "coder" "B" (.int (0 : Int32))) (Fs : Fld Z h x "java/lang/AbstractStringBuilder" "count" "I" (.int (0 : Int32))) (Vc : Arv Z h b kc .char (0 : Int32) vs dv) (Vb : Arv Z h tb kb .byte (16 : Int32) bs db) :
    Ctr l Z EL1 n0 (⟨"java/lang/StringBuilder", "append", "([CII)Ljava/lang/StringBuilder;"⟩ : MethodName) jdk_67_method_12_code 4 (some (.object "java/lang/StringBuilder")) ({ frames := 3, cells := 0, slots := 0, locals := 48 } : Room) #[(.ref x), (.ref b), (.int (0 : Int32)), (.int (0 : Int32))] h [] (fun v h' => v = some (.ref x) ∧ Keep h h' [x] ∧ Exa Z h' x "java/lang/StringBuilder" ∧ Fld Z h' x "java/lang/AbstractStringBuilder" "value" "[B" (.ref tb) ∧ Fld Z h' x "java/lang/AbstractStringBuilder" "coder" "B" (.int (0 : Int32)) ∧ Fld Z h' x "java/lang/AbstractStringBuilder" "count" "I" (.int (0 : Int32))) := by
  have hw := X.hw
  obtain ⟨z1, hz1, hz2⟩ := X.2.2.1
  refine Ctr.intro (a0 := a0) (plainFor_of_name pn1) hO X.ew ?_
  intro p e s m below meth c T0 V0 S0 hby hml hret hnm hsf
  rw [ef8]
  refine s_aloadN S0 (hb hby dSA_0) rfl rfl (pc' := 1) rfl ?_
  refine s_aloadN S0 (hb hby dSA_1) rfl rfl (pc' := 2) rfl ?_
  refine s_iloadN S0 (hb hby dSA_2) rfl (pc' := 3) rfl ?_
  refine s_iloadN S0 (hb hby dSA_3) rfl (pc' := 4) rfl ?_
  show Go p e below _ (T0.setTop (mkF m 4 #[.val (.ref x), .val (.ref b), .val (.int (0 : Int32)), .val (.int (0 : Int32))] [(.int (0 : Int32)), (.int (0 : Int32)), (.ref b), (.ref x)]))
  refine g_super S0 (rmAA X na S0.old Ex Fv Fk Fs Vc Vb) (fun _ q => nomatch q) (by decide) (w52 hw) (ni_sel (w68 hw) rfl) (w53 hw) (w54 hw) (w19 hw) (w56 hw) (by decide) (hb hby dSA_4) (by rw [hml]; rfl) x Ex [(.ref b), (.int (0 : Int32)), (.int (0 : Int32))] (lenOf pd5 rfl) rfl rfl (Nat.le_of_ble_eq_true rfl) (Nat.le_of_ble_eq_true rfl) (Nat.le_of_ble_eq_true rfl) (Nat.le_of_ble_eq_true rfl) ?_
  intro v45 T45 V45 h45 S45 C45 q45
  obtain ⟨rfl, K1, E1, F1, F2, F3⟩ := q45
  show Go p e below _ (T45.setTop (mkF m 7 #[.val (.ref x), .val (.ref b), .val (.int (0 : Int32)), .val (.int (0 : Int32))] [(.ref x)]))
  refine s_pop S45 (hb hby dSA_7) rfl (pc' := 8) rfl ?_
  refine s_aloadN S45 (hb hby dSA_8) rfl rfl (pc' := 9) rfl ?_
  exact g_aret S45 (hb hby dSA_9) hret rfl rfl rfl ⟨rfl, K1, E1, F1, F2, F3⟩
theorem dIN_0 : decode prog_3_method_1_code 0 = .ok (.aload_n 0, 1) := by decide +kernel
theorem dIN_1 : decode prog_3_method_1_code 1 = .ok (.invokespecial 1, 3) := by decide +kernel
theorem dIN_4 : decode prog_3_method_1_code 4 = .ok (.aload_n 0, 1) := by decide +kernel
theorem dIN_5 : decode prog_3_method_1_code 5 = .ok (.new 7, 3) := by decide +kernel
theorem dIN_8 : decode prog_3_method_1_code 8 = .ok (.dup, 1) := by decide +kernel
theorem dIN_9 : decode prog_3_method_1_code 9 = .ok (.invokespecial 9, 3) := by decide +kernel
theorem dIN_12 : decode prog_3_method_1_code 12 = .ok (.putfield 10, 3) := by decide +kernel
theorem dIN_15 : decode prog_3_method_1_code 15 = .ok (.aload_n 0, 1) := by decide +kernel
theorem dIN_16 : decode prog_3_method_1_code 16 = .ok (.iconst 0, 1) := by decide +kernel
theorem dIN_17 : decode prog_3_method_1_code 17 = .ok (.newarray .int, 2) := by decide +kernel
theorem dIN_19 : decode prog_3_method_1_code 19 = .ok (.putfield 16, 3) := by decide +kernel
theorem dIN_22 : decode prog_3_method_1_code 22 = .ok (.return_, 1) := by decide +kernel
set_option maxRecDepth 65536 in
set_option maxHeartbeats 40000000 in
theorem rmIN {l : Launch} {Z : State} {a0 : Array Value} {n0 : Nat} (X : Ctx Z a0) {x : Addr} (na : n0 ≤ x) {h : Heap} (hO : Old Z n0 h) (Ex : Exa Z h x "com/example/nodewarden/nodewarden/core/Asides") (Ft : Fld Z h x "com/example/nodewarden/nodewarden/core/Asides" "text" "Ljava/lang/StringBuilder;" .null) (Fb : Fld Z h x "com/example/nodewarden/nodewarden/core/Asides" "table" "[I" .null) (Fn : Fld Z h x "com/example/nodewarden/nodewarden/core/Asides" "count" "I" (.int (0 : Int32))) :
    CtrV l Z EL1 n0 (⟨"com/example/nodewarden/nodewarden/core/Asides", "<init>", "()V"⟩ : MethodName) prog_3_method_1_code 1 none ({ frames := 3, cells := 3, slots := 20, locals := 39 } : Room) #[(.ref x)] h [] (fun v h' vm => v = none ∧ ∃ sb tb t kb kt, Keep h h' [x] ∧ AS Z h' n0 x sb tb t kb kt (0 : Int32) (0 : Int32) [] (16 : Int32) (0 : Int32) (List.replicate 16 (.int (0 : Int32))) ∧ Safe Z EL1 vm h' tb ∧ Exa Z h' t "[I") := by
  have hw := X.hw
  obtain ⟨z1, hz1, hz2⟩ := X.2.2.1
  refine CtrV.intro (a0 := a0) (plainFor_of_name pn3) hO X.ew ?_
  intro p e s m below meth c T0 V0 S0 hby hml hret hnm hsf
  rw [ef2]
  refine s_aloadN S0 (hb hby dIN_0) rfl rfl (pc' := 1) rfl ?_
  refine g_initO S0 (w6 hw) (w7 hw) (w8 hw) (by rw [hml]; rfl) (hb hby dIN_1) (Nat.le_of_ble_eq_true rfl) (Nat.le_of_ble_eq_true rfl) ?_
  intro T46 ST46
  show Go p e below _ (T46.setTop (mkF m 4 #[.val (.ref x)] []))
  refine s_aloadN ST46 (hb hby dIN_4) rfl rfl (pc' := 5) rfl ?_
  refine g_new ST46 (w9 hw) (w10 hw) (w11 hw) (hb hby dIN_5) (Nat.le_of_ble_eq_true rfl) (Nat.le_of_ble_eq_true rfl) ?_
  intro T47 h47 b47 S47 E47 fr47 lt47 na47 sf47 A47 D47
  have F48 : Fld Z h47 b47 "java/lang/AbstractStringBuilder" "value" "[B" .null := D47 (Or.inl (w26 hw)) (ty := (.array .byte)) (by decide)
  have F49 : Fld Z h47 b47 "java/lang/AbstractStringBuilder" "coder" "B" (.int (0 : Int32)) := D47 (Or.inl (w28 hw)) (ty := .byte) (by decide)
  have F50 : Fld Z h47 b47 "java/lang/AbstractStringBuilder" "count" "I" (.int (0 : Int32)) := D47 (Or.inl (w64 hw)) (ty := .int) (by decide)
  show Go p e below _ (T47.setTop (mkF m 8 #[.val (.ref x)] [(.ref b47), (.ref x)]))
  refine s_dup S47 (hb hby dIN_8) rfl (pc' := 9) rfl ?_
  show Go p e below _ (T47.setTop (mkF m 9 #[.val (.ref x)] [(.ref b47), (.ref b47), (.ref x)]))
  refine g_special S47 (rmSI X na47 S47.old A47 F48 F49 F50) (fun _ q => nomatch q) rfl (w12 hw) (w13 hw) (w11 hw) (w14 hw) (by decide) (hb hby dIN_9) (by rw [hml]; rfl) b47 [] (lenOf pd6 rfl) rfl rfl (Nat.le_of_ble_eq_true rfl) (Nat.le_of_ble_eq_true rfl) (Nat.le_of_ble_eq_true rfl) (Nat.le_of_ble_eq_true rfl) ?_
  intro v51 T51 V51 h51 S51 C51 q51
  obtain ⟨rfl, tb, kb, K1, ntb, frb, F1, sf1_⟩ := q51
  have nxs : x ≠ b47 := (Nat.ne_of_lt (Nat.lt_of_lt_of_le (Nat.lt_of_lt_of_le Ex.lt (Nat.le_refl _)) fr47))
  have X52 : Ext h h51 := ext_keep1 E47 K1 fr47
  have Ex53 := Ex.ext X52
  have nxb : x ≠ tb := Exa.neArv Ex53 F1.2.2.2.2 (w1 hw)
  show Go p e below _ (T51.setTop (mkF m 12 #[.val (.ref x)] [(.ref b47), (.ref x)]))
  show Go p e below _ (T51.setTop (mkF m 12 #[.val (.ref x)] [(.ref b47), (.ref x)]))
  have Ft55 := Ft.ext X52
  have Fb56 := Fb.ext X52
  have Fn57 := Fn.ext X52
  refine g_putF S51 (w29 hw) Via.refl Ft55 Ex53 (Or.inr ⟨(w30 hw), rfl, hnm⟩) (w1 hw) (ty := (.object "java/lang/StringBuilder")) (v' := (.ref b47)) (by decide) rfl rfl na (Safe.exa S51.warm.alike Ex53 (by decide) (by decide)) (hb hby dIN_12) ?_
  intro T54 h54 S54 K54 W54 A54 F54 sg54
  have sf58 := Safe.keep K54 (sfS (Safe.exa S51.warm.alike Ex53 (by decide) (by decide)) sf0) S51.chv sf1_
  have F59 := Fb56.other W54 (Or.inr (slot_ne (Or.inl (w33 hw)) (Or.inr (w30 hw)) (by decide) (t := (.array .int)) (t' := (.object "java/lang/StringBuilder")) (by decide) (by decide)))
  have F60 := Fn57.other W54 (Or.inr (slot_ne (Or.inl (w41 hw)) (Or.inr (w30 hw)) (by decide) (t := .int) (t' := (.object "java/lang/StringBuilder")) (by decide) (by decide)))
  show Go p e below _ (T54.setTop (mkF m 15 #[.val (.ref x)] []))
  refine s_aloadN S54 (hb hby dIN_15) rfl rfl (pc' := 16) rfl ?_
  refine s_iconst S54 (hb hby dIN_16) (v := (0 : Int32)) rfl (pc' := 17) rfl ?_
  refine g_newarrE (aty := .int) S54 (w31 hw) (hb hby dIN_17) (by decide) (cap := 0) (by decide) (by decide) (Nat.le_of_ble_eq_true rfl) (Nat.le_of_ble_eq_true rfl) rfl ?_
  intro T61 h61 b61 kc61 S61 E61 fr61 lt61 na61 sf61 A61 EA61
  have sf62 := Safe.ext E61 S54.chv sf58
  have V61 : Arv Z h61 b61 kc61 .int (0 : Int32) [] (.int (0 : Int32)) := A61 0
  show Go p e below _ (T61.setTop (mkF m 19 #[.val (.ref x)] [(.ref b61), (.ref x)]))
  show Go p e below _ (T61.setTop (mkF m 19 #[.val (.ref x)] [(.ref b61), (.ref x)]))
  have F64 := F59.ext E61
  have A65 := A54.ext E61
  have F66 := F54.ext E61
  have F67 := F60.ext E61
  refine g_putF S61 (w32 hw) Via.refl F64 A65 (Or.inl (w33 hw)) (w1 hw) (ty := (.array .int)) (v' := (.ref b61)) (by decide) rfl rfl na (Safe.exa S61.warm.alike A65 (by decide) (by decide)) (hb hby dIN_19) ?_
  intro T63 h63 S63 K63 W63 A63 F63 sg63
  have sf68 := Safe.keep K63 (sfS (Safe.exa S61.warm.alike A65 (by decide) (by decide)) sf0) S61.chv sf62
  have F69 := F66.other W63 (Or.inr (slot_ne (Or.inr (w30 hw)) (Or.inl (w33 hw)) (by decide) (t := (.object "java/lang/StringBuilder")) (t' := (.array .int)) (by decide) (by decide)))
  have F70 := F67.other W63 (Or.inr (slot_ne (Or.inl (w41 hw)) (Or.inl (w33 hw)) (by decide) (t := .int) (t' := (.array .int)) (by decide) (by decide)))
  show Go p e below _ (T63.setTop (mkF m 22 #[.val (.ref x)] []))
  show Go p e below _ (T63.setTop (mkF m 22 #[.val (.ref x)] []))
  have KA71 := ((Keep.refl h [x]).ext E47)
  have KA72 : Keep h h63 [x] := ((((KA71.trans K1 (allS (Or.inr fr47) all0)).trans K54 (fun y hy => Or.inl hy)).ext E61).trans K63 (fun y hy => Or.inl hy))
  have F73 := V61.keep K63 (ninS (Ne.symm (Nat.ne_of_lt (Nat.lt_of_lt_of_le (Nat.lt_of_lt_of_le Ex.lt (Nat.le_trans (Nat.le_trans (Nat.le_trans (Nat.le_refl _) E47.1) K1.1) K54.1)) fr61))) nin0)
  have F74 := F1.1.keep K54
  have F75 := F74.ext E61
  have F76 := F75.keep K63
  have F77 := F1.2.1.keep K54 (ninS (Ne.symm nxs) nin0)
  have F78 := F77.ext E61
  have F79 := F78.keep K63 (ninS (Ne.symm nxs) nin0)
  have F80 := F1.2.2.1.keep K54 (ninS (Ne.symm nxs) nin0)
  have F81 := F80.ext E61
  have F82 := F81.keep K63 (ninS (Ne.symm nxs) nin0)
  have F83 := F1.2.2.2.1.keep K54 (ninS (Ne.symm nxs) nin0)
  have F84 := F83.ext E61
  have F85 := F84.keep K63 (ninS (Ne.symm nxs) nin0)
  have F86 := F1.2.2.2.2.keep K54 (ninS (Ne.symm nxb) nin0)
  have F87 := F86.ext E61
  have F88 := F87.keep K63 (ninS (Ne.symm nxb) nin0)
  have F89 := EA61.keep K63
  exact g_retV S63 (hb hby dIN_22) hret (fun sfx => ⟨rfl, b47, tb, b61, kb, _, KA72, ⟨A63, F69, F63, F70, F73, ⟨F76, F79, F82, F85, F88⟩, na, na47, ntb, na61⟩, sfx _ F88.lt sf68, F89⟩)
theorem dCI_0 : decode jdk_65_method_123_code 0 = .ok (.iload_n 1, 1) := by decide +kernel
theorem dCI_1 : decode jdk_65_method_123_code 1 = .ok (.aload_n 0, 1) := by decide +kernel
theorem dCI_2 : decode jdk_65_method_123_code 2 = .ok (.arraylength, 1) := by decide +kernel
theorem dCI_3 : decode jdk_65_method_123_code 3 = .ok (.if_icmp .ne 11, 3) := by decide +kernel
theorem dCI_14 : decode jdk_65_method_123_code 14 = .ok (.iload_n 1, 1) := by decide +kernel
theorem dCI_15 : decode jdk_65_method_123_code 15 = .ok (.newarray .int, 2) := by decide +kernel
theorem dCI_17 : decode jdk_65_method_123_code 17 = .ok (.astore_n 2, 1) := by decide +kernel
theorem dCI_18 : decode jdk_65_method_123_code 18 = .ok (.aload_n 0, 1) := by decide +kernel
theorem dCI_19 : decode jdk_65_method_123_code 19 = .ok (.iconst 0, 1) := by decide +kernel
theorem dCI_20 : decode jdk_65_method_123_code 20 = .ok (.aload_n 2, 1) := by decide +kernel
theorem dCI_21 : decode jdk_65_method_123_code 21 = .ok (.iconst 0, 1) := by decide +kernel
theorem dCI_22 : decode jdk_65_method_123_code 22 = .ok (.aload_n 0, 1) := by decide +kernel
theorem dCI_23 : decode jdk_65_method_123_code 23 = .ok (.arraylength, 1) := by decide +kernel
theorem dCI_24 : decode jdk_65_method_123_code 24 = .ok (.iload_n 1, 1) := by decide +kernel
theorem dCI_25 : decode jdk_65_method_123_code 25 = .ok (.invokestatic 304, 3) := by decide +kernel
theorem dCI_28 : decode jdk_65_method_123_code 28 = .ok (.invokestatic 150, 3) := by decide +kernel
theorem dCI_31 : decode jdk_65_method_123_code 31 = .ok (.aload_n 2, 1) := by decide +kernel
theorem dCI_32 : decode jdk_65_method_123_code 32 = .ok (.areturn, 1) := by decide +kernel
set_option maxRecDepth 65536 in
set_option maxHeartbeats 40000000 in
theorem rmCI {l : Launch} {Z : State} {a0 : Array Value} {n0 : Nat} (X : Ctx Z a0) {t : Addr} {kt : ClassId} {vs : List Value} {h : Heap} (hO : Old Z n0 h) (Vt : Arv Z h t kt .int (0 : Int32) vs (.int (0 : Int32))) :
    Ctr l Z EL1 n0 (⟨"java/util/Arrays", "copyOf", "([II)[I"⟩ : MethodName) jdk_65_method_123_code 3 (some (.array .int)) ({ frames := 1, cells := 1, slots := 80, locals := 18 } : Room) #[(.ref t), (.int (80 : Int32))] h [] (fun v h' => ∃ u ku, v = some (.ref u) ∧ Ext h h' ∧ h.size ≤ u ∧ n0 ≤ u ∧ Arv Z h' u ku .int (80 : Int32) [(.int (0 : Int32)), (.int (0 : Int32)), (.int (0 : Int32)), (.int (0 : Int32)), (.int (0 : Int32)), (.int (0 : Int32)), (.int (0 : Int32)), (.int (0 : Int32)), (.int (0 : Int32)), (.int (0 : Int32)), (.int (0 : Int32)), (.int (0 : Int32)), (.int (0 : Int32)), (.int (0 : Int32)), (.int (0 : Int32))] (.int (0 : Int32))) := by
  have hw := X.hw
  obtain ⟨z1, hz1, hz2⟩ := X.2.2.1
  refine Ctr.intro (a0 := a0) (plainFor_of_name pn4) hO X.ew ?_
  intro p e s m below meth c T0 V0 S0 hby hml hret hnm hsf
  rw [ef5]
  refine s_iloadN S0 (hb hby dCI_0) rfl (pc' := 1) rfl ?_
  refine s_aloadN S0 (hb hby dCI_1) rfl rfl (pc' := 2) rfl ?_
  refine g_len S0 Vt (hb hby dCI_2) ?_
  show Go p e below _ (T0.setTop (mkF m 3 #[.val (.ref t), .val (.int (80 : Int32)), .unset] [(.int (0 : Int32)), (.int (80 : Int32))]))
  refine s_icmpY S0 (hb hby dCI_3) (by decide) (by decide) (pcT := 14) (by decide) ?_
  refine s_iloadN S0 (hb hby dCI_14) rfl (pc' := 15) rfl ?_
  refine g_newarr (aty := .int) S0 (w31 hw) (hb hby dCI_15) (by decide) (cap := 80) (by decide) (by decide) (Nat.le_of_ble_eq_true rfl) (Nat.le_of_ble_eq_true rfl) ?_
  intro T90 h90 b90 kc90 S90 E90 fr90 lt90 na90 sf90 A90
  have V90 : Arv Z h90 b90 kc90 .int (80 : Int32) [(.int (0 : Int32)), (.int (0 : Int32)), (.int (0 : Int32)), (.int (0 : Int32)), (.int (0 : Int32)), (.int (0 : Int32)), (.int (0 : Int32)), (.int (0 : Int32)), (.int (0 : Int32)), (.int (0 : Int32)), (.int (0 : Int32)), (.int (0 : Int32)), (.int (0 : Int32)), (.int (0 : Int32)), (.int (0 : Int32))] (.int (0 : Int32)) := A90 15
  show Go p e below _ (T90.setTop (mkF m 17 #[.val (.ref t), .val (.int (80 : Int32)), .unset] [(.ref b90)]))
  refine s_astoreN S90 (hb hby dCI_17) rfl (L' := #[.val (.ref t), .val (.int (80 : Int32)), .val (.ref b90)]) rfl (pc' := 18) rfl ?_
  refine s_aloadN S90 (hb hby dCI_18) rfl rfl (pc' := 19) rfl ?_
  refine s_iconst S90 (hb hby dCI_19) (v := (0 : Int32)) rfl (pc' := 20) rfl ?_
  refine s_aloadN S90 (hb hby dCI_20) rfl rfl (pc' := 21) rfl ?_
  refine s_iconst S90 (hb hby dCI_21) (v := (0 : Int32)) rfl (pc' := 22) rfl ?_
  refine s_aloadN S90 (hb hby dCI_22) rfl rfl (pc' := 23) rfl ?_
  have Vt91 := Vt.ext E90
  refine g_len S90 Vt91 (hb hby dCI_23) ?_
  show Go p e below _ (T90.setTop (mkF m 24 #[.val (.ref t), .val (.int (80 : Int32)), .val (.ref b90)] [(.int (0 : Int32)), (.int (0 : Int32)), (.ref b90), (.int (0 : Int32)), (.ref t)]))
  refine s_iloadN S90 (hb hby dCI_24) rfl (pc' := 25) rfl ?_
  show Go p e below _ (T90.setTop (mkF m 25 #[.val (.ref t), .val (.int (80 : Int32)), .val (.ref b90)] [(.int (80 : Int32)), (.int (0 : Int32)), (.int (0 : Int32)), (.ref b90), (.int (0 : Int32)), (.ref t)]))
  refine g_static S90 (rmMN X (z := (0 : Int32)) (by decide) S90.old) (fun _ q => nomatch q) (w92 hw) (w93 hw) (w86 hw) (w94 hw) (by decide) (hb hby dCI_25) (by rw [hml]; rfl) [(.int (0 : Int32)), (.int (80 : Int32))] (lenOf pd7 rfl) rfl rfl (Nat.le_of_ble_eq_true rfl) (Nat.le_of_ble_eq_true rfl) (Nat.le_of_ble_eq_true rfl) (Nat.le_of_ble_eq_true rfl) ?_
  intro v92 T92 V92 h92 S92 C92 q92
  obtain ⟨rfl, rfl⟩ := q92
  show Go p e below _ (T92.setTop (mkF m 28 #[.val (.ref t), .val (.int (80 : Int32)), .val (.ref b90)] [(.int (0 : Int32)), (.int (0 : Int32)), (.ref b90), (.int (0 : Int32)), (.ref t)]))
  show Go p e below _ (T92.setTop (mkF m 28 #[.val (.ref t), .val (.int (80 : Int32)), .val (.ref b90)] [(.int (0 : Int32)), (.int (0 : Int32)), (.ref b90), (.int (0 : Int32)), (.ref t)]))
  refine g_copy S92 (w95 hw) (w98 hw) (w96 hw) (w97 hw) Vt91 V90 rfl (by decide) (by decide) (by decide) (by decide) (by decide) (us := []) rfl (Nat.le_of_ble_eq_true rfl) na90 (Safe.arv S92.warm.alike V90 (by decide)) (hb hby dCI_28) (by rw [hml]; rfl) (Nat.le_of_ble_eq_true rfl) (by decide) ?_
  intro T93 h93 S93 K93 V93 sg93
  have V93 : Arv Z h93 b90 kc90 .int (80 : Int32) [(.int (0 : Int32)), (.int (0 : Int32)), (.int (0 : Int32)), (.int (0 : Int32)), (.int (0 : Int32)), (.int (0 : Int32)), (.int (0 : Int32)), (.int (0 : Int32)), (.int (0 : Int32)), (.int (0 : Int32)), (.int (0 : Int32)), (.int (0 : Int32)), (.int (0 : Int32)), (.int (0 : Int32)), (.int (0 : Int32))] (.int (0 : Int32)) := V93
  show Go p e below _ (T93.setTop (mkF m 31 #[.val (.ref t), .val (.int (80 : Int32)), .val (.ref b90)] []))
  refine s_aloadN S93 (hb hby dCI_31) rfl rfl (pc' := 32) rfl ?_
  show Go p e below _ (T93.setTop (mkF m 32 #[.val (.ref t), .val (.int (80 : Int32)), .val (.ref b90)] [(.ref b90)]))
  have X94 : Ext h h93 := ext_keep1 E90 K93 fr90
  exact g_aret S93 (hb hby dCI_32) hret rfl rfl rfl ⟨b90, _, rfl, X94, fr90, na90, V93⟩
theorem dAD0_0 : decode prog_3_method_13_code 0 = .ok (.aload_n 0, 1) := by decide +kernel
theorem dAD0_1 : decode prog_3_method_13_code 1 = .ok (.getfield 16, 3) := by decide +kernel
theorem dAD0_4 : decode prog_3_method_13_code 4 = .ok (.arraylength, 1) := by decide +kernel
theorem dAD0_5 : decode prog_3_method_13_code 5 = .ok (.aload_n 0, 1) := by decide +kernel
theorem dAD0_6 : decode prog_3_method_13_code 6 = .ok (.getfield 38, 3) := by decide +kernel
theorem dAD0_9 : decode prog_3_method_13_code 9 = .ok (.iconst 1, 1) := by decide +kernel
theorem dAD0_10 : decode prog_3_method_13_code 10 = .ok (.iadd, 1) := by decide +kernel
theorem dAD0_11 : decode prog_3_method_13_code 11 = .ok (.iconst 5, 1) := by decide +kernel
theorem dAD0_12 : decode prog_3_method_13_code 12 = .ok (.imul, 1) := by decide +kernel
theorem dAD0_13 : decode prog_3_method_13_code 13 = .ok (.if_icmp .ge 26, 3) := by decide +kernel
theorem dAD0_16 : decode prog_3_method_13_code 16 = .ok (.aload_n 0, 1) := by decide +kernel
theorem dAD0_17 : decode prog_3_method_13_code 17 = .ok (.aload_n 0, 1) := by decide +kernel
theorem dAD0_18 : decode prog_3_method_13_code 18 = .ok (.getfield 16, 3) := by decide +kernel
theorem dAD0_21 : decode prog_3_method_13_code 21 = .ok (.bipush 80, 2) := by decide +kernel
theorem dAD0_23 : decode prog_3_method_13_code 23 = .ok (.iconst 2, 1) := by decide +kernel
theorem dAD0_24 : decode prog_3_method_13_code 24 = .ok (.aload_n 0, 1) := by decide +kernel
theorem dAD0_25 : decode prog_3_method_13_code 25 = .ok (.getfield 16, 3) := by decide +kernel
theorem dAD0_28 : decode prog_3_method_13_code 28 = .ok (.arraylength, 1) := by decide +kernel
theorem dAD0_29 : decode prog_3_method_13_code 29 = .ok (.imul, 1) := by decide +kernel
theorem dAD0_30 : decode prog_3_method_13_code 30 = .ok (.invokestatic 56, 3) := by decide +kernel
theorem dAD0_33 : decode prog_3_method_13_code 33 = .ok (.invokestatic 42, 3) := by decide +kernel
theorem dAD0_36 : decode prog_3_method_13_code 36 = .ok (.putfield 16, 3) := by decide +kernel
theorem dAD0_39 : decode prog_3_method_13_code 39 = .ok (.aload_n 0, 1) := by decide +kernel
theorem dAD0_40 : decode prog_3_method_13_code 40 = .ok (.getfield 38, 3) := by decide +kernel
theorem dAD0_43 : decode prog_3_method_13_code 43 = .ok (.iconst 5, 1) := by decide +kernel
theorem dAD0_44 : decode prog_3_method_13_code 44 = .ok (.imul, 1) := by decide +kernel
theorem dAD0_45 : decode prog_3_method_13_code 45 = .ok (.istore 5, 2) := by decide +kernel
theorem dAD0_47 : decode prog_3_method_13_code 47 = .ok (.aload_n 0, 1) := by decide +kernel
theorem dAD0_48 : decode prog_3_method_13_code 48 = .ok (.getfield 16, 3) := by decide +kernel
theorem dAD0_51 : decode prog_3_method_13_code 51 = .ok (.iload 5, 2) := by decide +kernel
theorem dAD0_53 : decode prog_3_method_13_code 53 = .ok (.iconst 0, 1) := by decide +kernel
theorem dAD0_54 : decode prog_3_method_13_code 54 = .ok (.iadd, 1) := by decide +kernel
theorem dAD0_55 : decode prog_3_method_13_code 55 = .ok (.iload_n 1, 1) := by decide +kernel
theorem dAD0_56 : decode prog_3_method_13_code 56 = .ok (.iastore, 1) := by decide +kernel
theorem dAD0_57 : decode prog_3_method_13_code 57 = .ok (.aload_n 0, 1) := by decide +kernel
theorem dAD0_58 : decode prog_3_method_13_code 58 = .ok (.getfield 16, 3) := by decide +kernel
theorem dAD0_61 : decode prog_3_method_13_code 61 = .ok (.iload 5, 2) := by decide +kernel
theorem dAD0_63 : decode prog_3_method_13_code 63 = .ok (.iconst 1, 1) := by decide +kernel
theorem dAD0_64 : decode prog_3_method_13_code 64 = .ok (.iadd, 1) := by decide +kernel
theorem dAD0_65 : decode prog_3_method_13_code 65 = .ok (.iload_n 2, 1) := by decide +kernel
theorem dAD0_66 : decode prog_3_method_13_code 66 = .ok (.iastore, 1) := by decide +kernel
theorem dAD0_67 : decode prog_3_method_13_code 67 = .ok (.aload_n 0, 1) := by decide +kernel
theorem dAD0_68 : decode prog_3_method_13_code 68 = .ok (.getfield 16, 3) := by decide +kernel
theorem dAD0_71 : decode prog_3_method_13_code 71 = .ok (.iload 5, 2) := by decide +kernel
theorem dAD0_73 : decode prog_3_method_13_code 73 = .ok (.iconst 2, 1) := by decide +kernel
theorem dAD0_74 : decode prog_3_method_13_code 74 = .ok (.iadd, 1) := by decide +kernel
theorem dAD0_75 : decode prog_3_method_13_code 75 = .ok (.iload_n 3, 1) := by decide +kernel
theorem dAD0_76 : decode prog_3_method_13_code 76 = .ok (.iastore, 1) := by decide +kernel
theorem dAD0_77 : decode prog_3_method_13_code 77 = .ok (.aload_n 0, 1) := by decide +kernel
theorem dAD0_78 : decode prog_3_method_13_code 78 = .ok (.getfield 16, 3) := by decide +kernel
theorem dAD0_81 : decode prog_3_method_13_code 81 = .ok (.iload 5, 2) := by decide +kernel
theorem dAD0_83 : decode prog_3_method_13_code 83 = .ok (.iconst 3, 1) := by decide +kernel
theorem dAD0_84 : decode prog_3_method_13_code 84 = .ok (.iadd, 1) := by decide +kernel
theorem dAD0_85 : decode prog_3_method_13_code 85 = .ok (.iload 4, 2) := by decide +kernel
theorem dAD0_87 : decode prog_3_method_13_code 87 = .ok (.iastore, 1) := by decide +kernel
theorem dAD0_88 : decode prog_3_method_13_code 88 = .ok (.aload_n 0, 1) := by decide +kernel
theorem dAD0_89 : decode prog_3_method_13_code 89 = .ok (.getfield 16, 3) := by decide +kernel
theorem dAD0_92 : decode prog_3_method_13_code 92 = .ok (.iload 5, 2) := by decide +kernel
theorem dAD0_94 : decode prog_3_method_13_code 94 = .ok (.iconst 4, 1) := by decide +kernel
theorem dAD0_95 : decode prog_3_method_13_code 95 = .ok (.iadd, 1) := by decide +kernel
theorem dAD0_96 : decode prog_3_method_13_code 96 = .ok (.aload_n 0, 1) := by decide +kernel
theorem dAD0_97 : decode prog_3_method_13_code 97 = .ok (.getfield 10, 3) := by decide +kernel
theorem dAD0_100 : decode prog_3_method_13_code 100 = .ok (.invokevirtual 31, 3) := by decide +kernel
theorem dAD0_103 : decode prog_3_method_13_code 103 = .ok (.iastore, 1) := by decide +kernel
theorem dAD0_104 : decode prog_3_method_13_code 104 = .ok (.aload_n 0, 1) := by decide +kernel
theorem dAD0_105 : decode prog_3_method_13_code 105 = .ok (.dup, 1) := by decide +kernel
theorem dAD0_106 : decode prog_3_method_13_code 106 = .ok (.getfield 38, 3) := by decide +kernel
theorem dAD0_109 : decode prog_3_method_13_code 109 = .ok (.iconst 1, 1) := by decide +kernel
theorem dAD0_110 : decode prog_3_method_13_code 110 = .ok (.iadd, 1) := by decide +kernel
theorem dAD0_111 : decode prog_3_method_13_code 111 = .ok (.putfield 38, 3) := by decide +kernel
theorem dAD0_114 : decode prog_3_method_13_code 114 = .ok (.return_, 1) := by decide +kernel
set_option maxRecDepth 65536 in
set_option maxHeartbeats 40000000 in
theorem rmAD0 {l : Launch} {Z : State} {a0 : Array Value} {n0 : Nat} (X : Ctx Z a0) {x sb tb t : Addr} {kb kt : ClassId} {bs : List Value} {sc : Int32} (pp qq oo dd : Int32) {h : Heap} (hO : Old Z n0 h) (A : AS Z h n0 x sb tb t kb kt (0 : Int32) (0 : Int32) [] (16 : Int32) sc bs) :
    Ctr l Z EL1 n0 (⟨"com/example/nodewarden/nodewarden/core/Asides", "add", "(IIII)V"⟩ : MethodName) prog_3_method_13_code 6 none ({ frames := 2, cells := 1, slots := 80, locals := 33 } : Room) #[(.ref x), (.int pp), (.int qq), (.int oo), (.int dd)] h [] (fun v h' => v = none ∧ ∃ u ku, Keep h h' [x] ∧ AS Z h' n0 x sb tb u kb ku (1 : Int32) (80 : Int32) [(.int pp), (.int qq), (.int oo), (.int dd), (.int sc), (.int (0 : Int32)), (.int (0 : Int32)), (.int (0 : Int32)), (.int (0 : Int32)), (.int (0 : Int32)), (.int (0 : Int32)), (.int (0 : Int32)), (.int (0 : Int32)), (.int (0 : Int32)), (.int (0 : Int32))] (16 : Int32) sc bs) := by
  have hw := X.hw
  obtain ⟨z1, hz1, hz2⟩ := X.2.2.1
  refine Ctr.intro (a0 := a0) (plainFor_of_name pn3) hO X.ew ?_
  intro p e s m below meth c T0 V0 S0 hby hml hret hnm hsf
  rw [ef9]
  obtain ⟨Ex, Ft, Fb, Fn, Vt, ⟨Es, Fv, Fk, Fs, Vb⟩, nx, ns, nb, nt⟩ := A
  have nXS : x ≠ sb := ne_exa Ex Es (by decide)
  have nXT : x ≠ t := Exa.neArv Ex Vt (w1 hw)
  have nXB : x ≠ tb := Exa.neArv Ex Vb (w1 hw)
  have nST : sb ≠ t := Exa.neArv Es Vt (w10 hw)
  have nSB : sb ≠ tb := Exa.neArv Es Vb (w10 hw)
  have nTB : t ≠ tb := arv_kne Vt Vb (by decide)
  show Go p e below _ (T0.setTop (mkF m 0 #[.val (.ref x), .val (.int pp), .val (.int qq), .val (.int oo), .val (.int dd), .unset] []))
  refine s_aloadN S0 (hb hby dAD0_0) rfl rfl (pc' := 1) rfl ?_
  refine g_getF S0 (w32 hw) Via.refl Fb (hb hby dAD0_1) ?_
  intro T95 ST95
  show Go p e below _ (T95.setTop (mkF m 4 #[.val (.ref x), .val (.int pp), .val (.int qq), .val (.int oo), .val (.int dd), .unset] [(.ref t)]))
  refine g_len ST95 Vt (hb hby dAD0_4) ?_
  show Go p e below _ (T95.setTop (mkF m 5 #[.val (.ref x), .val (.int pp), .val (.int qq), .val (.int oo), .val (.int dd), .unset] [(.int (0 : Int32))]))
  refine s_aloadN ST95 (hb hby dAD0_5) rfl rfl (pc' := 6) rfl ?_
  refine g_getF ST95 (w40 hw) Via.refl Fn (hb hby dAD0_6) ?_
  intro T96 ST96
  show Go p e below _ (T96.setTop (mkF m 9 #[.val (.ref x), .val (.int pp), .val (.int qq), .val (.int oo), .val (.int dd), .unset] [(.int (0 : Int32)), (.int (0 : Int32))]))
  refine s_iconst ST96 (hb hby dAD0_9) (v := (1 : Int32)) rfl (pc' := 10) rfl ?_
  refine s_iadd ST96 (hb hby dAD0_10) (z := (1 : Int32)) rfl (pc' := 11) rfl ?_
  refine s_iconst ST96 (hb hby dAD0_11) (v := (5 : Int32)) rfl (pc' := 12) rfl ?_
  refine s_imul ST96 (hb hby dAD0_12) (z := (5 : Int32)) rfl (pc' := 13) rfl ?_
  refine s_icmpN ST96 (hb hby dAD0_13) (by decide) (pc' := 16) rfl ?_
  refine s_aloadN ST96 (hb hby dAD0_16) rfl rfl (pc' := 17) rfl ?_
  refine s_aloadN ST96 (hb hby dAD0_17) rfl rfl (pc' := 18) rfl ?_
  refine g_getF ST96 (w32 hw) Via.refl Fb (hb hby dAD0_18) ?_
  intro T97 ST97
  show Go p e below _ (T97.setTop (mkF m 21 #[.val (.ref x), .val (.int pp), .val (.int qq), .val (.int oo), .val (.int dd), .unset] [(.ref t), (.ref x)]))
  refine s_bipush ST97 (hb hby dAD0_21) (v := (80 : Int32)) rfl (pc' := 23) rfl ?_
  refine s_iconst ST97 (hb hby dAD0_23) (v := (2 : Int32)) rfl (pc' := 24) rfl ?_
  refine s_aloadN ST97 (hb hby dAD0_24) rfl rfl (pc' := 25) rfl ?_
  refine g_getF ST97 (w32 hw) Via.refl Fb (hb hby dAD0_25) ?_
  intro T98 ST98
  show Go p e below _ (T98.setTop (mkF m 28 #[.val (.ref x), .val (.int pp), .val (.int qq), .val (.int oo), .val (.int dd), .unset] [(.ref t), (.int (2 : Int32)), (.int (80 : Int32)), (.ref t), (.ref x)]))
  refine g_len ST98 Vt (hb hby dAD0_28) ?_
  show Go p e below _ (T98.setTop (mkF m 29 #[.val (.ref x), .val (.int pp), .val (.int qq), .val (.int oo), .val (.int dd), .unset] [(.int (0 : Int32)), (.int (2 : Int32)), (.int (80 : Int32)), (.ref t), (.ref x)]))
  refine s_imul ST98 (hb hby dAD0_29) (z := (0 : Int32)) rfl (pc' := 30) rfl ?_
  show Go p e below _ (T98.setTop (mkF m 30 #[.val (.ref x), .val (.int pp), .val (.int qq), .val (.int oo), .val (.int dd), .unset] [(.int (0 : Int32)), (.int (80 : Int32)), (.ref t), (.ref x)]))
  refine g_static ST98 (rmMX X (z := (80 : Int32)) (by decide) ST98.old) (fun _ q => nomatch q) (w84 hw) (w85 hw) (w86 hw) (w87 hw) (by decide) (hb hby dAD0_30) (by rw [hml]; rfl) [(.int (80 : Int32)), (.int (0 : Int32))] (lenOf pd7 rfl) rfl rfl (Nat.le_of_ble_eq_true rfl) (Nat.le_of_ble_eq_true rfl) (Nat.le_of_ble_eq_true rfl) (Nat.le_of_ble_eq_true rfl) ?_
  intro v99 T99 V99 h99 S99 C99 q99
  obtain ⟨rfl, rfl⟩ := q99
  show Go p e below _ (T99.setTop (mkF m 33 #[.val (.ref x), .val (.int pp), .val (.int qq), .val (.int oo), .val (.int dd), .unset] [(.int (80 : Int32)), (.ref t), (.ref x)]))
  show Go p e below _ (T99.setTop (mkF m 33 #[.val (.ref x), .val (.int pp), .val (.int qq), .val (.int oo), .val (.int dd), .unset] [(.int (80 : Int32)), (.ref t), (.ref x)]))
  refine g_static S99 (rmCI X S99.old Vt) (fun _ q => nomatch q) (w88 hw) (w89 hw) (w90 hw) (w91 hw) (by decide) (hb hby dAD0_33) (by rw [hml]; rfl) [(.ref t), (.int (80 : Int32))] (lenOf pd8 rfl) rfl rfl (Nat.le_of_ble_eq_true rfl) (Nat.le_of_ble_eq_true rfl) (Nat.le_of_ble_eq_true rfl) (Nat.le_of_ble_eq_true rfl) ?_
  intro v100 T100 V100 h100 S100 C100 q100
  obtain ⟨u, ku, rfl, Eu, fru, nau, Vu⟩ := q100
  show Go p e below _ (T100.setTop (mkF m 36 #[.val (.ref x), .val (.int pp), .val (.int qq), .val (.int oo), .val (.int dd), .unset] [(.ref u), (.ref x)]))
  show Go p e below _ (T100.setTop (mkF m 36 #[.val (.ref x), .val (.int pp), .val (.int qq), .val (.int oo), .val (.int dd), .unset] [(.ref u), (.ref x)]))
  have Fb102 := Fb.ext Eu
  have Ex103 := Ex.ext Eu
  have Ft104 := Ft.ext Eu
  have Fn105 := Fn.ext Eu
  refine g_putF S100 (w32 hw) Via.refl Fb102 Ex103 (Or.inl (w33 hw)) (w1 hw) (ty := (.array .int)) (v' := (.ref u)) (by decide) rfl rfl nx (Safe.exa S100.warm.alike Ex103 (by decide) (by decide)) (hb hby dAD0_36) ?_
  intro T101 h101 S101 K101 W101 A101 F101 sg101
  have F106 := Ft104.other W101 (Or.inr (slot_ne (Or.inr (w30 hw)) (Or.inl (w33 hw)) (by decide) (t := (.object "java/lang/StringBuilder")) (t' := (.array .int)) (by decide) (by decide)))
  have F107 := Fn105.other W101 (Or.inr (slot_ne (Or.inl (w41 hw)) (Or.inl (w33 hw)) (by decide) (t := .int) (t' := (.array .int)) (by decide) (by decide)))
  show Go p e below _ (T101.setTop (mkF m 39 #[.val (.ref x), .val (.int pp), .val (.int qq), .val (.int oo), .val (.int dd), .unset] []))
  refine s_aloadN S101 (hb hby dAD0_39) rfl rfl (pc' := 40) rfl ?_
  refine g_getF S101 (w40 hw) Via.refl F107 (hb hby dAD0_40) ?_
  intro T108 ST108
  show Go p e below _ (T108.setTop (mkF m 43 #[.val (.ref x), .val (.int pp), .val (.int qq), .val (.int oo), .val (.int dd), .unset] [(.int (0 : Int32))]))
  refine s_iconst ST108 (hb hby dAD0_43) (v := (5 : Int32)) rfl (pc' := 44) rfl ?_
  refine s_imul ST108 (hb hby dAD0_44) (z := (0 : Int32)) rfl (pc' := 45) rfl ?_
  refine s_istore ST108 (hb hby dAD0_45) (L' := #[.val (.ref x), .val (.int pp), .val (.int qq), .val (.int oo), .val (.int dd), .val (.int (0 : Int32))]) rfl (pc' := 47) rfl ?_
  refine s_aloadN ST108 (hb hby dAD0_47) rfl rfl (pc' := 48) rfl ?_
  refine g_getF ST108 (w32 hw) Via.refl F101 (hb hby dAD0_48) ?_
  intro T109 ST109
  show Go p e below _ (T109.setTop (mkF m 51 #[.val (.ref x), .val (.int pp), .val (.int qq), .val (.int oo), .val (.int dd), .val (.int (0 : Int32))] [(.ref u)]))
  refine s_iload ST109 (hb hby dAD0_51) rfl (pc' := 53) rfl ?_
  refine s_iconst ST109 (hb hby dAD0_53) (v := (0 : Int32)) rfl (pc' := 54) rfl ?_
  refine s_iadd ST109 (hb hby dAD0_54) (z := (0 : Int32)) rfl (pc' := 55) rfl ?_
  refine s_iloadN ST109 (hb hby dAD0_55) rfl (pc' := 56) rfl ?_
  show Go p e below _ (T109.setTop (mkF m 56 #[.val (.ref x), .val (.int pp), .val (.int qq), .val (.int oo), .val (.int dd), .val (.int (0 : Int32))] [(.int pp), (.int (0 : Int32)), (.ref u)]))
  have F111 := Vu.keep K101 (ninS (Ne.symm (Nat.ne_of_lt (Nat.lt_of_lt_of_le (Nat.lt_of_lt_of_le Ex.lt (Nat.le_refl _)) fru))) nin0)
  refine g_iastore ST109 F111 ⟨by decide, by decide⟩ 0 rfl (Nat.le_of_ble_eq_true rfl) nau (hb hby dAD0_56) ?_
  intro T110 h110 S110 K110 V110 sg110
  have V110 : Arv Z h110 u ku .int (80 : Int32) [(.int pp), (.int (0 : Int32)), (.int (0 : Int32)), (.int (0 : Int32)), (.int (0 : Int32)), (.int (0 : Int32)), (.int (0 : Int32)), (.int (0 : Int32)), (.int (0 : Int32)), (.int (0 : Int32)), (.int (0 : Int32)), (.int (0 : Int32)), (.int (0 : Int32)), (.int (0 : Int32)), (.int (0 : Int32))] (.int (0 : Int32)) := V110
  show Go p e below _ (T110.setTop (mkF m 57 #[.val (.ref x), .val (.int pp), .val (.int qq), .val (.int oo), .val (.int dd), .val (.int (0 : Int32))] []))
  refine s_aloadN S110 (hb hby dAD0_57) rfl rfl (pc' := 58) rfl ?_
  have F112 := F101.keep K110 (ninS (Nat.ne_of_lt (Nat.lt_of_lt_of_le (Nat.lt_of_lt_of_le Ex.lt (Nat.le_refl _)) fru)) nin0)
  refine g_getF S110 (w32 hw) Via.refl F112 (hb hby dAD0_58) ?_
  intro T113 ST113
  show Go p e below _ (T113.setTop (mkF m 61 #[.val (.ref x), .val (.int pp), .val (.int qq), .val (.int oo), .val (.int dd), .val (.int (0 : Int32))] [(.ref u)]))
  refine s_iload ST113 (hb hby dAD0_61) rfl (pc' := 63) rfl ?_
  refine s_iconst ST113 (hb hby dAD0_63) (v := (1 : Int32)) rfl (pc' := 64) rfl ?_
  refine s_iadd ST113 (hb hby dAD0_64) (z := (1 : Int32)) rfl (pc' := 65) rfl ?_
  refine s_iloadN ST113 (hb hby dAD0_65) rfl (pc' := 66) rfl ?_
  show Go p e below _ (T113.setTop (mkF m 66 #[.val (.ref x), .val (.int pp), .val (.int qq), .val (.int oo), .val (.int dd), .val (.int (0 : Int32))] [(.int qq), (.int (1 : Int32)), (.ref u)]))
  refine g_iastore ST113 V110 ⟨by decide, by decide⟩ 1 rfl (Nat.le_of_ble_eq_true rfl) nau (hb hby dAD0_66) ?_
  intro T114 h114 S114 K114 V114 sg114
  have V114 : Arv Z h114 u ku .int (80 : Int32) [(.int pp), (.int qq), (.int (0 : Int32)), (.int (0 : Int32)), (.int (0 : Int32)), (.int (0 : Int32)), (.int (0 : Int32)), (.int (0 : Int32)), (.int (0 : Int32)), (.int (0 : Int32)), (.int (0 : Int32)), (.int (0 : Int32)), (.int (0 : Int32)), (.int (0 : Int32)), (.int (0 : Int32))] (.int (0 : Int32)) := V114
  show Go p e below _ (T114.setTop (mkF m 67 #[.val (.ref x), .val (.int pp), .val (.int qq), .val (.int oo), .val (.int dd), .val (.int (0 : Int32))] []))
  refine s_aloadN S114 (hb hby dAD0_67) rfl rfl (pc' := 68) rfl ?_
  have F115 := F112.keep K114 (ninS (Nat.ne_of_lt (Nat.lt_of_lt_of_le (Nat.lt_of_lt_of_le Ex.lt (Nat.le_refl _)) fru)) nin0)
  refine g_getF S114 (w32 hw) Via.refl F115 (hb hby dAD0_68) ?_
  intro T116 ST116
  show Go p e below _ (T116.setTop (mkF m 71 #[.val (.ref x), .val (.int pp), .val (.int qq), .val (.int oo), .val (.int dd), .val (.int (0 : Int32))] [(.ref u)]))
  refine s_iload ST116 (hb hby dAD0_71) rfl (pc' := 73) rfl ?_
  refine s_iconst ST116 (hb hby dAD0_73) (v := (2 : Int32)) rfl (pc' := 74) rfl ?_
  refine s_iadd ST116 (hb hby dAD0_74) (z := (2 : Int32)) rfl (pc' := 75) rfl ?_
  refine s_iloadN ST116 (hb hby dAD0_75) rfl (pc' := 76) rfl ?_
  show Go p e below _ (T116.setTop (mkF m 76 #[.val (.ref x), .val (.int pp), .val (.int qq), .val (.int oo), .val (.int dd), .val (.int (0 : Int32))] [(.int oo), (.int (2 : Int32)), (.ref u)]))
  refine g_iastore ST116 V114 ⟨by decide, by decide⟩ 2 rfl (Nat.le_of_ble_eq_true rfl) nau (hb hby dAD0_76) ?_
  intro T117 h117 S117 K117 V117 sg117
  have V117 : Arv Z h117 u ku .int (80 : Int32) [(.int pp), (.int qq), (.int oo), (.int (0 : Int32)), (.int (0 : Int32)), (.int (0 : Int32)), (.int (0 : Int32)), (.int (0 : Int32)), (.int (0 : Int32)), (.int (0 : Int32)), (.int (0 : Int32)), (.int (0 : Int32)), (.int (0 : Int32)), (.int (0 : Int32)), (.int (0 : Int32))] (.int (0 : Int32)) := V117
  show Go p e below _ (T117.setTop (mkF m 77 #[.val (.ref x), .val (.int pp), .val (.int qq), .val (.int oo), .val (.int dd), .val (.int (0 : Int32))] []))
  refine s_aloadN S117 (hb hby dAD0_77) rfl rfl (pc' := 78) rfl ?_
  have F118 := F115.keep K117 (ninS (Nat.ne_of_lt (Nat.lt_of_lt_of_le (Nat.lt_of_lt_of_le Ex.lt (Nat.le_refl _)) fru)) nin0)
  refine g_getF S117 (w32 hw) Via.refl F118 (hb hby dAD0_78) ?_
  intro T119 ST119
  show Go p e below _ (T119.setTop (mkF m 81 #[.val (.ref x), .val (.int pp), .val (.int qq), .val (.int oo), .val (.int dd), .val (.int (0 : Int32))] [(.ref u)]))
  refine s_iload ST119 (hb hby dAD0_81) rfl (pc' := 83) rfl ?_
  refine s_iconst ST119 (hb hby dAD0_83) (v := (3 : Int32)) rfl (pc' := 84) rfl ?_
  refine s_iadd ST119 (hb hby dAD0_84) (z := (3 : Int32)) rfl (pc' := 85) rfl ?_
  refine s_iload ST119 (hb hby dAD0_85) rfl (pc' := 87) rfl ?_
  show Go p e below _ (T119.setTop (mkF m 87 #[.val (.ref x), .val (.int pp), .val (.int qq), .val (.int oo), .val (.int dd), .val (.int (0 : Int32))] [(.int dd), (.int (3 : Int32)), (.ref u)]))
  refine g_iastore ST119 V117 ⟨by decide, by decide⟩ 3 rfl (Nat.le_of_ble_eq_true rfl) nau (hb hby dAD0_87) ?_
  intro T120 h120 S120 K120 V120 sg120
  have V120 : Arv Z h120 u ku .int (80 : Int32) [(.int pp), (.int qq), (.int oo), (.int dd), (.int (0 : Int32)), (.int (0 : Int32)), (.int (0 : Int32)), (.int (0 : Int32)), (.int (0 : Int32)), (.int (0 : Int32)), (.int (0 : Int32)), (.int (0 : Int32)), (.int (0 : Int32)), (.int (0 : Int32)), (.int (0 : Int32))] (.int (0 : Int32)) := V120
  show Go p e below _ (T120.setTop (mkF m 88 #[.val (.ref x), .val (.int pp), .val (.int qq), .val (.int oo), .val (.int dd), .val (.int (0 : Int32))] []))
  refine s_aloadN S120 (hb hby dAD0_88) rfl rfl (pc' := 89) rfl ?_
  have F121 := F118.keep K120 (ninS (Nat.ne_of_lt (Nat.lt_of_lt_of_le (Nat.lt_of_lt_of_le Ex.lt (Nat.le_refl _)) fru)) nin0)
  refine g_getF S120 (w32 hw) Via.refl F121 (hb hby dAD0_89) ?_
  intro T122 ST122
  show Go p e below _ (T122.setTop (mkF m 92 #[.val (.ref x), .val (.int pp), .val (.int qq), .val (.int oo), .val (.int dd), .val (.int (0 : Int32))] [(.ref u)]))
  refine s_iload ST122 (hb hby dAD0_92) rfl (pc' := 94) rfl ?_
  refine s_iconst ST122 (hb hby dAD0_94) (v := (4 : Int32)) rfl (pc' := 95) rfl ?_
  refine s_iadd ST122 (hb hby dAD0_95) (z := (4 : Int32)) rfl (pc' := 96) rfl ?_
  refine s_aloadN ST122 (hb hby dAD0_96) rfl rfl (pc' := 97) rfl ?_
  have F123 := F106.keep K110 (ninS (Nat.ne_of_lt (Nat.lt_of_lt_of_le (Nat.lt_of_lt_of_le Ex.lt (Nat.le_refl _)) fru)) nin0)
  have F124 := F123.keep K114 (ninS (Nat.ne_of_lt (Nat.lt_of_lt_of_le (Nat.lt_of_lt_of_le Ex.lt (Nat.le_refl _)) fru)) nin0)
  have F125 := F124.keep K117 (ninS (Nat.ne_of_lt (Nat.lt_of_lt_of_le (Nat.lt_of_lt_of_le Ex.lt (Nat.le_refl _)) fru)) nin0)
  have F126 := F125.keep K120 (ninS (Nat.ne_of_lt (Nat.lt_of_lt_of_le (Nat.lt_of_lt_of_le Ex.lt (Nat.le_refl _)) fru)) nin0)
  refine g_getF ST122 (w29 hw) Via.refl F126 (hb hby dAD0_97) ?_
  intro T127 ST127
  show Go p e below _ (T127.setTop (mkF m 100 #[.val (.ref x), .val (.int pp), .val (.int qq), .val (.int oo), .val (.int dd), .val (.int (0 : Int32))] [(.ref sb), (.int (4 : Int32)), (.ref u)]))
  have F128 := Es.ext Eu
  have F129 := F128.keep K101
  have F130 := F129.keep K110
  have F131 := F130.keep K114
  have F132 := F131.keep K117
  have F133 := F132.keep K120
  have F134 := Fv.ext Eu
  have F135 := F134.keep K101 (ninS (Ne.symm nXS) nin0)
  have F136 := F135.keep K110 (ninS (Nat.ne_of_lt (Nat.lt_of_lt_of_le (Nat.lt_of_lt_of_le Es.lt (Nat.le_refl _)) fru)) nin0)
  have F137 := F136.keep K114 (ninS (Nat.ne_of_lt (Nat.lt_of_lt_of_le (Nat.lt_of_lt_of_le Es.lt (Nat.le_refl _)) fru)) nin0)
  have F138 := F137.keep K117 (ninS (Nat.ne_of_lt (Nat.lt_of_lt_of_le (Nat.lt_of_lt_of_le Es.lt (Nat.le_refl _)) fru)) nin0)
  have F139 := F138.keep K120 (ninS (Nat.ne_of_lt (Nat.lt_of_lt_of_le (Nat.lt_of_lt_of_le Es.lt (Nat.le_refl _)) fru)) nin0)
  have F140 := Fk.ext Eu
  have F141 := F140.keep K101 (ninS (Ne.symm nXS) nin0)
  have F142 := F141.keep K110 (ninS (Nat.ne_of_lt (Nat.lt_of_lt_of_le (Nat.lt_of_lt_of_le Es.lt (Nat.le_refl _)) fru)) nin0)
  have F143 := F142.keep K114 (ninS (Nat.ne_of_lt (Nat.lt_of_lt_of_le (Nat.lt_of_lt_of_le Es.lt (Nat.le_refl _)) fru)) nin0)
  have F144 := F143.keep K117 (ninS (Nat.ne_of_lt (Nat.lt_of_lt_of_le (Nat.lt_of_lt_of_le Es.lt (Nat.le_refl _)) fru)) nin0)
  have F145 := F144.keep K120 (ninS (Nat.ne_of_lt (Nat.lt_of_lt_of_le (Nat.lt_of_lt_of_le Es.lt (Nat.le_refl _)) fru)) nin0)
  have F146 := Fs.ext Eu
  have F147 := F146.keep K101 (ninS (Ne.symm nXS) nin0)
  have F148 := F147.keep K110 (ninS (Nat.ne_of_lt (Nat.lt_of_lt_of_le (Nat.lt_of_lt_of_le Es.lt (Nat.le_refl _)) fru)) nin0)
  have F149 := F148.keep K114 (ninS (Nat.ne_of_lt (Nat.lt_of_lt_of_le (Nat.lt_of_lt_of_le Es.lt (Nat.le_refl _)) fru)) nin0)
  have F150 := F149.keep K117 (ninS (Nat.ne_of_lt (Nat.lt_of_lt_of_le (Nat.lt_of_lt_of_le Es.lt (Nat.le_refl _)) fru)) nin0)
  have F151 := F150.keep K120 (ninS (Nat.ne_of_lt (Nat.lt_of_lt_of_le (Nat.lt_of_lt_of_le Es.lt (Nat.le_refl _)) fru)) nin0)
  show Go p e below _ (T127.setTop (mkF m 100 #[.val (.ref x), .val (.int pp), .val (.int qq), .val (.int oo), .val (.int dd), .val (.int (0 : Int32))] [(.ref sb), (.int (4 : Int32)), (.ref u)]))
  refine g_virtual ST127 (rmSL X ST127.old F133 F139 F145 F151) (fun _ q => nomatch q) (w99 hw) (w100 hw) (w102 hw) (w101 hw) (w11 hw) (w103 hw) (by decide) (fun _ h => notFace_of_selects h) (hb hby dAD0_100) (by rw [hml]; rfl) sb F133 [] (lenOf pd1 rfl) rfl rfl (Nat.le_of_ble_eq_true rfl) (Nat.le_of_ble_eq_true rfl) (Nat.le_of_ble_eq_true rfl) (Nat.le_of_ble_eq_true rfl) ?_
  intro v152 T152 V152 h152 S152 C152 q152
  obtain ⟨rfl, rfl⟩ := q152
  show Go p e below _ (T152.setTop (mkF m 103 #[.val (.ref x), .val (.int pp), .val (.int qq), .val (.int oo), .val (.int dd), .val (.int (0 : Int32))] [(.int sc), (.int (4 : Int32)), (.ref u)]))
  show Go p e below _ (T152.setTop (mkF m 103 #[.val (.ref x), .val (.int pp), .val (.int qq), .val (.int oo), .val (.int dd), .val (.int (0 : Int32))] [(.int sc), (.int (4 : Int32)), (.ref u)]))
  refine g_iastore S152 V120 ⟨by decide, by decide⟩ 4 rfl (Nat.le_of_ble_eq_true rfl) nau (hb hby dAD0_103) ?_
  intro T153 h153 S153 K153 V153 sg153
  have V153 : Arv Z h153 u ku .int (80 : Int32) [(.int pp), (.int qq), (.int oo), (.int dd), (.int sc), (.int (0 : Int32)), (.int (0 : Int32)), (.int (0 : Int32)), (.int (0 : Int32)), (.int (0 : Int32)), (.int (0 : Int32)), (.int (0 : Int32)), (.int (0 : Int32)), (.int (0 : Int32)), (.int (0 : Int32))] (.int (0 : Int32)) := V153
  show Go p e below _ (T153.setTop (mkF m 104 #[.val (.ref x), .val (.int pp), .val (.int qq), .val (.int oo), .val (.int dd), .val (.int (0 : Int32))] []))
  refine s_aloadN S153 (hb hby dAD0_104) rfl rfl (pc' := 105) rfl ?_
  refine s_dup S153 (hb hby dAD0_105) rfl (pc' := 106) rfl ?_
  have F154 := F107.keep K110 (ninS (Nat.ne_of_lt (Nat.lt_of_lt_of_le (Nat.lt_of_lt_of_le Ex.lt (Nat.le_refl _)) fru)) nin0)
  have F155 := F154.keep K114 (ninS (Nat.ne_of_lt (Nat.lt_of_lt_of_le (Nat.lt_of_lt_of_le Ex.lt (Nat.le_refl _)) fru)) nin0)
  have F156 := F155.keep K117 (ninS (Nat.ne_of_lt (Nat.lt_of_lt_of_le (Nat.lt_of_lt_of_le Ex.lt (Nat.le_refl _)) fru)) nin0)
  have F157 := F156.keep K120 (ninS (Nat.ne_of_lt (Nat.lt_of_lt_of_le (Nat.lt_of_lt_of_le Ex.lt (Nat.le_refl _)) fru)) nin0)
  have F158 := F157.keep K153 (ninS (Nat.ne_of_lt (Nat.lt_of_lt_of_le (Nat.lt_of_lt_of_le Ex.lt (Nat.le_refl _)) fru)) nin0)
  refine g_getF S153 (w40 hw) Via.refl F158 (hb hby dAD0_106) ?_
  intro T159 ST159
  show Go p e below _ (T159.setTop (mkF m 109 #[.val (.ref x), .val (.int pp), .val (.int qq), .val (.int oo), .val (.int dd), .val (.int (0 : Int32))] [(.int (0 : Int32)), (.ref x)]))
  refine s_iconst ST159 (hb hby dAD0_109) (v := (1 : Int32)) rfl (pc' := 110) rfl ?_
  refine s_iadd ST159 (hb hby dAD0_110) (z := (1 : Int32)) rfl (pc' := 111) rfl ?_
  show Go p e below _ (T159.setTop (mkF m 111 #[.val (.ref x), .val (.int pp), .val (.int qq), .val (.int oo), .val (.int dd), .val (.int (0 : Int32))] [(.int (1 : Int32)), (.ref x)]))
  have F161 := A101.keep K110
  have F162 := F161.keep K114
  have F163 := F162.keep K117
  have F164 := F163.keep K120
  have F165 := F164.keep K153
  have F166 := F126.keep K153 (ninS (Nat.ne_of_lt (Nat.lt_of_lt_of_le (Nat.lt_of_lt_of_le Ex.lt (Nat.le_refl _)) fru)) nin0)
  have F167 := F121.keep K153 (ninS (Nat.ne_of_lt (Nat.lt_of_lt_of_le (Nat.lt_of_lt_of_le Ex.lt (Nat.le_refl _)) fru)) nin0)
  refine g_putF ST159 (w40 hw) Via.refl F158 F165 (Or.inl (w41 hw)) (w1 hw) (ty := .int) (v' := (.int (1 : Int32))) (by decide) rfl rfl nx (Safe.exa ST159.warm.alike F165 (by decide) (by decide)) (hb hby dAD0_111) ?_
  intro T160 h160 S160 K160 W160 A160 F160 sg160
  have F168 := F166.other W160 (Or.inr (slot_ne (Or.inr (w30 hw)) (Or.inl (w41 hw)) (by decide) (t := (.object "java/lang/StringBuilder")) (t' := .int) (by decide) (by decide)))
  have F169 := F167.other W160 (Or.inr (slot_ne (Or.inl (w33 hw)) (Or.inl (w41 hw)) (by decide) (t := (.array .int)) (t' := .int) (by decide) (by decide)))
  show Go p e below _ (T160.setTop (mkF m 114 #[.val (.ref x), .val (.int pp), .val (.int qq), .val (.int oo), .val (.int dd), .val (.int (0 : Int32))] []))
  show Go p e below _ (T160.setTop (mkF m 114 #[.val (.ref x), .val (.int pp), .val (.int qq), .val (.int oo), .val (.int dd), .val (.int (0 : Int32))] []))
  have KA170 := ((Keep.refl h99 [x]).ext Eu)
  have KA171 := (KA170.trans K101 (allS (Or.inl (by simp)) all0))
  have KA172 := (KA171.trans K110 (allS (Or.inr fru) all0))
  have KA173 := (KA172.trans K114 (allS (Or.inr fru) all0))
  have KA174 := (KA173.trans K117 (allS (Or.inr fru) all0))
  have KA175 := (KA174.trans K120 (allS (Or.inr fru) all0))
  have KA176 := (KA175.trans K153 (allS (Or.inr fru) all0))
  have KA177 : Keep h99 h160 [x] := (KA176.trans K160 (allS (Or.inl (by simp)) all0))
  have F178 := V153.keep K160 (ninS (Ne.symm (Nat.ne_of_lt (Nat.lt_of_lt_of_le (Nat.lt_of_lt_of_le Ex.lt (Nat.le_refl _)) fru))) nin0)
  have F179 := F133.keep K153
  have F180 := F179.keep K160
  have F181 := F139.keep K153 (ninS (Nat.ne_of_lt (Nat.lt_of_lt_of_le (Nat.lt_of_lt_of_le Es.lt (Nat.le_refl _)) fru)) nin0)
  have F182 := F181.keep K160 (ninS (Ne.symm nXS) nin0)
  have F183 := F145.keep K153 (ninS (Nat.ne_of_lt (Nat.lt_of_lt_of_le (Nat.lt_of_lt_of_le Es.lt (Nat.le_refl _)) fru)) nin0)
  have F184 := F183.keep K160 (ninS (Ne.symm nXS) nin0)
  have F185 := F151.keep K153 (ninS (Nat.ne_of_lt (Nat.lt_of_lt_of_le (Nat.lt_of_lt_of_le Es.lt (Nat.le_refl _)) fru)) nin0)
  have F186 := F185.keep K160 (ninS (Ne.symm nXS) nin0)
  have F187 := Vb.ext Eu
  have F188 := F187.keep K101 (ninS (Ne.symm nXB) nin0)
  have F189 := F188.keep K110 (ninS (Nat.ne_of_lt (Nat.lt_of_lt_of_le (Nat.lt_of_lt_of_le Vb.lt (Nat.le_refl _)) fru)) nin0)
  have F190 := F189.keep K114 (ninS (Nat.ne_of_lt (Nat.lt_of_lt_of_le (Nat.lt_of_lt_of_le Vb.lt (Nat.le_refl _)) fru)) nin0)
  have F191 := F190.keep K117 (ninS (Nat.ne_of_lt (Nat.lt_of_lt_of_le (Nat.lt_of_lt_of_le Vb.lt (Nat.le_refl _)) fru)) nin0)
  have F192 := F191.keep K120 (ninS (Nat.ne_of_lt (Nat.lt_of_lt_of_le (Nat.lt_of_lt_of_le Vb.lt (Nat.le_refl _)) fru)) nin0)
  have F193 := F192.keep K153 (ninS (Nat.ne_of_lt (Nat.lt_of_lt_of_le (Nat.lt_of_lt_of_le Vb.lt (Nat.le_refl _)) fru)) nin0)
  have F194 := F193.keep K160 (ninS (Ne.symm nXB) nin0)
  exact g_ret S160 (hb hby dAD0_114) hret ⟨rfl, u, ku, KA177, ⟨A160, F168, F169, F160, F178, ⟨F180, F182, F184, F186, F194⟩, nx, ns, nb, nau⟩⟩
theorem dAD1_0 : decode prog_3_method_13_code 0 = .ok (.aload_n 0, 1) := by decide +kernel
theorem dAD1_1 : decode prog_3_method_13_code 1 = .ok (.getfield 16, 3) := by decide +kernel
theorem dAD1_4 : decode prog_3_method_13_code 4 = .ok (.arraylength, 1) := by decide +kernel
theorem dAD1_5 : decode prog_3_method_13_code 5 = .ok (.aload_n 0, 1) := by decide +kernel
theorem dAD1_6 : decode prog_3_method_13_code 6 = .ok (.getfield 38, 3) := by decide +kernel
theorem dAD1_9 : decode prog_3_method_13_code 9 = .ok (.iconst 1, 1) := by decide +kernel
theorem dAD1_10 : decode prog_3_method_13_code 10 = .ok (.iadd, 1) := by decide +kernel
theorem dAD1_11 : decode prog_3_method_13_code 11 = .ok (.iconst 5, 1) := by decide +kernel
theorem dAD1_12 : decode prog_3_method_13_code 12 = .ok (.imul, 1) := by decide +kernel
theorem dAD1_13 : decode prog_3_method_13_code 13 = .ok (.if_icmp .ge 26, 3) := by decide +kernel
theorem dAD1_39 : decode prog_3_method_13_code 39 = .ok (.aload_n 0, 1) := by decide +kernel
theorem dAD1_40 : decode prog_3_method_13_code 40 = .ok (.getfield 38, 3) := by decide +kernel
theorem dAD1_43 : decode prog_3_method_13_code 43 = .ok (.iconst 5, 1) := by decide +kernel
theorem dAD1_44 : decode prog_3_method_13_code 44 = .ok (.imul, 1) := by decide +kernel
theorem dAD1_45 : decode prog_3_method_13_code 45 = .ok (.istore 5, 2) := by decide +kernel
theorem dAD1_47 : decode prog_3_method_13_code 47 = .ok (.aload_n 0, 1) := by decide +kernel
theorem dAD1_48 : decode prog_3_method_13_code 48 = .ok (.getfield 16, 3) := by decide +kernel
theorem dAD1_51 : decode prog_3_method_13_code 51 = .ok (.iload 5, 2) := by decide +kernel
theorem dAD1_53 : decode prog_3_method_13_code 53 = .ok (.iconst 0, 1) := by decide +kernel
theorem dAD1_54 : decode prog_3_method_13_code 54 = .ok (.iadd, 1) := by decide +kernel
theorem dAD1_55 : decode prog_3_method_13_code 55 = .ok (.iload_n 1, 1) := by decide +kernel
theorem dAD1_56 : decode prog_3_method_13_code 56 = .ok (.iastore, 1) := by decide +kernel
theorem dAD1_57 : decode prog_3_method_13_code 57 = .ok (.aload_n 0, 1) := by decide +kernel
theorem dAD1_58 : decode prog_3_method_13_code 58 = .ok (.getfield 16, 3) := by decide +kernel
theorem dAD1_61 : decode prog_3_method_13_code 61 = .ok (.iload 5, 2) := by decide +kernel
theorem dAD1_63 : decode prog_3_method_13_code 63 = .ok (.iconst 1, 1) := by decide +kernel
theorem dAD1_64 : decode prog_3_method_13_code 64 = .ok (.iadd, 1) := by decide +kernel
theorem dAD1_65 : decode prog_3_method_13_code 65 = .ok (.iload_n 2, 1) := by decide +kernel
theorem dAD1_66 : decode prog_3_method_13_code 66 = .ok (.iastore, 1) := by decide +kernel
theorem dAD1_67 : decode prog_3_method_13_code 67 = .ok (.aload_n 0, 1) := by decide +kernel
theorem dAD1_68 : decode prog_3_method_13_code 68 = .ok (.getfield 16, 3) := by decide +kernel
theorem dAD1_71 : decode prog_3_method_13_code 71 = .ok (.iload 5, 2) := by decide +kernel
theorem dAD1_73 : decode prog_3_method_13_code 73 = .ok (.iconst 2, 1) := by decide +kernel
theorem dAD1_74 : decode prog_3_method_13_code 74 = .ok (.iadd, 1) := by decide +kernel
theorem dAD1_75 : decode prog_3_method_13_code 75 = .ok (.iload_n 3, 1) := by decide +kernel
theorem dAD1_76 : decode prog_3_method_13_code 76 = .ok (.iastore, 1) := by decide +kernel
theorem dAD1_77 : decode prog_3_method_13_code 77 = .ok (.aload_n 0, 1) := by decide +kernel
theorem dAD1_78 : decode prog_3_method_13_code 78 = .ok (.getfield 16, 3) := by decide +kernel
theorem dAD1_81 : decode prog_3_method_13_code 81 = .ok (.iload 5, 2) := by decide +kernel
theorem dAD1_83 : decode prog_3_method_13_code 83 = .ok (.iconst 3, 1) := by decide +kernel
theorem dAD1_84 : decode prog_3_method_13_code 84 = .ok (.iadd, 1) := by decide +kernel
theorem dAD1_85 : decode prog_3_method_13_code 85 = .ok (.iload 4, 2) := by decide +kernel
theorem dAD1_87 : decode prog_3_method_13_code 87 = .ok (.iastore, 1) := by decide +kernel
theorem dAD1_88 : decode prog_3_method_13_code 88 = .ok (.aload_n 0, 1) := by decide +kernel
theorem dAD1_89 : decode prog_3_method_13_code 89 = .ok (.getfield 16, 3) := by decide +kernel
theorem dAD1_92 : decode prog_3_method_13_code 92 = .ok (.iload 5, 2) := by decide +kernel
theorem dAD1_94 : decode prog_3_method_13_code 94 = .ok (.iconst 4, 1) := by decide +kernel
theorem dAD1_95 : decode prog_3_method_13_code 95 = .ok (.iadd, 1) := by decide +kernel
theorem dAD1_96 : decode prog_3_method_13_code 96 = .ok (.aload_n 0, 1) := by decide +kernel
theorem dAD1_97 : decode prog_3_method_13_code 97 = .ok (.getfield 10, 3) := by decide +kernel
theorem dAD1_100 : decode prog_3_method_13_code 100 = .ok (.invokevirtual 31, 3) := by decide +kernel
theorem dAD1_103 : decode prog_3_method_13_code 103 = .ok (.iastore, 1) := by decide +kernel
theorem dAD1_104 : decode prog_3_method_13_code 104 = .ok (.aload_n 0, 1) := by decide +kernel
theorem dAD1_105 : decode prog_3_method_13_code 105 = .ok (.dup, 1) := by decide +kernel
theorem dAD1_106 : decode prog_3_method_13_code 106 = .ok (.getfield 38, 3) := by decide +kernel
theorem dAD1_109 : decode prog_3_method_13_code 109 = .ok (.iconst 1, 1) := by decide +kernel
theorem dAD1_110 : decode prog_3_method_13_code 110 = .ok (.iadd, 1) := by decide +kernel
theorem dAD1_111 : decode prog_3_method_13_code 111 = .ok (.putfield 38, 3) := by decide +kernel
theorem dAD1_114 : decode prog_3_method_13_code 114 = .ok (.return_, 1) := by decide +kernel
set_option maxRecDepth 65536 in
set_option maxHeartbeats 40000000 in
theorem rmAD1 {l : Launch} {Z : State} {a0 : Array Value} {n0 : Nat} (X : Ctx Z a0) {x sb tb t : Addr} {kb kt : ClassId} {bs : List Value} {sc r0 r1 r2 r3 r4 : Int32} (pp qq oo dd : Int32) {h : Heap} (hO : Old Z n0 h) (A : AS Z h n0 x sb tb t kb kt (1 : Int32) (80 : Int32) [(.int r0), (.int r1), (.int r2), (.int r3), (.int r4), (.int (0 : Int32)), (.int (0 : Int32)), (.int (0 : Int32)), (.int (0 : Int32)), (.int (0 : Int32)), (.int (0 : Int32)), (.int (0 : Int32)), (.int (0 : Int32)), (.int (0 : Int32)), (.int (0 : Int32))] (16 : Int32) sc bs) :
    Ctr l Z EL1 n0 (⟨"com/example/nodewarden/nodewarden/core/Asides", "add", "(IIII)V"⟩ : MethodName) prog_3_method_13_code 6 none ({ frames := 2, cells := 0, slots := 0, locals := 26 } : Room) #[(.ref x), (.int pp), (.int qq), (.int oo), (.int dd)] h [] (fun v h' => v = none ∧ Keep h h' [x, t] ∧ AS Z h' n0 x sb tb t kb kt (2 : Int32) (80 : Int32) [(.int r0), (.int r1), (.int r2), (.int r3), (.int r4), (.int pp), (.int qq), (.int oo), (.int dd), (.int sc), (.int (0 : Int32)), (.int (0 : Int32)), (.int (0 : Int32)), (.int (0 : Int32)), (.int (0 : Int32))] (16 : Int32) sc bs) := by
  have hw := X.hw
  obtain ⟨z1, hz1, hz2⟩ := X.2.2.1
  refine Ctr.intro (a0 := a0) (plainFor_of_name pn3) hO X.ew ?_
  intro p e s m below meth c T0 V0 S0 hby hml hret hnm hsf
  rw [ef9]
  obtain ⟨Ex, Ft, Fb, Fn, Vt, ⟨Es, Fv, Fk, Fs, Vb⟩, nx, ns, nb, nt⟩ := A
  have nXS : x ≠ sb := ne_exa Ex Es (by decide)
  have nXT : x ≠ t := Exa.neArv Ex Vt (w1 hw)
  have nXB : x ≠ tb := Exa.neArv Ex Vb (w1 hw)
  have nST : sb ≠ t := Exa.neArv Es Vt (w10 hw)
  have nSB : sb ≠ tb := Exa.neArv Es Vb (w10 hw)
  have nTB : t ≠ tb := arv_kne Vt Vb (by decide)
  show Go p e below _ (T0.setTop (mkF m 0 #[.val (.ref x), .val (.int pp), .val (.int qq), .val (.int oo), .val (.int dd), .unset] []))
  refine s_aloadN S0 (hb hby dAD1_0) rfl rfl (pc' := 1) rfl ?_
  refine g_getF S0 (w32 hw) Via.refl Fb (hb hby dAD1_1) ?_
  intro T195 ST195
  show Go p e below _ (T195.setTop (mkF m 4 #[.val (.ref x), .val (.int pp), .val (.int qq), .val (.int oo), .val (.int dd), .unset] [(.ref t)]))
  refine g_len ST195 Vt (hb hby dAD1_4) ?_
  show Go p e below _ (T195.setTop (mkF m 5 #[.val (.ref x), .val (.int pp), .val (.int qq), .val (.int oo), .val (.int dd), .unset] [(.int (80 : Int32))]))
  refine s_aloadN ST195 (hb hby dAD1_5) rfl rfl (pc' := 6) rfl ?_
  refine g_getF ST195 (w40 hw) Via.refl Fn (hb hby dAD1_6) ?_
  intro T196 ST196
  show Go p e below _ (T196.setTop (mkF m 9 #[.val (.ref x), .val (.int pp), .val (.int qq), .val (.int oo), .val (.int dd), .unset] [(.int (1 : Int32)), (.int (80 : Int32))]))
  refine s_iconst ST196 (hb hby dAD1_9) (v := (1 : Int32)) rfl (pc' := 10) rfl ?_
  refine s_iadd ST196 (hb hby dAD1_10) (z := (2 : Int32)) rfl (pc' := 11) rfl ?_
  refine s_iconst ST196 (hb hby dAD1_11) (v := (5 : Int32)) rfl (pc' := 12) rfl ?_
  refine s_imul ST196 (hb hby dAD1_12) (z := (10 : Int32)) rfl (pc' := 13) rfl ?_
  refine s_icmpY ST196 (hb hby dAD1_13) (by decide) (by decide) (pcT := 39) (by decide) ?_
  refine s_aloadN ST196 (hb hby dAD1_39) rfl rfl (pc' := 40) rfl ?_
  refine g_getF ST196 (w40 hw) Via.refl Fn (hb hby dAD1_40) ?_
  intro T197 ST197
  show Go p e below _ (T197.setTop (mkF m 43 #[.val (.ref x), .val (.int pp), .val (.int qq), .val (.int oo), .val (.int dd), .unset] [(.int (1 : Int32))]))
  refine s_iconst ST197 (hb hby dAD1_43) (v := (5 : Int32)) rfl (pc' := 44) rfl ?_
  refine s_imul ST197 (hb hby dAD1_44) (z := (5 : Int32)) rfl (pc' := 45) rfl ?_
  refine s_istore ST197 (hb hby dAD1_45) (L' := #[.val (.ref x), .val (.int pp), .val (.int qq), .val (.int oo), .val (.int dd), .val (.int (5 : Int32))]) rfl (pc' := 47) rfl ?_
  refine s_aloadN ST197 (hb hby dAD1_47) rfl rfl (pc' := 48) rfl ?_
  refine g_getF ST197 (w32 hw) Via.refl Fb (hb hby dAD1_48) ?_
  intro T198 ST198
  show Go p e below _ (T198.setTop (mkF m 51 #[.val (.ref x), .val (.int pp), .val (.int qq), .val (.int oo), .val (.int dd), .val (.int (5 : Int32))] [(.ref t)]))
  refine s_iload ST198 (hb hby dAD1_51) rfl (pc' := 53) rfl ?_
  refine s_iconst ST198 (hb hby dAD1_53) (v := (0 : Int32)) rfl (pc' := 54) rfl ?_
  refine s_iadd ST198 (hb hby dAD1_54) (z := (5 : Int32)) rfl (pc' := 55) rfl ?_
  refine s_iloadN ST198 (hb hby dAD1_55) rfl (pc' := 56) rfl ?_
  show Go p e below _ (T198.setTop (mkF m 56 #[.val (.ref x), .val (.int pp), .val (.int qq), .val (.int oo), .val (.int dd), .val (.int (5 : Int32))] [(.int pp), (.int (5 : Int32)), (.ref t)]))
  refine g_iastore ST198 Vt ⟨by decide, by decide⟩ 5 rfl (Nat.le_of_ble_eq_true rfl) nt (hb hby dAD1_56) ?_
  intro T199 h199 S199 K199 V199 sg199
  have V199 : Arv Z h199 t kt .int (80 : Int32) [(.int r0), (.int r1), (.int r2), (.int r3), (.int r4), (.int pp), (.int (0 : Int32)), (.int (0 : Int32)), (.int (0 : Int32)), (.int (0 : Int32)), (.int (0 : Int32)), (.int (0 : Int32)), (.int (0 : Int32)), (.int (0 : Int32)), (.int (0 : Int32))] (.int (0 : Int32)) := V199
  show Go p e below _ (T199.setTop (mkF m 57 #[.val (.ref x), .val (.int pp), .val (.int qq), .val (.int oo), .val (.int dd), .val (.int (5 : Int32))] []))
  refine s_aloadN S199 (hb hby dAD1_57) rfl rfl (pc' := 58) rfl ?_
  have F200 := Fb.keep K199 (ninS nXT nin0)
  refine g_getF S199 (w32 hw) Via.refl F200 (hb hby dAD1_58) ?_
  intro T201 ST201
  show Go p e below _ (T201.setTop (mkF m 61 #[.val (.ref x), .val (.int pp), .val (.int qq), .val (.int oo), .val (.int dd), .val (.int (5 : Int32))] [(.ref t)]))
  refine s_iload ST201 (hb hby dAD1_61) rfl (pc' := 63) rfl ?_
  refine s_iconst ST201 (hb hby dAD1_63) (v := (1 : Int32)) rfl (pc' := 64) rfl ?_
  refine s_iadd ST201 (hb hby dAD1_64) (z := (6 : Int32)) rfl (pc' := 65) rfl ?_
  refine s_iloadN ST201 (hb hby dAD1_65) rfl (pc' := 66) rfl ?_
  show Go p e below _ (T201.setTop (mkF m 66 #[.val (.ref x), .val (.int pp), .val (.int qq), .val (.int oo), .val (.int dd), .val (.int (5 : Int32))] [(.int qq), (.int (6 : Int32)), (.ref t)]))
  refine g_iastore ST201 V199 ⟨by decide, by decide⟩ 6 rfl (Nat.le_of_ble_eq_true rfl) nt (hb hby dAD1_66) ?_
  intro T202 h202 S202 K202 V202 sg202
  have V202 : Arv Z h202 t kt .int (80 : Int32) [(.int r0), (.int r1), (.int r2), (.int r3), (.int r4), (.int pp), (.int qq), (.int (0 : Int32)), (.int (0 : Int32)), (.int (0 : Int32)), (.int (0 : Int32)), (.int (0 : Int32)), (.int (0 : Int32)), (.int (0 : Int32)), (.int (0 : Int32))] (.int (0 : Int32)) := V202
  show Go p e below _ (T202.setTop (mkF m 67 #[.val (.ref x), .val (.int pp), .val (.int qq), .val (.int oo), .val (.int dd), .val (.int (5 : Int32))] []))
  refine s_aloadN S202 (hb hby dAD1_67) rfl rfl (pc' := 68) rfl ?_
  have F203 := F200.keep K202 (ninS nXT nin0)
  refine g_getF S202 (w32 hw) Via.refl F203 (hb hby dAD1_68) ?_
  intro T204 ST204
  show Go p e below _ (T204.setTop (mkF m 71 #[.val (.ref x), .val (.int pp), .val (.int qq), .val (.int oo), .val (.int dd), .val (.int (5 : Int32))] [(.ref t)]))
  refine s_iload ST204 (hb hby dAD1_71) rfl (pc' := 73) rfl ?_
  refine s_iconst ST204 (hb hby dAD1_73) (v := (2 : Int32)) rfl (pc' := 74) rfl ?_
  refine s_iadd ST204 (hb hby dAD1_74) (z := (7 : Int32)) rfl (pc' := 75) rfl ?_
  refine s_iloadN ST204 (hb hby dAD1_75) rfl (pc' := 76) rfl ?_
  show Go p e below _ (T204.setTop (mkF m 76 #[.val (.ref x), .val (.int pp), .val (.int qq), .val (.int oo), .val (.int dd), .val (.int (5 : Int32))] [(.int oo), (.int (7 : Int32)), (.ref t)]))
  refine g_iastore ST204 V202 ⟨by decide, by decide⟩ 7 rfl (Nat.le_of_ble_eq_true rfl) nt (hb hby dAD1_76) ?_
  intro T205 h205 S205 K205 V205 sg205
  have V205 : Arv Z h205 t kt .int (80 : Int32) [(.int r0), (.int r1), (.int r2), (.int r3), (.int r4), (.int pp), (.int qq), (.int oo), (.int (0 : Int32)), (.int (0 : Int32)), (.int (0 : Int32)), (.int (0 : Int32)), (.int (0 : Int32)), (.int (0 : Int32)), (.int (0 : Int32))] (.int (0 : Int32)) := V205
  show Go p e below _ (T205.setTop (mkF m 77 #[.val (.ref x), .val (.int pp), .val (.int qq), .val (.int oo), .val (.int dd), .val (.int (5 : Int32))] []))
  refine s_aloadN S205 (hb hby dAD1_77) rfl rfl (pc' := 78) rfl ?_
  have F206 := F203.keep K205 (ninS nXT nin0)
  refine g_getF S205 (w32 hw) Via.refl F206 (hb hby dAD1_78) ?_
  intro T207 ST207
  show Go p e below _ (T207.setTop (mkF m 81 #[.val (.ref x), .val (.int pp), .val (.int qq), .val (.int oo), .val (.int dd), .val (.int (5 : Int32))] [(.ref t)]))
  refine s_iload ST207 (hb hby dAD1_81) rfl (pc' := 83) rfl ?_
  refine s_iconst ST207 (hb hby dAD1_83) (v := (3 : Int32)) rfl (pc' := 84) rfl ?_
  refine s_iadd ST207 (hb hby dAD1_84) (z := (8 : Int32)) rfl (pc' := 85) rfl ?_
  refine s_iload ST207 (hb hby dAD1_85) rfl (pc' := 87) rfl ?_
  show Go p e below _ (T207.setTop (mkF m 87 #[.val (.ref x), .val (.int pp), .val (.int qq), .val (.int oo), .val (.int dd), .val (.int (5 : Int32))] [(.int dd), (.int (8 : Int32)), (.ref t)]))
  refine g_iastore ST207 V205 ⟨by decide, by decide⟩ 8 rfl (Nat.le_of_ble_eq_true rfl) nt (hb hby dAD1_87) ?_
  intro T208 h208 S208 K208 V208 sg208
  have V208 : Arv Z h208 t kt .int (80 : Int32) [(.int r0), (.int r1), (.int r2), (.int r3), (.int r4), (.int pp), (.int qq), (.int oo), (.int dd), (.int (0 : Int32)), (.int (0 : Int32)), (.int (0 : Int32)), (.int (0 : Int32)), (.int (0 : Int32)), (.int (0 : Int32))] (.int (0 : Int32)) := V208
  show Go p e below _ (T208.setTop (mkF m 88 #[.val (.ref x), .val (.int pp), .val (.int qq), .val (.int oo), .val (.int dd), .val (.int (5 : Int32))] []))
  refine s_aloadN S208 (hb hby dAD1_88) rfl rfl (pc' := 89) rfl ?_
  have F209 := F206.keep K208 (ninS nXT nin0)
  refine g_getF S208 (w32 hw) Via.refl F209 (hb hby dAD1_89) ?_
  intro T210 ST210
  show Go p e below _ (T210.setTop (mkF m 92 #[.val (.ref x), .val (.int pp), .val (.int qq), .val (.int oo), .val (.int dd), .val (.int (5 : Int32))] [(.ref t)]))
  refine s_iload ST210 (hb hby dAD1_92) rfl (pc' := 94) rfl ?_
  refine s_iconst ST210 (hb hby dAD1_94) (v := (4 : Int32)) rfl (pc' := 95) rfl ?_
  refine s_iadd ST210 (hb hby dAD1_95) (z := (9 : Int32)) rfl (pc' := 96) rfl ?_
  refine s_aloadN ST210 (hb hby dAD1_96) rfl rfl (pc' := 97) rfl ?_
  have F211 := Ft.keep K199 (ninS nXT nin0)
  have F212 := F211.keep K202 (ninS nXT nin0)
  have F213 := F212.keep K205 (ninS nXT nin0)
  have F214 := F213.keep K208 (ninS nXT nin0)
  refine g_getF ST210 (w29 hw) Via.refl F214 (hb hby dAD1_97) ?_
  intro T215 ST215
  show Go p e below _ (T215.setTop (mkF m 100 #[.val (.ref x), .val (.int pp), .val (.int qq), .val (.int oo), .val (.int dd), .val (.int (5 : Int32))] [(.ref sb), (.int (9 : Int32)), (.ref t)]))
  have F216 := Es.keep K199
  have F217 := F216.keep K202
  have F218 := F217.keep K205
  have F219 := F218.keep K208
  have F220 := Fv.keep K199 (ninS nST nin0)
  have F221 := F220.keep K202 (ninS nST nin0)
  have F222 := F221.keep K205 (ninS nST nin0)
  have F223 := F222.keep K208 (ninS nST nin0)
  have F224 := Fk.keep K199 (ninS nST nin0)
  have F225 := F224.keep K202 (ninS nST nin0)
  have F226 := F225.keep K205 (ninS nST nin0)
  have F227 := F226.keep K208 (ninS nST nin0)
  have F228 := Fs.keep K199 (ninS nST nin0)
  have F229 := F228.keep K202 (ninS nST nin0)
  have F230 := F229.keep K205 (ninS nST nin0)
  have F231 := F230.keep K208 (ninS nST nin0)
  show Go p e below _ (T215.setTop (mkF m 100 #[.val (.ref x), .val (.int pp), .val (.int qq), .val (.int oo), .val (.int dd), .val (.int (5 : Int32))] [(.ref sb), (.int (9 : Int32)), (.ref t)]))
  refine g_virtual ST215 (rmSL X ST215.old F219 F223 F227 F231) (fun _ q => nomatch q) (w99 hw) (w100 hw) (w102 hw) (w101 hw) (w11 hw) (w103 hw) (by decide) (fun _ h => notFace_of_selects h) (hb hby dAD1_100) (by rw [hml]; rfl) sb F219 [] (lenOf pd1 rfl) rfl rfl (Nat.le_of_ble_eq_true rfl) (Nat.le_of_ble_eq_true rfl) (Nat.le_of_ble_eq_true rfl) (Nat.le_of_ble_eq_true rfl) ?_
  intro v232 T232 V232 h232 S232 C232 q232
  obtain ⟨rfl, rfl⟩ := q232
  show Go p e below _ (T232.setTop (mkF m 103 #[.val (.ref x), .val (.int pp), .val (.int qq), .val (.int oo), .val (.int dd), .val (.int (5 : Int32))] [(.int sc), (.int (9 : Int32)), (.ref t)]))
  show Go p e below _ (T232.setTop (mkF m 103 #[.val (.ref x), .val (.int pp), .val (.int qq), .val (.int oo), .val (.int dd), .val (.int (5 : Int32))] [(.int sc), (.int (9 : Int32)), (.ref t)]))
  refine g_iastore S232 V208 ⟨by decide, by decide⟩ 9 rfl (Nat.le_of_ble_eq_true rfl) nt (hb hby dAD1_103) ?_
  intro T233 h233 S233 K233 V233 sg233
  have V233 : Arv Z h233 t kt .int (80 : Int32) [(.int r0), (.int r1), (.int r2), (.int r3), (.int r4), (.int pp), (.int qq), (.int oo), (.int dd), (.int sc), (.int (0 : Int32)), (.int (0 : Int32)), (.int (0 : Int32)), (.int (0 : Int32)), (.int (0 : Int32))] (.int (0 : Int32)) := V233
  show Go p e below _ (T233.setTop (mkF m 104 #[.val (.ref x), .val (.int pp), .val (.int qq), .val (.int oo), .val (.int dd), .val (.int (5 : Int32))] []))
  refine s_aloadN S233 (hb hby dAD1_104) rfl rfl (pc' := 105) rfl ?_
  refine s_dup S233 (hb hby dAD1_105) rfl (pc' := 106) rfl ?_
  have F234 := Fn.keep K199 (ninS nXT nin0)
  have F235 := F234.keep K202 (ninS nXT nin0)
  have F236 := F235.keep K205 (ninS nXT nin0)
  have F237 := F236.keep K208 (ninS nXT nin0)
  have F238 := F237.keep K233 (ninS nXT nin0)
  refine g_getF S233 (w40 hw) Via.refl F238 (hb hby dAD1_106) ?_
  intro T239 ST239
  show Go p e below _ (T239.setTop (mkF m 109 #[.val (.ref x), .val (.int pp), .val (.int qq), .val (.int oo), .val (.int dd), .val (.int (5 : Int32))] [(.int (1 : Int32)), (.ref x)]))
  refine s_iconst ST239 (hb hby dAD1_109) (v := (1 : Int32)) rfl (pc' := 110) rfl ?_
  refine s_iadd ST239 (hb hby dAD1_110) (z := (2 : Int32)) rfl (pc' := 111) rfl ?_
  show Go p e below _ (T239.setTop (mkF m 111 #[.val (.ref x), .val (.int pp), .val (.int qq), .val (.int oo), .val (.int dd), .val (.int (5 : Int32))] [(.int (2 : Int32)), (.ref x)]))
  have F241 := Ex.keep K199
  have F242 := F241.keep K202
  have F243 := F242.keep K205
  have F244 := F243.keep K208
  have F245 := F244.keep K233
  have F246 := F214.keep K233 (ninS nXT nin0)
  have F247 := F209.keep K233 (ninS nXT nin0)
  refine g_putF ST239 (w40 hw) Via.refl F238 F245 (Or.inl (w41 hw)) (w1 hw) (ty := .int) (v' := (.int (2 : Int32))) (by decide) rfl rfl nx (Safe.exa ST239.warm.alike F245 (by decide) (by decide)) (hb hby dAD1_111) ?_
  intro T240 h240 S240 K240 W240 A240 F240 sg240
  have F248 := F246.other W240 (Or.inr (slot_ne (Or.inr (w30 hw)) (Or.inl (w41 hw)) (by decide) (t := (.object "java/lang/StringBuilder")) (t' := .int) (by decide) (by decide)))
  have F249 := F247.other W240 (Or.inr (slot_ne (Or.inl (w33 hw)) (Or.inl (w41 hw)) (by decide) (t := (.array .int)) (t' := .int) (by decide) (by decide)))
  show Go p e below _ (T240.setTop (mkF m 114 #[.val (.ref x), .val (.int pp), .val (.int qq), .val (.int oo), .val (.int dd), .val (.int (5 : Int32))] []))
  show Go p e below _ (T240.setTop (mkF m 114 #[.val (.ref x), .val (.int pp), .val (.int qq), .val (.int oo), .val (.int dd), .val (.int (5 : Int32))] []))
  have KA250 := (Keep.refl h [x, t])
  have KA251 := (KA250.trans K199 (allS (Or.inl (by simp)) all0))
  have KA252 := (KA251.trans K202 (allS (Or.inl (by simp)) all0))
  have KA253 := (KA252.trans K205 (allS (Or.inl (by simp)) all0))
  have KA254 := (KA253.trans K208 (allS (Or.inl (by simp)) all0))
  have KA255 := (KA254.trans K233 (allS (Or.inl (by simp)) all0))
  have KA256 : Keep h h240 [x, t] := (KA255.trans K240 (allS (Or.inl (by simp)) all0))
  have F257 := V233.keep K240 (ninS (Ne.symm nXT) nin0)
  have F258 := F219.keep K233
  have F259 := F258.keep K240
  have F260 := F223.keep K233 (ninS nST nin0)
  have F261 := F260.keep K240 (ninS (Ne.symm nXS) nin0)
  have F262 := F227.keep K233 (ninS nST nin0)
  have F263 := F262.keep K240 (ninS (Ne.symm nXS) nin0)
  have F264 := F231.keep K233 (ninS nST nin0)
  have F265 := F264.keep K240 (ninS (Ne.symm nXS) nin0)
  have F266 := Vb.keep K199 (ninS (Ne.symm nTB) nin0)
  have F267 := F266.keep K202 (ninS (Ne.symm nTB) nin0)
  have F268 := F267.keep K205 (ninS (Ne.symm nTB) nin0)
  have F269 := F268.keep K208 (ninS (Ne.symm nTB) nin0)
  have F270 := F269.keep K233 (ninS (Ne.symm nTB) nin0)
  have F271 := F270.keep K240 (ninS (Ne.symm nXB) nin0)
  exact g_ret S240 (hb hby dAD1_114) hret ⟨rfl, KA256, ⟨A240, F248, F249, F240, F257, ⟨F259, F261, F263, F265, F271⟩, nx, ns, nb, nt⟩⟩
theorem dAC0_0 : decode prog_3_method_2_code 0 = .ok (.aload_n 0, 1) := by decide +kernel
theorem dAC0_1 : decode prog_3_method_2_code 1 = .ok (.getfield 10, 3) := by decide +kernel
theorem dAC0_4 : decode prog_3_method_2_code 4 = .ok (.aload 4, 2) := by decide +kernel
theorem dAC0_6 : decode prog_3_method_2_code 6 = .ok (.iload 5, 2) := by decide +kernel
theorem dAC0_8 : decode prog_3_method_2_code 8 = .ok (.iload 6, 2) := by decide +kernel
theorem dAC0_10 : decode prog_3_method_2_code 10 = .ok (.invokevirtual 20, 3) := by decide +kernel
theorem dAC0_13 : decode prog_3_method_2_code 13 = .ok (.pop, 1) := by decide +kernel
theorem dAC0_14 : decode prog_3_method_2_code 14 = .ok (.aload_n 0, 1) := by decide +kernel
theorem dAC0_15 : decode prog_3_method_2_code 15 = .ok (.iload_n 1, 1) := by decide +kernel
theorem dAC0_16 : decode prog_3_method_2_code 16 = .ok (.iload_n 2, 1) := by decide +kernel
theorem dAC0_17 : decode prog_3_method_2_code 17 = .ok (.iload_n 3, 1) := by decide +kernel
theorem dAC0_18 : decode prog_3_method_2_code 18 = .ok (.iconst (-1), 1) := by decide +kernel
theorem dAC0_19 : decode prog_3_method_2_code 19 = .ok (.invokevirtual 24, 3) := by decide +kernel
theorem dAC0_22 : decode prog_3_method_2_code 22 = .ok (.return_, 1) := by decide +kernel
set_option maxRecDepth 65536 in
set_option maxHeartbeats 40000000 in
theorem rmAC0 {l : Launch} {Z : State} {a0 : Array Value} {n0 : Nat} (X : Ctx Z a0) {x sb tb t : Addr} {kb kt : ClassId} {bs : List Value} {b : Addr} {kc : ClassId} {cs : List Value} {dv : Value} (pp qq oo : Int32) {h : Heap} (hO : Old Z n0 h) (A : AS Z h n0 x sb tb t kb kt (0 : Int32) (0 : Int32) [] (16 : Int32) (0 : Int32) bs) (Vc : Arv Z h b kc .char (0 : Int32) cs dv) :
    Ctr l Z EL1 n0 (⟨"com/example/nodewarden/nodewarden/core/Asides", "addComment", "(III[CII)V"⟩ : MethodName) prog_3_method_2_code 7 none ({ frames := 4, cells := 1, slots := 80, locals := 63 } : Room) #[(.ref x), (.int pp), (.int qq), (.int oo), (.ref b), (.int (0 : Int32)), (.int (0 : Int32))] h [] (fun v h' => v = none ∧ ∃ u ku, AS Z h' n0 x sb tb u kb ku (1 : Int32) (80 : Int32) [(.int pp), (.int qq), (.int oo), (.int (-1 : Int32)), (.int (0 : Int32)), (.int (0 : Int32)), (.int (0 : Int32)), (.int (0 : Int32)), (.int (0 : Int32)), (.int (0 : Int32)), (.int (0 : Int32)), (.int (0 : Int32)), (.int (0 : Int32)), (.int (0 : Int32)), (.int (0 : Int32))] (16 : Int32) (0 : Int32) bs ∧ Arv Z h' b kc .char (0 : Int32) cs dv) := by
  have hw := X.hw
  obtain ⟨z1, hz1, hz2⟩ := X.2.2.1
  refine Ctr.intro (a0 := a0) (plainFor_of_name pn3) hO X.ew ?_
  intro p e s m below meth c T0 V0 S0 hby hml hret hnm hsf
  rw [ef10]
  obtain ⟨Ex, Ft, Fb, Fn, Vt, ⟨Es, Fv, Fk, Fs, Vb⟩, nx, ns, nb, nt⟩ := A
  have nXS : x ≠ sb := ne_exa Ex Es (by decide)
  have nXT : x ≠ t := Exa.neArv Ex Vt (w1 hw)
  have nXB : x ≠ tb := Exa.neArv Ex Vb (w1 hw)
  have nST : sb ≠ t := Exa.neArv Es Vt (w10 hw)
  have nSB : sb ≠ tb := Exa.neArv Es Vb (w10 hw)
  have nTB : t ≠ tb := arv_kne Vt Vb (by decide)
  have nXC : x ≠ b := Exa.neArv Ex Vc (w1 hw)
  have nSC : sb ≠ b := Exa.neArv Es Vc (w10 hw)
  have nTC : t ≠ b := arv_kne Vt Vc (by decide)
  show Go p e below _ (T0.setTop (mkF m 0 #[.val (.ref x), .val (.int pp), .val (.int qq), .val (.int oo), .val (.ref b), .val (.int (0 : Int32)), .val (.int (0 : Int32))] []))
  refine s_aloadN S0 (hb hby dAC0_0) rfl rfl (pc' := 1) rfl ?_
  refine g_getF S0 (w29 hw) Via.refl Ft (hb hby dAC0_1) ?_
  intro T272 ST272
  show Go p e below _ (T272.setTop (mkF m 4 #[.val (.ref x), .val (.int pp), .val (.int qq), .val (.int oo), .val (.ref b), .val (.int (0 : Int32)), .val (.int (0 : Int32))] [(.ref sb)]))
  refine s_aload ST272 (hb hby dAC0_4) rfl rfl (pc' := 6) rfl ?_
  refine s_iload ST272 (hb hby dAC0_6) rfl (pc' := 8) rfl ?_
  refine s_iload ST272 (hb hby dAC0_8) rfl (pc' := 10) rfl ?_
  show Go p e below _ (T272.setTop (mkF m 10 #[.val (.ref x), .val (.int pp), .val (.int qq), .val (.int oo), .val (.ref b), .val (.int (0 : Int32)), .val (.int (0 : Int32))] [(.int (0 : Int32)), (.int (0 : Int32)), (.ref b), (.ref sb)]))
  refine g_virtual ST272 (rmSA X ns ST272.old Es Fv Fk Fs Vc Vb) (fun _ q => nomatch q) (w47 hw) (w48 hw) (w50 hw) (w49 hw) (w11 hw) (w51 hw) (by decide) (fun _ h => notFace_of_selects h) (hb hby dAC0_10) (by rw [hml]; rfl) sb Es [(.ref b), (.int (0 : Int32)), (.int (0 : Int32))] (lenOf pd9 rfl) rfl rfl (Nat.le_of_ble_eq_true rfl) (Nat.le_of_ble_eq_true rfl) (Nat.le_of_ble_eq_true rfl) (Nat.le_of_ble_eq_true rfl) ?_
  intro v273 T273 V273 h273 S273 C273 q273
  obtain ⟨rfl, K1, E1, F1, F2, F3⟩ := q273
  show Go p e below _ (T273.setTop (mkF m 13 #[.val (.ref x), .val (.int pp), .val (.int qq), .val (.int oo), .val (.ref b), .val (.int (0 : Int32)), .val (.int (0 : Int32))] [(.ref sb)]))
  refine s_pop S273 (hb hby dAC0_13) rfl (pc' := 14) rfl ?_
  refine s_aloadN S273 (hb hby dAC0_14) rfl rfl (pc' := 15) rfl ?_
  refine s_iloadN S273 (hb hby dAC0_15) rfl (pc' := 16) rfl ?_
  refine s_iloadN S273 (hb hby dAC0_16) rfl (pc' := 17) rfl ?_
  refine s_iloadN S273 (hb hby dAC0_17) rfl (pc' := 18) rfl ?_
  refine s_iconst S273 (hb hby dAC0_18) (v := (-1 : Int32)) rfl (pc' := 19) rfl ?_
  have F274 := Ex.keep K1
  have F275 := Ft.keep K1 (ninS nXS nin0)
  have F276 := Fb.keep K1 (ninS nXS nin0)
  have F277 := Fn.keep K1 (ninS nXS nin0)
  have F278 := Vt.keep K1 (ninS (Ne.symm nST) nin0)
  have F279 := Vb.keep K1 (ninS (Ne.symm nSB) nin0)
  show Go p e below _ (T273.setTop (mkF m 19 #[.val (.ref x), .val (.int pp), .val (.int qq), .val (.int oo), .val (.ref b), .val (.int (0 : Int32)), .val (.int (0 : Int32))] [(.int (-1 : Int32)), (.int oo), (.int qq), (.int pp), (.ref x)]))
  refine g_private S273 (rmAD0 X pp qq oo (-1 : Int32) S273.old ⟨F274, F275, F276, F277, F278, ⟨E1, F1, F2, F3, F279⟩, nx, ns, nb, nt⟩) (fun _ q => nomatch q) (w80 hw) (ni_inst (w1 hw)) (w82 hw) (w81 hw) (w2 hw) (w83 hw) (by decide) (hb hby dAC0_19) (by rw [hml]; rfl) x F274 [(.int pp), (.int qq), (.int oo), (.int (-1 : Int32))] (lenOf pd10 rfl) rfl rfl (Nat.le_of_ble_eq_true rfl) (Nat.le_of_ble_eq_true rfl) (Nat.le_of_ble_eq_true rfl) (Nat.le_of_ble_eq_true rfl) ?_
  intro v280 T280 V280 h280 S280 C280 q280
  obtain ⟨rfl, u, ku, K2, A2⟩ := q280
  show Go p e below _ (T280.setTop (mkF m 22 #[.val (.ref x), .val (.int pp), .val (.int qq), .val (.int oo), .val (.ref b), .val (.int (0 : Int32)), .val (.int (0 : Int32))] []))
  show Go p e below _ (T280.setTop (mkF m 22 #[.val (.ref x), .val (.int pp), .val (.int qq), .val (.int oo), .val (.ref b), .val (.int (0 : Int32)), .val (.int (0 : Int32))] []))
  have F281 := Vc.keep K1 (ninS (Ne.symm nSC) nin0)
  have F282 := F281.keep K2 (ninS (Ne.symm nXC) nin0)
  exact g_ret S280 (hb hby dAC0_22) hret ⟨rfl, u, ku, A2, F282⟩
theorem dEG_0 : decode jdk_68_method_9_code 0 = .ok (.aload_n 0, 1) := by decide +kernel
theorem dEG_1 : decode jdk_68_method_9_code 1 = .ok (.getfield 15, 3) := by decide +kernel
theorem dEG_4 : decode jdk_68_method_9_code 4 = .ok (.arraylength, 1) := by decide +kernel
theorem dEG_5 : decode jdk_68_method_9_code 5 = .ok (.aload_n 0, 1) := by decide +kernel
theorem dEG_6 : decode jdk_68_method_9_code 6 = .ok (.getfield 22, 3) := by decide +kernel
theorem dEG_9 : decode jdk_68_method_9_code 9 = .ok (.ishr, 1) := by decide +kernel
theorem dEG_10 : decode jdk_68_method_9_code 10 = .ok (.istore_n 2, 1) := by decide +kernel
theorem dEG_11 : decode jdk_68_method_9_code 11 = .ok (.iload_n 1, 1) := by decide +kernel
theorem dEG_12 : decode jdk_68_method_9_code 12 = .ok (.iload_n 2, 1) := by decide +kernel
theorem dEG_13 : decode jdk_68_method_9_code 13 = .ok (.isub, 1) := by decide +kernel
theorem dEG_14 : decode jdk_68_method_9_code 14 = .ok (.ifCond .le 24, 3) := by decide +kernel
theorem dEG_38 : decode jdk_68_method_9_code 38 = .ok (.return_, 1) := by decide +kernel
set_option maxRecDepth 65536 in
set_option maxHeartbeats 40000000 in
theorem rmEG {l : Launch} {Z : State} {a0 : Array Value} {n0 : Nat} (X : Ctx Z a0) {x tb : Addr} {kb : ClassId} {sc : Int32} {bs : List Value} {mc : Int32} {h : Heap} (hO : Old Z n0 h) (Ex : Exa Z h x "java/lang/StringBuilder") (Fv : Fld Z h x "java/lang/AbstractStringBuilder" "value" "[B" (.ref tb)) (Fk : Fld Z h x "java/lang/AbstractStringBuilder" "coder" "B" (.int (0 : Int32))) (Fs : Fld Z h x "java/lang/AbstractStringBuilder" "count" "I" (.int sc)) (Vb : Arv Z h tb kb .byte (16 : Int32) bs (.int (0 : Int32))) (m0 : 0 ≤ mc.toInt) (m1 : mc.toInt ≤ 16) :
    Ctr l Z EL1 n0 (⟨"java/lang/AbstractStringBuilder", "ensureCapacityInternal", "(I)V"⟩ : MethodName) jdk_68_method_9_code 3 none ({ frames := 0, cells := 0, slots := 0, locals := 0 } : Room) #[(.ref x), (.int mc)] h [] (fun v h' => v = none ∧ h' = h) := by
  have hw := X.hw
  obtain ⟨z1, hz1, hz2⟩ := X.2.2.1
  refine Ctr.intro (a0 := a0) (plainFor_of_name pn0) hO X.ew ?_
  intro p e s m below meth c T0 V0 S0 hby hml hret hnm hsf
  rw [ef5]
  refine s_aloadN S0 (hb hby dEG_0) rfl rfl (pc' := 1) rfl ?_
  refine g_getF S0 (w25 hw) Via.refl Fv (hb hby dEG_1) ?_
  intro T283 ST283
  show Go p e below _ (T283.setTop (mkF m 4 #[.val (.ref x), .val (.int mc), .unset] [(.ref tb)]))
  refine g_len ST283 Vb (hb hby dEG_4) ?_
  show Go p e below _ (T283.setTop (mkF m 5 #[.val (.ref x), .val (.int mc), .unset] [(.int (16 : Int32))]))
  refine s_aloadN ST283 (hb hby dEG_5) rfl rfl (pc' := 6) rfl ?_
  refine g_getF ST283 (w27 hw) Via.refl Fk (hb hby dEG_6) ?_
  intro T284 ST284
  show Go p e below _ (T284.setTop (mkF m 9 #[.val (.ref x), .val (.int mc), .unset] [(.int (0 : Int32)), (.int (16 : Int32))]))
  refine s_ishr ST284 (hb hby dEG_9) (z := (16 : Int32)) (by decide) (pc' := 10) rfl ?_
  refine s_istoreN ST284 (hb hby dEG_10) (L' := #[.val (.ref x), .val (.int mc), .val (.int (16 : Int32))]) rfl (pc' := 11) rfl ?_
  refine s_iloadN ST284 (hb hby dEG_11) rfl (pc' := 12) rfl ?_
  refine s_iloadN ST284 (hb hby dEG_12) rfl (pc' := 13) rfl ?_
  refine s_isub ST284 (hb hby dEG_13) (z := (mc - (16 : Int32))) rfl (pc' := 14) rfl ?_
  refine s_ifY ST284 (hb hby dEG_14) ((if0 _ _).trans (flt (own_cap m0 m1)).2.2.2) (by decide) (pcT := 38) (by decide) ?_
  exact g_ret ST284 (hb hby dEG_38) hret ⟨rfl, rfl⟩
theorem dSC_0 : decode jdk_42_method_152_code 0 = .ok (.getstatic 38, 3) := by decide +kernel
theorem dSC_3 : decode jdk_42_method_152_code 3 = .ok (.ifCond .eq 10, 3) := by decide +kernel
theorem dSC_6 : decode jdk_42_method_152_code 6 = .ok (.aload_n 0, 1) := by decide +kernel
theorem dSC_7 : decode jdk_42_method_152_code 7 = .ok (.getfield 15, 3) := by decide +kernel
theorem dSC_10 : decode jdk_42_method_152_code 10 = .ok (.goto 4, 3) := by decide +kernel
theorem dSC_14 : decode jdk_42_method_152_code 14 = .ok (.ireturn, 1) := by decide +kernel
set_option maxRecDepth 65536 in
set_option maxHeartbeats 40000000 in
theorem rmSC {l : Launch} {Z : State} {a0 : Array Value} {n0 : Nat} (X : Ctx Z a0) {a ta : Addr} {ka : ClassId} {z : Int32} {us : List Value} {h : Heap} (hO : Old Z n0 h) (F : LS Z h a ta ka z us) :
    Ctr l Z EL1 n0 (⟨"java/lang/String", "coder", "()B"⟩ : MethodName) jdk_42_method_152_code 1 (some .byte) ({ frames := 0, cells := 0, slots := 0, locals := 0 } : Room) #[(.ref a)] h [] (fun v h' => v = some (.int 0) ∧ h' = h) := by
  have hw := X.hw
  obtain ⟨z1, hz1, hz2⟩ := X.2.2.1
  refine Ctr.intro (a0 := a0) (plainFor_of_name pn5) hO X.ew ?_
  intro p e s m below meth c T0 V0 S0 hby hml hret hnm hsf
  rw [ef2]
  refine g_getS S0 (w139 hw) Via.refl (hz1.ext S0.old.2) (hb hby dSC_0) ?_
  intro T285 ST285
  show Go p e below _ (T285.setTop (mkF m 3 #[.val (.ref a)] [(.int z1)]))
  refine s_ifN ST285 (hb hby dSC_3) ((if0 _ _).trans (feq hz2).1) (pc' := 6) rfl ?_
  refine s_aloadN ST285 (hb hby dSC_6) rfl rfl (pc' := 7) rfl ?_
  refine g_getF ST285 (w140 hw) Via.refl F.2.2.1 (hb hby dSC_7) ?_
  intro T286 ST286
  show Go p e below _ (T286.setTop (mkF m 10 #[.val (.ref a)] [(.int (0 : Int32))]))
  refine s_goto ST286 (hb hby dSC_10) (by decide) (pcT := 14) (by decide) ?_
  exact g_iretN ST286 (hb hby dSC_14) hret (by simp) ⟨rfl, rfl⟩
theorem dSN_0 : decode jdk_42_method_54_code 0 = .ok (.aload_n 0, 1) := by decide +kernel
theorem dSN_1 : decode jdk_42_method_54_code 1 = .ok (.getfield 9, 3) := by decide +kernel
theorem dSN_4 : decode jdk_42_method_54_code 4 = .ok (.arraylength, 1) := by decide +kernel
theorem dSN_5 : decode jdk_42_method_54_code 5 = .ok (.aload_n 0, 1) := by decide +kernel
theorem dSN_6 : decode jdk_42_method_54_code 6 = .ok (.invokevirtual 335, 3) := by decide +kernel
theorem dSN_9 : decode jdk_42_method_54_code 9 = .ok (.ishr, 1) := by decide +kernel
theorem dSN_10 : decode jdk_42_method_54_code 10 = .ok (.ireturn, 1) := by decide +kernel
set_option maxRecDepth 65536 in
set_option maxHeartbeats 40000000 in
theorem rmSN {l : Launch} {Z : State} {a0 : Array Value} {n0 : Nat} (X : Ctx Z a0) {a ta : Addr} {ka : ClassId} {z : Int32} {us : List Value} {h : Heap} (hO : Old Z n0 h) (F : LS Z h a ta ka z us) :
    Ctr l Z EL1 n0 (⟨"java/lang/String", "length", "()I"⟩ : MethodName) jdk_42_method_54_code 1 (some .int) ({ frames := 1, cells := 0, slots := 0, locals := 13 } : Room) #[(.ref a)] h [] (fun v h' => v = some (.int z) ∧ h' = h) := by
  have hw := X.hw
  obtain ⟨z1, hz1, hz2⟩ := X.2.2.1
  refine Ctr.intro (a0 := a0) (plainFor_of_name pn5) hO X.ew ?_
  intro p e s m below meth c T0 V0 S0 hby hml hret hnm hsf
  rw [ef2]
  refine s_aloadN S0 (hb hby dSN_0) rfl rfl (pc' := 1) rfl ?_
  refine g_getF S0 (w133 hw) Via.refl F.2.1 (hb hby dSN_1) ?_
  intro T287 ST287
  show Go p e below _ (T287.setTop (mkF m 4 #[.val (.ref a)] [(.ref ta)]))
  refine g_len ST287 F.2.2.2 (hb hby dSN_4) ?_
  show Go p e below _ (T287.setTop (mkF m 5 #[.val (.ref a)] [(.int z)]))
  refine s_aloadN ST287 (hb hby dSN_5) rfl rfl (pc' := 6) rfl ?_
  show Go p e below _ (T287.setTop (mkF m 6 #[.val (.ref a)] [(.ref a), (.int z)]))
  refine g_virtual ST287 (rmSC X ST287.old F) (fun _ q => nomatch q) (w134 hw) (w135 hw) (w137 hw) (w136 hw) (w23 hw) (w138 hw) (by decide) (fun _ h => notFace_of_selects h) (hb hby dSN_6) (by rw [hml]; rfl) a F.1 [] (lenOf pd11 rfl) rfl rfl (Nat.le_of_ble_eq_true rfl) (Nat.le_of_ble_eq_true rfl) (Nat.le_of_ble_eq_true rfl) (Nat.le_of_ble_eq_true rfl) ?_
  intro v288 T288 V288 h288 S288 C288 q288
  obtain ⟨rfl, rfl⟩ := q288
  show Go p e below _ (T288.setTop (mkF m 9 #[.val (.ref a)] [(.int (0 : Int32)), (.int z)]))
  refine s_ishr S288 (hb hby dSN_9) (z := z) (own_shr0 z) (pc' := 10) rfl ?_
  exact g_iret S288 (hb hby dSN_10) hret ⟨rfl, rfl⟩
theorem dIF_0 : decode jdk_68_method_71_code 0 = .ok (.getstatic 18, 3) := by decide +kernel
theorem dIF_3 : decode jdk_68_method_71_code 3 = .ok (.ifCond .eq 18, 3) := by decide +kernel
theorem dIF_6 : decode jdk_68_method_71_code 6 = .ok (.aload_n 0, 1) := by decide +kernel
theorem dIF_7 : decode jdk_68_method_71_code 7 = .ok (.getfield 22, 3) := by decide +kernel
theorem dIF_10 : decode jdk_68_method_71_code 10 = .ok (.aload_n 1, 1) := by decide +kernel
theorem dIF_11 : decode jdk_68_method_71_code 11 = .ok (.invokevirtual 40, 3) := by decide +kernel
theorem dIF_14 : decode jdk_68_method_71_code 14 = .ok (.if_icmp .eq 7, 3) := by decide +kernel
theorem dIF_21 : decode jdk_68_method_71_code 21 = .ok (.return_, 1) := by decide +kernel
set_option maxRecDepth 65536 in
set_option maxHeartbeats 40000000 in
theorem rmIF {l : Launch} {Z : State} {a0 : Array Value} {n0 : Nat} (X : Ctx Z a0) {x tb : Addr} {sc : Int32} {a ta : Addr} {ka : ClassId} {z : Int32} {us : List Value} {h : Heap} (hO : Old Z n0 h) (Ex : Exa Z h x "java/lang/StringBuilder") (Fv : Fld Z h x "java/lang/AbstractStringBuilder" "value" "[B" (.ref tb)) (Fk : Fld Z h x "java/lang/AbstractStringBuilder" "coder" "B" (.int (0 : Int32))) (Fs : Fld Z h x "java/lang/AbstractStringBuilder" "count" "I" (.int sc)) (F : LS Z h a ta ka z us) :
    Ctr l Z EL1 n0 (⟨"java/lang/AbstractStringBuilder", "inflateIfNeededFor", "(Ljava/lang/String;)V"⟩ : MethodName) jdk_68_method_71_code 2 none ({ frames := 1, cells := 0, slots := 0, locals := 13 } : Room) #[(.ref x), (.ref a)] h [] (fun v h' => v = none ∧ h' = h) := by
  have hw := X.hw
  obtain ⟨z1, hz1, hz2⟩ := X.2.2.1
  refine Ctr.intro (a0 := a0) (plainFor_of_name pn0) hO X.ew ?_
  intro p e s m below meth c T0 V0 S0 hby hml hret hnm hsf
  rw [ef11]
  refine g_getS S0 (w22 hw) Via.refl (hz1.ext S0.old.2) (hb hby dIF_0) ?_
  intro T289 ST289
  show Go p e below _ (T289.setTop (mkF m 3 #[.val (.ref x), .val (.ref a)] [(.int z1)]))
  refine s_ifN ST289 (hb hby dIF_3) ((if0 _ _).trans (feq hz2).1) (pc' := 6) rfl ?_
  refine s_aloadN ST289 (hb hby dIF_6) rfl rfl (pc' := 7) rfl ?_
  refine g_getF ST289 (w27 hw) Via.refl Fk (hb hby dIF_7) ?_
  intro T290 ST290
  show Go p e below _ (T290.setTop (mkF m 10 #[.val (.ref x), .val (.ref a)] [(.int (0 : Int32))]))
  refine s_aloadN ST290 (hb hby dIF_10) rfl rfl (pc' := 11) rfl ?_
  show Go p e below _ (T290.setTop (mkF m 11 #[.val (.ref x), .val (.ref a)] [(.ref a), (.int (0 : Int32))]))
  refine g_virtual ST290 (rmSC X ST290.old F) (fun _ q => nomatch q) (w151 hw) (w135 hw) (w137 hw) (w136 hw) (w23 hw) (w138 hw) (by decide) (fun _ h => notFace_of_selects h) (hb hby dIF_11) (by rw [hml]; rfl) a F.1 [] (lenOf pd11 rfl) rfl rfl (Nat.le_of_ble_eq_true rfl) (Nat.le_of_ble_eq_true rfl) (Nat.le_of_ble_eq_true rfl) (Nat.le_of_ble_eq_true rfl) ?_
  intro v291 T291 V291 h291 S291 C291 q291
  obtain ⟨rfl, rfl⟩ := q291
  show Go p e below _ (T291.setTop (mkF m 14 #[.val (.ref x), .val (.ref a)] [(.int (0 : Int32)), (.int (0 : Int32))]))
  refine s_icmpY S291 (hb hby dIF_14) (by decide) (by decide) (pcT := 21) (by decide) ?_
  exact g_ret S291 (hb hby dIF_21) hret ⟨rfl, rfl⟩
theorem dGB_0 : decode jdk_42_method_147_code 0 = .ok (.aload_n 0, 1) := by decide +kernel
theorem dGB_1 : decode jdk_42_method_147_code 1 = .ok (.invokevirtual 335, 3) := by decide +kernel
theorem dGB_4 : decode jdk_42_method_147_code 4 = .ok (.iload_n 3, 1) := by decide +kernel
theorem dGB_5 : decode jdk_42_method_147_code 5 = .ok (.if_icmp .ne 23, 3) := by decide +kernel
theorem dGB_8 : decode jdk_42_method_147_code 8 = .ok (.aload_n 0, 1) := by decide +kernel
theorem dGB_9 : decode jdk_42_method_147_code 9 = .ok (.getfield 9, 3) := by decide +kernel
theorem dGB_12 : decode jdk_42_method_147_code 12 = .ok (.iconst 0, 1) := by decide +kernel
theorem dGB_13 : decode jdk_42_method_147_code 13 = .ok (.aload_n 1, 1) := by decide +kernel
theorem dGB_14 : decode jdk_42_method_147_code 14 = .ok (.iload_n 2, 1) := by decide +kernel
theorem dGB_15 : decode jdk_42_method_147_code 15 = .ok (.iload_n 3, 1) := by decide +kernel
theorem dGB_16 : decode jdk_42_method_147_code 16 = .ok (.ishl, 1) := by decide +kernel
theorem dGB_17 : decode jdk_42_method_147_code 17 = .ok (.aload_n 0, 1) := by decide +kernel
theorem dGB_18 : decode jdk_42_method_147_code 18 = .ok (.getfield 9, 3) := by decide +kernel
theorem dGB_21 : decode jdk_42_method_147_code 21 = .ok (.arraylength, 1) := by decide +kernel
theorem dGB_22 : decode jdk_42_method_147_code 22 = .ok (.invokestatic 212, 3) := by decide +kernel
theorem dGB_25 : decode jdk_42_method_147_code 25 = .ok (.goto 18, 3) := by decide +kernel
theorem dGB_43 : decode jdk_42_method_147_code 43 = .ok (.return_, 1) := by decide +kernel
set_option maxRecDepth 65536 in
set_option maxHeartbeats 40000000 in
theorem rmGB {l : Launch} {Z : State} {a0 : Array Value} {n0 : Nat} (X : Ctx Z a0) {tb : Addr} {kb : ClassId} {sc : Int32} {bs : List Value} {a ta : Addr} {ka : ClassId} {z : Int32} {us : List Value} (nb : n0 ≤ tb) {h : Heap} (hO : Old Z n0 h) (F : LS Z h a ta ka z us) (Vb : Arv Z h tb kb .byte (16 : Int32) bs (.int (0 : Int32))) (h0 : 0 ≤ sc.toInt) (h1 : 0 ≤ z.toInt) (h2 : sc.toInt + z.toInt ≤ 16) (hbl : bs.length = 16) :
    Ctr l Z EL1 n0 (⟨"java/lang/String", "getBytes", "([BIB)V"⟩ : MethodName) jdk_42_method_147_code 4 none ({ frames := 1, cells := 0, slots := 0, locals := 18 } : Room) #[(.ref a), (.ref tb), (.int sc), (.int (0 : Int32))] h [tb] (fun v h' => v = none ∧ ∃ bs' : List Value, Keep h h' [tb] ∧ Arv Z h' tb kb .byte (16 : Int32) bs' (.int (0 : Int32)) ∧ bs'.length = 16) := by
  have hw := X.hw
  obtain ⟨z1, hz1, hz2⟩ := X.2.2.1
  refine Ctr.intro (a0 := a0) (plainFor_of_name pn5) hO X.ew ?_
  intro p e s m below meth c T0 V0 S0 hby hml hret hnm hsf
  rw [ef8]
  refine s_aloadN S0 (hb hby dGB_0) rfl rfl (pc' := 1) rfl ?_
  show Go p e below _ (T0.setTop (mkF m 1 #[.val (.ref a), .val (.ref tb), .val (.int sc), .val (.int (0 : Int32))] [(.ref a)]))
  refine g_virtual S0 (rmSC X S0.old F) (fun _ q => nomatch q) (w134 hw) (w135 hw) (w137 hw) (w136 hw) (w23 hw) (w138 hw) (by decide) (fun _ h => notFace_of_selects h) (hb hby dGB_1) (by rw [hml]; rfl) a F.1 [] (lenOf pd11 rfl) rfl rfl (Nat.le_of_ble_eq_true rfl) (Nat.le_of_ble_eq_true rfl) (Nat.le_of_ble_eq_true rfl) (Nat.le_of_ble_eq_true rfl) ?_
  intro v292 T292 V292 h292 S292 C292 q292
  obtain ⟨rfl, rfl⟩ := q292
  have sf293 := C292.safe Vb.lt (hsf tb List.mem_cons_self)
  show Go p e below _ (T292.setTop (mkF m 4 #[.val (.ref a), .val (.ref tb), .val (.int sc), .val (.int (0 : Int32))] [(.int (0 : Int32))]))
  refine s_iloadN S292 (hb hby dGB_4) rfl (pc' := 5) rfl ?_
  refine s_icmpN S292 (hb hby dGB_5) (by decide) (pc' := 8) rfl ?_
  refine s_aloadN S292 (hb hby dGB_8) rfl rfl (pc' := 9) rfl ?_
  refine g_getF S292 (w133 hw) Via.refl F.2.1 (hb hby dGB_9) ?_
  intro T294 ST294
  show Go p e below _ (T294.setTop (mkF m 12 #[.val (.ref a), .val (.ref tb), .val (.int sc), .val (.int (0 : Int32))] [(.ref ta)]))
  refine s_iconst ST294 (hb hby dGB_12) (v := (0 : Int32)) rfl (pc' := 13) rfl ?_
  refine s_aloadN ST294 (hb hby dGB_13) rfl rfl (pc' := 14) rfl ?_
  refine s_iloadN ST294 (hb hby dGB_14) rfl (pc' := 15) rfl ?_
  refine s_iloadN ST294 (hb hby dGB_15) rfl (pc' := 16) rfl ?_
  refine s_ishl ST294 (hb hby dGB_16) (z := sc) (own_shl0 sc) (pc' := 17) rfl ?_
  refine s_aloadN ST294 (hb hby dGB_17) rfl rfl (pc' := 18) rfl ?_
  refine g_getF ST294 (w133 hw) Via.refl F.2.1 (hb hby dGB_18) ?_
  intro T295 ST295
  show Go p e below _ (T295.setTop (mkF m 21 #[.val (.ref a), .val (.ref tb), .val (.int sc), .val (.int (0 : Int32))] [(.ref ta), (.int sc), (.ref tb), (.int (0 : Int32)), (.ref ta)]))
  refine g_len ST295 F.2.2.2 (hb hby dGB_21) ?_
  show Go p e below _ (T295.setTop (mkF m 22 #[.val (.ref a), .val (.ref tb), .val (.int sc), .val (.int (0 : Int32))] [(.int z), (.int sc), (.ref tb), (.int (0 : Int32)), (.ref ta)]))
  show Go p e below _ (T295.setTop (mkF m 22 #[.val (.ref a), .val (.ref tb), .val (.int sc), .val (.int (0 : Int32))] [(.int z), (.int sc), (.ref tb), (.int (0 : Int32)), (.ref ta)]))
  refine g_copy ST295 (w157 hw) (w98 hw) (w96 hw) (w97 hw) F.2.2.2 Vb rfl (by decide) (own_nn h0) (own_nn h1) (by show 0 + _ ≤ _; omega) (own_fit h0 h1 h2 hbl).1 rfl (own_fit h0 h1 h2 hbl).2 nb sf293 (hb hby dGB_22) (by rw [hml]; rfl) (Nat.le_of_ble_eq_true rfl) (by decide) ?_
  intro T9 h9 S9 K9 V9 sg9
  show Go p e below _ (T9.setTop (mkF m 25 #[.val (.ref a), .val (.ref tb), .val (.int sc), .val (.int (0 : Int32))] []))
  refine s_goto S9 (hb hby dGB_25) (by decide) (pcT := 43) (by decide) ?_
  exact g_ret S9 (hb hby dGB_43) hret ⟨rfl, _, K9, V9, own_len h0 h1 h2 hbl (by simp)⟩
theorem dPS_0 : decode jdk_68_method_73_code 0 = .ok (.aload_n 0, 1) := by decide +kernel
theorem dPS_1 : decode jdk_68_method_73_code 1 = .ok (.aload_n 2, 1) := by decide +kernel
theorem dPS_2 : decode jdk_68_method_73_code 2 = .ok (.invokevirtual 397, 3) := by decide +kernel
theorem dPS_5 : decode jdk_68_method_73_code 5 = .ok (.aload_n 2, 1) := by decide +kernel
theorem dPS_6 : decode jdk_68_method_73_code 6 = .ok (.aload_n 0, 1) := by decide +kernel
theorem dPS_7 : decode jdk_68_method_73_code 7 = .ok (.getfield 15, 3) := by decide +kernel
theorem dPS_10 : decode jdk_68_method_73_code 10 = .ok (.iload_n 1, 1) := by decide +kernel
theorem dPS_11 : decode jdk_68_method_73_code 11 = .ok (.aload_n 0, 1) := by decide +kernel
theorem dPS_12 : decode jdk_68_method_73_code 12 = .ok (.getfield 22, 3) := by decide +kernel
theorem dPS_15 : decode jdk_68_method_73_code 15 = .ok (.invokevirtual 399, 3) := by decide +kernel
theorem dPS_18 : decode jdk_68_method_73_code 18 = .ok (.return_, 1) := by decide +kernel
set_option maxRecDepth 65536 in
set_option maxHeartbeats 40000000 in
theorem rmPS {l : Launch} {Z : State} {a0 : Array Value} {n0 : Nat} (X : Ctx Z a0) {x tb : Addr} {kb : ClassId} {sc : Int32} {bs : List Value} {a ta : Addr} {ka : ClassId} {z : Int32} {us : List Value} (nb : n0 ≤ tb) {h : Heap} (hO : Old Z n0 h) (Ex : Exa Z h x "java/lang/StringBuilder") (Fv : Fld Z h x "java/lang/AbstractStringBuilder" "value" "[B" (.ref tb)) (Fk : Fld Z h x "java/lang/AbstractStringBuilder" "coder" "B" (.int (0 : Int32))) (Fs : Fld Z h x "java/lang/AbstractStringBuilder" "count" "I" (.int sc)) (F : LS Z h a ta ka z us) (Vb : Arv Z h tb kb .byte (16 : Int32) bs (.int (0 : Int32))) (h0 : 0 ≤ sc.toInt) (h1 : 0 ≤ z.toInt) (h2 : sc.toInt + z.toInt ≤ 16) (hbl : bs.length = 16) :
    Ctr l Z EL1 n0 (⟨"java/lang/AbstractStringBuilder", "putStringAt", "(ILjava/lang/String;)V"⟩ : MethodName) jdk_68_method_73_code 3 none ({ frames := 2, cells := 0, slots := 0, locals := 33 } : Room) #[(.ref x), (.int sc), (.ref a)] h [tb] (fun v h' => v = none ∧ ∃ bs' : List Value, Keep h h' [tb] ∧ Arv Z h' tb kb .byte (16 : Int32) bs' (.int (0 : Int32)) ∧ bs'.length = 16) := by
  have hw := X.hw
  obtain ⟨z1, hz1, hz2⟩ := X.2.2.1
  refine Ctr.intro (a0 := a0) (plainFor_of_name pn0) hO X.ew ?_
  intro p e s m below meth c T0 V0 S0 hby hml hret hnm hsf
  rw [ef12]
  refine s_aloadN S0 (hb hby dPS_0) rfl rfl (pc' := 1) rfl ?_
  refine s_aloadN S0 (hb hby dPS_1) rfl rfl (pc' := 2) rfl ?_
  show Go p e below _ (T0.setTop (mkF m 2 #[.val (.ref x), .val (.int sc), .val (.ref a)] [(.ref a), (.ref x)]))
  refine g_private S0 (rmIF X S0.old Ex Fv Fk Fs F) (fun _ q => nomatch q) (w146 hw) (ni_sel (w68 hw) rfl) (w148 hw) (w147 hw) (w19 hw) (w150 hw) (by decide) (hb hby dPS_2) (by rw [hml]; rfl) x Ex [(.ref a)] (lenOf pd12 rfl) rfl rfl (Nat.le_of_ble_eq_true rfl) (Nat.le_of_ble_eq_true rfl) (Nat.le_of_ble_eq_true rfl) (Nat.le_of_ble_eq_true rfl) ?_
  intro v296 T296 V296 h296 S296 C296 q296
  obtain ⟨rfl, rfl⟩ := q296
  have sf297 := C296.safe Vb.lt (hsf tb List.mem_cons_self)
  show Go p e below _ (T296.setTop (mkF m 5 #[.val (.ref x), .val (.int sc), .val (.ref a)] []))
  refine s_aloadN S296 (hb hby dPS_5) rfl rfl (pc' := 6) rfl ?_
  refine s_aloadN S296 (hb hby dPS_6) rfl rfl (pc' := 7) rfl ?_
  refine g_getF S296 (w25 hw) Via.refl Fv (hb hby dPS_7) ?_
  intro T298 ST298
  show Go p e below _ (T298.setTop (mkF m 10 #[.val (.ref x), .val (.int sc), .val (.ref a)] [(.ref tb), (.ref a)]))
  refine s_iloadN ST298 (hb hby dPS_10) rfl (pc' := 11) rfl ?_
  refine s_aloadN ST298 (hb hby dPS_11) rfl rfl (pc' := 12) rfl ?_
  refine g_getF ST298 (w27 hw) Via.refl Fk (hb hby dPS_12) ?_
  intro T299 ST299
  show Go p e below _ (T299.setTop (mkF m 15 #[.val (.ref x), .val (.int sc), .val (.ref a)] [(.int (0 : Int32)), (.int sc), (.ref tb), (.ref a)]))
  show Go p e below _ (T299.setTop (mkF m 15 #[.val (.ref x), .val (.int sc), .val (.ref a)] [(.int (0 : Int32)), (.int sc), (.ref tb), (.ref a)]))
  refine g_virtual ST299 (rmGB X nb ST299.old F Vb h0 h1 h2 hbl) (sf1 Vb.lt sf297) (w152 hw) (w153 hw) (w155 hw) (w154 hw) (w23 hw) (w156 hw) (by decide) (fun _ h => notFace_of_selects h) (hb hby dPS_15) (by rw [hml]; rfl) a F.1 [(.ref tb), (.int sc), (.int (0 : Int32))] (lenOf pd13 rfl) rfl rfl (Nat.le_of_ble_eq_true rfl) (Nat.le_of_ble_eq_true rfl) (Nat.le_of_ble_eq_true rfl) (Nat.le_of_ble_eq_true rfl) ?_
  intro v300 T300 V300 h300 S300 C300 q300
  obtain ⟨rfl, bs2, K1, V1, l1⟩ := q300
  have sf301 := C300.safe Vb.lt sf297
  show Go p e below _ (T300.setTop (mkF m 18 #[.val (.ref x), .val (.int sc), .val (.ref a)] []))
  exact g_ret S300 (hb hby dPS_18) hret ⟨rfl, bs2, K1, V1, l1⟩
theorem dAT_0 : decode jdk_68_method_22_code 0 = .ok (.aload_n 1, 1) := by decide +kernel
theorem dAT_1 : decode jdk_68_method_22_code 1 = .ok (.ifnonnull 8, 3) := by decide +kernel
theorem dAT_9 : decode jdk_68_method_22_code 9 = .ok (.aload_n 1, 1) := by decide +kernel
theorem dAT_10 : decode jdk_68_method_22_code 10 = .ok (.invokevirtual 32, 3) := by decide +kernel
theorem dAT_13 : decode jdk_68_method_22_code 13 = .ok (.istore_n 2, 1) := by decide +kernel
theorem dAT_14 : decode jdk_68_method_22_code 14 = .ok (.aload_n 0, 1) := by decide +kernel
theorem dAT_15 : decode jdk_68_method_22_code 15 = .ok (.aload_n 0, 1) := by decide +kernel
theorem dAT_16 : decode jdk_68_method_22_code 16 = .ok (.getfield 79, 3) := by decide +kernel
theorem dAT_19 : decode jdk_68_method_22_code 19 = .ok (.iload_n 2, 1) := by decide +kernel
theorem dAT_20 : decode jdk_68_method_22_code 20 = .ok (.iadd, 1) := by decide +kernel
theorem dAT_21 : decode jdk_68_method_22_code 21 = .ok (.invokevirtual 100, 3) := by decide +kernel
theorem dAT_24 : decode jdk_68_method_22_code 24 = .ok (.aload_n 0, 1) := by decide +kernel
theorem dAT_25 : decode jdk_68_method_22_code 25 = .ok (.aload_n 0, 1) := by decide +kernel
theorem dAT_26 : decode jdk_68_method_22_code 26 = .ok (.getfield 79, 3) := by decide +kernel
theorem dAT_29 : decode jdk_68_method_22_code 29 = .ok (.aload_n 1, 1) := by decide +kernel
theorem dAT_30 : decode jdk_68_method_22_code 30 = .ok (.invokevirtual 208, 3) := by decide +kernel
theorem dAT_33 : decode jdk_68_method_22_code 33 = .ok (.aload_n 0, 1) := by decide +kernel
theorem dAT_34 : decode jdk_68_method_22_code 34 = .ok (.dup, 1) := by decide +kernel
theorem dAT_35 : decode jdk_68_method_22_code 35 = .ok (.getfield 79, 3) := by decide +kernel
theorem dAT_38 : decode jdk_68_method_22_code 38 = .ok (.iload_n 2, 1) := by decide +kernel
theorem dAT_39 : decode jdk_68_method_22_code 39 = .ok (.iadd, 1) := by decide +kernel
theorem dAT_40 : decode jdk_68_method_22_code 40 = .ok (.putfield 79, 3) := by decide +kernel
theorem dAT_43 : decode jdk_68_method_22_code 43 = .ok (.aload_n 0, 1) := by decide +kernel
theorem dAT_44 : decode jdk_68_method_22_code 44 = .ok (.areturn, 1) := by decide +kernel
set_option maxRecDepth 65536 in
set_option maxHeartbeats 40000000 in
theorem rmAT {l : Launch} {Z : State} {a0 : Array Value} {n0 : Nat} (X : Ctx Z a0) {x tb : Addr} {kb : ClassId} {sc : Int32} {bs : List Value} {a ta : Addr} {ka : ClassId} {z : Int32} {us : List Value} (na : n0 ≤ x) (nb : n0 ≤ tb) {h : Heap} (hO : Old Z n0 h) (Ex : Exa Z h x "java/lang/StringBuilder") (Fv : Fld Z h x "java/lang/AbstractStringBuilder" "value" "[B" (.ref tb)) (Fk : Fld Z h x "java/lang/AbstractStringBuilder" "coder" "B" (.int (0 : Int32))) (Fs : Fld Z h x "java/lang/AbstractStringBuilder" "count" "I" (.int sc)) (F : LS Z h a ta ka z us) (Vb : Arv Z h tb kb .byte (16 : Int32) bs (.int (0 : Int32))) (h0 : 0 ≤ sc.toInt) (h1 : 0 ≤ z.toInt) (h2 : sc.toInt + z.toInt ≤ 16) (hbl : bs.length = 16) :
    Ctr l Z EL1 n0 (⟨"java/lang/AbstractStringBuilder", "append", "(Ljava/lang/String;)Ljava/lang/AbstractStringBuilder;"⟩ : MethodName) jdk_68_method_22_code 3 (some (.object "java/lang/AbstractStringBuilder")) ({ frames := 3, cells := 0, slots := 0, locals := 47 } : Room) #[(.ref x), (.ref a)] h [tb] (fun v h' => v = some (.ref x) ∧ ∃ (sc' : Int32) (bs' : List Value), Keep h h' [x, tb] ∧ Exa Z h' x "java/lang/StringBuilder" ∧ Fld Z h' x "java/lang/AbstractStringBuilder" "value" "[B" (.ref tb) ∧ Fld Z h' x "java/lang/AbstractStringBuilder" "coder" "B" (.int (0 : Int32)) ∧ Fld Z h' x "java/lang/AbstractStringBuilder" "count" "I" (.int sc') ∧ Arv Z h' tb kb .byte (16 : Int32) bs' (.int (0 : Int32)) ∧ bs'.length = 16 ∧ sc'.toInt = sc.toInt + z.toInt) := by
  have hw := X.hw
  obtain ⟨z1, hz1, hz2⟩ := X.2.2.1
  refine Ctr.intro (a0 := a0) (plainFor_of_name pn0) hO X.ew ?_
  intro p e s m below meth c T0 V0 S0 hby hml hret hnm hsf
  rw [ef13]
  have nXB : x ≠ tb := Exa.neArv Ex Vb (w10 hw)
  have ez := own_add h0 h1 (by omega)
  show Go p e below _ (T0.setTop (mkF m 0 #[.val (.ref x), .val (.ref a), .unset] []))
  refine s_aloadN S0 (hb hby dAT_0) rfl rfl (pc' := 1) rfl ?_
  refine s_nonnullY S0 (hb hby dAT_1) (by decide) (pcT := 9) (by decide) ?_
  refine s_aloadN S0 (hb hby dAT_9) rfl rfl (pc' := 10) rfl ?_
  show Go p e below _ (T0.setTop (mkF m 10 #[.val (.ref x), .val (.ref a), .unset] [(.ref a)]))
  refine g_virtual S0 (rmSN X S0.old F) (fun _ q => nomatch q) (w128 hw) (w129 hw) (w131 hw) (w130 hw) (w23 hw) (w132 hw) (by decide) (fun _ h => notFace_of_selects h) (hb hby dAT_10) (by rw [hml]; rfl) a F.1 [] (lenOf pd1 rfl) rfl rfl (Nat.le_of_ble_eq_true rfl) (Nat.le_of_ble_eq_true rfl) (Nat.le_of_ble_eq_true rfl) (Nat.le_of_ble_eq_true rfl) ?_
  intro v302 T302 V302 h302 S302 C302 q302
  obtain ⟨rfl, rfl⟩ := q302
  have sf303 := C302.safe Vb.lt (hsf tb List.mem_cons_self)
  show Go p e below _ (T302.setTop (mkF m 13 #[.val (.ref x), .val (.ref a), .unset] [(.int z)]))
  refine s_istoreN S302 (hb hby dAT_13) (L' := #[.val (.ref x), .val (.ref a), .val (.int z)]) rfl (pc' := 14) rfl ?_
  refine s_aloadN S302 (hb hby dAT_14) rfl rfl (pc' := 15) rfl ?_
  refine s_aloadN S302 (hb hby dAT_15) rfl rfl (pc' := 16) rfl ?_
  refine g_getF S302 (w63 hw) Via.refl Fs (hb hby dAT_16) ?_
  intro T304 ST304
  show Go p e below _ (T304.setTop (mkF m 19 #[.val (.ref x), .val (.ref a), .val (.int z)] [(.int sc), (.ref x)]))
  refine s_iloadN ST304 (hb hby dAT_19) rfl (pc' := 20) rfl ?_
  refine s_iadd ST304 (hb hby dAT_20) (z := (sc + z)) rfl (pc' := 21) rfl ?_
  show Go p e below _ (T304.setTop (mkF m 21 #[.val (.ref x), .val (.ref a), .val (.int z)] [(.int (sc + z)), (.ref x)]))
  refine g_private ST304 (rmEG X ST304.old Ex Fv Fk Fs Vb (by omega) (by omega)) (fun _ q => nomatch q) (w65 hw) (ni_sel (w68 hw) rfl) (w67 hw) (w66 hw) (w19 hw) (w69 hw) (by decide) (hb hby dAT_21) (by rw [hml]; rfl) x Ex [(.int (sc + z))] (lenOf pd0 rfl) rfl rfl (Nat.le_of_ble_eq_true rfl) (Nat.le_of_ble_eq_true rfl) (Nat.le_of_ble_eq_true rfl) (Nat.le_of_ble_eq_true rfl) ?_
  intro v305 T305 V305 h305 S305 C305 q305
  obtain ⟨rfl, rfl⟩ := q305
  have sf306 := C305.safe Vb.lt sf303
  show Go p e below _ (T305.setTop (mkF m 24 #[.val (.ref x), .val (.ref a), .val (.int z)] []))
  refine s_aloadN S305 (hb hby dAT_24) rfl rfl (pc' := 25) rfl ?_
  refine s_aloadN S305 (hb hby dAT_25) rfl rfl (pc' := 26) rfl ?_
  refine g_getF S305 (w63 hw) Via.refl Fs (hb hby dAT_26) ?_
  intro T307 ST307
  show Go p e below _ (T307.setTop (mkF m 29 #[.val (.ref x), .val (.ref a), .val (.int z)] [(.int sc), (.ref x)]))
  refine s_aloadN ST307 (hb hby dAT_29) rfl rfl (pc' := 30) rfl ?_
  show Go p e below _ (T307.setTop (mkF m 30 #[.val (.ref x), .val (.ref a), .val (.int z)] [(.ref a), (.int sc), (.ref x)]))
  refine g_private ST307 (rmPS X nb ST307.old Ex Fv Fk Fs F Vb h0 h1 h2 hbl) (sf1 Vb.lt sf306) (w141 hw) (ni_sel (w68 hw) rfl) (w143 hw) (w142 hw) (w19 hw) (w145 hw) (by decide) (hb hby dAT_30) (by rw [hml]; rfl) x Ex [(.int sc), (.ref a)] (lenOf pd14 rfl) rfl rfl (Nat.le_of_ble_eq_true rfl) (Nat.le_of_ble_eq_true rfl) (Nat.le_of_ble_eq_true rfl) (Nat.le_of_ble_eq_true rfl) ?_
  intro v308 T308 V308 h308 S308 C308 q308
  obtain ⟨rfl, bs2, K1, V1, l1⟩ := q308
  have sf309 := C308.safe Vb.lt sf306
  show Go p e below _ (T308.setTop (mkF m 33 #[.val (.ref x), .val (.ref a), .val (.int z)] []))
  refine s_aloadN S308 (hb hby dAT_33) rfl rfl (pc' := 34) rfl ?_
  refine s_dup S308 (hb hby dAT_34) rfl (pc' := 35) rfl ?_
  have F310 := Fs.keep K1 (ninS nXB nin0)
  refine g_getF S308 (w63 hw) Via.refl F310 (hb hby dAT_35) ?_
  intro T311 ST311
  show Go p e below _ (T311.setTop (mkF m 38 #[.val (.ref x), .val (.ref a), .val (.int z)] [(.int sc), (.ref x)]))
  refine s_iloadN ST311 (hb hby dAT_38) rfl (pc' := 39) rfl ?_
  refine s_iadd ST311 (hb hby dAT_39) (z := (sc + z)) rfl (pc' := 40) rfl ?_
  show Go p e below _ (T311.setTop (mkF m 40 #[.val (.ref x), .val (.ref a), .val (.int z)] [(.int (sc + z)), (.ref x)]))
  have F313 := Ex.keep K1
  have F314 := Fv.keep K1 (ninS nXB nin0)
  have F315 := Fk.keep K1 (ninS nXB nin0)
  refine g_putF ST311 (w63 hw) Via.refl F310 F313 (Or.inl (w64 hw)) (w10 hw) (ty := .int) (v' := (.int (sc + z))) (by decide) rfl rfl na (Safe.exa ST311.warm.alike F313 (by decide) (by decide)) (hb hby dAT_40) ?_
  intro T312 h312 S312 K312 W312 A312 F312 sg312
  have sf316 := Safe.keep K312 (sfS (Safe.exa ST311.warm.alike F313 (by decide) (by decide)) sf0) ST311.chv sf309
  have F317 := F314.other W312 (Or.inr (slot_ne (Or.inl (w26 hw)) (Or.inl (w64 hw)) (by decide) (t := (.array .byte)) (t' := .int) (by decide) (by decide)))
  have F318 := F315.other W312 (Or.inr (slot_ne (Or.inl (w28 hw)) (Or.inl (w64 hw)) (by decide) (t := .byte) (t' := .int) (by decide) (by decide)))
  show Go p e below _ (T312.setTop (mkF m 43 #[.val (.ref x), .val (.ref a), .val (.int z)] []))
  refine s_aloadN S312 (hb hby dAT_43) rfl rfl (pc' := 44) rfl ?_
  show Go p e below _ (T312.setTop (mkF m 44 #[.val (.ref x), .val (.ref a), .val (.int z)] [(.ref x)]))
  have KA319 := (Keep.refl h305 [x, tb])
  have KA320 := (KA319.trans K1 (allS (Or.inl (by simp)) all0))
  have KA321 : Keep h305 h312 [x, tb] := (KA320.trans K312 (allS (Or.inl (by simp)) all0))
  have F322 := V1.keep K312 (ninS (Ne.symm nXB) nin0)
  exact g_aret S312 (hb hby dAT_44) hret rfl rfl rfl ⟨rfl, _, bs2, KA321, A312, F317, F318, F312, F322, l1, ez⟩
theorem dSS_0 : decode jdk_67_method_7_code 0 = .ok (.aload_n 0, 1) := by decide +kernel
theorem dSS_1 : decode jdk_67_method_7_code 1 = .ok (.aload_n 1, 1) := by decide +kernel
theorem dSS_2 : decode jdk_67_method_7_code 2 = .ok (.invokespecial 29, 3) := by decide +kernel
theorem dSS_5 : decode jdk_67_method_7_code 5 = .ok (.pop, 1) := by decide +kernel
theorem dSS_6 : decode jdk_67_method_7_code 6 = .ok (.aload_n 0, 1) := by decide +kernel
theorem dSS_7 : decode jdk_67_method_7_code 7 = .ok (.areturn, 1) := by decide +kernel
set_option maxRecDepth 65536 in
set_option maxHeartbeats 40000000 in
theorem rmSS {l : Launch} {Z : State} {a0 : Array Value} {n0 : Nat} (X : Ctx Z a0) {x tb : Addr} {kb : ClassId} {sc : Int32} {bs : List Value} {a ta : Addr} {ka : ClassId} {z : Int32} {us : List Value} (nx : n0 ≤ x) (nb : n0 ≤ tb) {h : Heap} (hO : Old Z n0 h) (Ex : Exa Z h x "java/lang/StringBuilder") (Fv : Fld Z h x "java/lang/AbstractStringBuilder" "value" "[B" (.ref tb)) (Fk : Fld Z h x "java/lang/AbstractStringBuilder" "coder" "B" (.int (0 : Int32))) (Fs : Fld Z h x "java/lang/AbstractStringBuilder" "count" "I" (.int sc)) (F : LS Z h a ta ka z us) (Vb : Arv Z h tb kb .byte (16 : Int32) bs (.int (0 : Int32))) (h0 : 0 ≤ sc.toInt) (h1 : 0 ≤ z.toInt) (h2 : sc.toInt + z.toInt ≤ 16) (hbl : bs.length = 16) :
    Ctr l Z EL1 n0 (⟨"java/lang/StringBuilder", "append", "(Ljava/lang/String;)Ljava/lang/StringBuilder;"⟩ : MethodName) jdk_67_method_7_code 2 (some (.object "java/lang/StringBuilder")) ({ frames := 4, cells := 0, slots := 0, locals := 61 } : Room) #[(.ref x), (.ref a)] h [tb] (fun v h' => v = some (.ref x) ∧ ∃ (sc' : Int32) (bs' : List Value), Keep h h' [x, tb] ∧ Exa Z h' x "java/lang/StringBuilder" ∧ Fld Z h' x "java/lang/AbstractStringBuilder" "value" "[B" (.ref tb) ∧ Fld Z h' x "java/lang/AbstractStringBuilder" "coder" "B" (.int (0 : Int32)) ∧ Fld Z h' x "java/lang/AbstractStringBuilder" "count" "I" (.int sc') ∧ Arv Z h' tb kb .byte (16 : Int32) bs' (.int (0 : Int32)) ∧ bs'.length = 16 ∧ sc'.toInt = sc.toInt + z.toInt) := by
  have hw := X.hw
  obtain ⟨z1, hz1, hz2⟩ := X.2.2.1
  refine Ctr.intro (a0 := a0) (plainFor_of_name pn1) hO X.ew ?_
  intro p e s m below meth c T0 V0 S0 hby hml hret hnm hsf
  rw [ef11]
  refine s_aloadN S0 (hb hby dSS_0) rfl rfl (pc' := 1) rfl ?_
  refine s_aloadN S0 (hb hby dSS_1) rfl rfl (pc' := 2) rfl ?_
  show Go p e below _ (T0.setTop (mkF m 2 #[.val (.ref x), .val (.ref a)] [(.ref a), (.ref x)]))
  refine g_super S0 (rmAT X nx nb S0.old Ex Fv Fk Fs F Vb h0 h1 h2 hbl) (sf1 Vb.lt (hsf tb List.mem_cons_self)) (by decide) (w124 hw) (ni_sel (w68 hw) rfl) (w125 hw) (w54 hw) (w19 hw) (w127 hw) (by decide) (hb hby dSS_2) (by rw [hml]; rfl) x Ex [(.ref a)] (lenOf pd15 rfl) rfl rfl (Nat.le_of_ble_eq_true rfl) (Nat.le_of_ble_eq_true rfl) (Nat.le_of_ble_eq_true rfl) (Nat.le_of_ble_eq_true rfl) ?_
  intro v323 T323 V323 h323 S323 C323 q323
  obtain ⟨rfl, q1⟩ := q323
  have sf324 := C323.safe Vb.lt (hsf tb List.mem_cons_self)
  show Go p e below _ (T323.setTop (mkF m 5 #[.val (.ref x), .val (.ref a)] [(.ref x)]))
  refine s_pop S323 (hb hby dSS_5) rfl (pc' := 6) rfl ?_
  refine s_aloadN S323 (hb hby dSS_6) rfl rfl (pc' := 7) rfl ?_
  exact g_aret S323 (hb hby dSS_7) hret rfl rfl rfl ⟨rfl, q1⟩
theorem dAX1_0 : decode prog_3_method_3_code 0 = .ok (.aload_n 0, 1) := by decide +kernel
theorem dAX1_1 : decode prog_3_method_3_code 1 = .ok (.getfield 10, 3) := by decide +kernel
theorem dAX1_4 : decode prog_3_method_3_code 4 = .ok (.aload 4, 2) := by decide +kernel
theorem dAX1_6 : decode prog_3_method_3_code 6 = .ok (.invokevirtual 28, 3) := by decide +kernel
theorem dAX1_9 : decode prog_3_method_3_code 9 = .ok (.pop, 1) := by decide +kernel
theorem dAX1_10 : decode prog_3_method_3_code 10 = .ok (.aload_n 0, 1) := by decide +kernel
theorem dAX1_11 : decode prog_3_method_3_code 11 = .ok (.getfield 10, 3) := by decide +kernel
theorem dAX1_14 : decode prog_3_method_3_code 14 = .ok (.invokevirtual 31, 3) := by decide +kernel
theorem dAX1_17 : decode prog_3_method_3_code 17 = .ok (.istore 6, 2) := by decide +kernel
theorem dAX1_19 : decode prog_3_method_3_code 19 = .ok (.aload_n 0, 1) := by decide +kernel
theorem dAX1_20 : decode prog_3_method_3_code 20 = .ok (.getfield 10, 3) := by decide +kernel
theorem dAX1_23 : decode prog_3_method_3_code 23 = .ok (.aload 5, 2) := by decide +kernel
theorem dAX1_25 : decode prog_3_method_3_code 25 = .ok (.invokevirtual 28, 3) := by decide +kernel
theorem dAX1_28 : decode prog_3_method_3_code 28 = .ok (.pop, 1) := by decide +kernel
theorem dAX1_29 : decode prog_3_method_3_code 29 = .ok (.aload_n 0, 1) := by decide +kernel
theorem dAX1_30 : decode prog_3_method_3_code 30 = .ok (.iload_n 1, 1) := by decide +kernel
theorem dAX1_31 : decode prog_3_method_3_code 31 = .ok (.iload_n 2, 1) := by decide +kernel
theorem dAX1_32 : decode prog_3_method_3_code 32 = .ok (.iload_n 3, 1) := by decide +kernel
theorem dAX1_33 : decode prog_3_method_3_code 33 = .ok (.iload 6, 2) := by decide +kernel
theorem dAX1_35 : decode prog_3_method_3_code 35 = .ok (.invokevirtual 24, 3) := by decide +kernel
theorem dAX1_38 : decode prog_3_method_3_code 38 = .ok (.return_, 1) := by decide +kernel
set_option maxRecDepth 65536 in
set_option maxHeartbeats 40000000 in
theorem rmAX1 {l : Launch} {Z : State} {a0 : Array Value} {n0 : Nat} (X : Ctx Z a0) {x sb tb t : Addr} {kb kt : ClassId} {sc : Int32} {bs : List Value} {a1 ta1 : Addr} {ka1 : ClassId} {z1 : Int32} {us1 : List Value} {a2 ta2 : Addr} {ka2 : ClassId} {z2 : Int32} {us2 : List Value} {r0 r1 r2 r3 r4 : Int32} (pp qq oo : Int32) {h : Heap} (hO : Old Z n0 h) (A : AS Z h n0 x sb tb t kb kt (1 : Int32) (80 : Int32) [(.int r0), (.int r1), (.int r2), (.int r3), (.int r4), (.int (0 : Int32)), (.int (0 : Int32)), (.int (0 : Int32)), (.int (0 : Int32)), (.int (0 : Int32)), (.int (0 : Int32)), (.int (0 : Int32)), (.int (0 : Int32)), (.int (0 : Int32)), (.int (0 : Int32))] (16 : Int32) sc bs) (F1 : LS Z h a1 ta1 ka1 z1 us1) (F2 : LS Z h a2 ta2 ka2 z2 us2) (ne2 : ta2 ≠ tb) (h0 : 0 ≤ sc.toInt) (h1 : 0 ≤ z1.toInt) (h2 : 0 ≤ z2.toInt) (h3 : sc.toInt + z1.toInt + z2.toInt ≤ 16) (hbl : bs.length = 16) :
    Ctr l Z EL1 n0 (⟨"com/example/nodewarden/nodewarden/core/Asides", "addInstruction", "(IIILjava/lang/String;Ljava/lang/String;)V"⟩ : MethodName) prog_3_method_3_code 7 none ({ frames := 5, cells := 0, slots := 0, locals := 74 } : Room) #[(.ref x), (.int pp), (.int qq), (.int oo), (.ref a1), (.ref a2)] h [tb] (fun v h' => v = none ∧ ∃ (u : Addr) (ku : ClassId) (dd ee sc' : Int32) (bs' : List Value), AS Z h' n0 x sb tb u kb ku (2 : Int32) (80 : Int32) [(.int r0), (.int r1), (.int r2), (.int r3), (.int r4), (.int pp), (.int qq), (.int oo), (.int dd), (.int ee), (.int (0 : Int32)), (.int (0 : Int32)), (.int (0 : Int32)), (.int (0 : Int32)), (.int (0 : Int32))] (16 : Int32) sc' bs' ∧ 0 ≤ dd.toInt ∧ sc'.toInt = sc.toInt + z1.toInt + z2.toInt ∧ bs'.length = 16) := by
  have hw := X.hw
  obtain ⟨z1, hz1, hz2⟩ := X.2.2.1
  refine Ctr.intro (a0 := a0) (plainFor_of_name pn3) hO X.ew ?_
  intro p e s m below meth c T0 V0 S0 hby hml hret hnm hsf
  rw [ef14]
  obtain ⟨Ex, Ft, Fb, Fn, Vt, ⟨Es, Fv, Fk, Fs, Vb⟩, nx, ns, nb, nt⟩ := A
  have nXS : x ≠ sb := ne_exa Ex Es (by decide)
  have nXT : x ≠ t := Exa.neArv Ex Vt (w1 hw)
  have nXB : x ≠ tb := Exa.neArv Ex Vb (w1 hw)
  have nST : sb ≠ t := Exa.neArv Es Vt (w10 hw)
  have nSB : sb ≠ tb := Exa.neArv Es Vb (w10 hw)
  have nTB : t ≠ tb := arv_kne Vt Vb (by decide)
  have e1 := own_nat h0
  have nAS : a2 ≠ sb := ne_exa F2.1 Es (by decide)
  have nAB : a2 ≠ tb := Exa.neArv F2.1 Vb (w109 hw)
  have nRS : sb ≠ ta2 := Exa.neArv Es F2.2.2.2 (w10 hw)
  show Go p e below _ (T0.setTop (mkF m 0 #[.val (.ref x), .val (.int pp), .val (.int qq), .val (.int oo), .val (.ref a1), .val (.ref a2), .unset] []))
  refine s_aloadN S0 (hb hby dAX1_0) rfl rfl (pc' := 1) rfl ?_
  refine g_getF S0 (w29 hw) Via.refl Ft (hb hby dAX1_1) ?_
  intro T325 ST325
  show Go p e below _ (T325.setTop (mkF m 4 #[.val (.ref x), .val (.int pp), .val (.int qq), .val (.int oo), .val (.ref a1), .val (.ref a2), .unset] [(.ref sb)]))
  refine s_aload ST325 (hb hby dAX1_4) rfl rfl (pc' := 6) rfl ?_
  show Go p e below _ (T325.setTop (mkF m 6 #[.val (.ref x), .val (.int pp), .val (.int qq), .val (.int oo), .val (.ref a1), .val (.ref a2), .unset] [(.ref a1), (.ref sb)]))
  refine g_virtual ST325 (rmSS X ns nb ST325.old Es Fv Fk Fs F1 Vb h0 h1 (by omega) hbl) (sf1 Vb.lt (hsf tb List.mem_cons_self)) (w119 hw) (w120 hw) (w122 hw) (w121 hw) (w11 hw) (w123 hw) (by decide) (fun _ h => notFace_of_selects h) (hb hby dAX1_6) (by rw [hml]; rfl) sb Es [(.ref a1)] (lenOf pd16 rfl) rfl rfl (Nat.le_of_ble_eq_true rfl) (Nat.le_of_ble_eq_true rfl) (Nat.le_of_ble_eq_true rfl) (Nat.le_of_ble_eq_true rfl) ?_
  intro v326 T326 V326 h326 S326 C326 q326
  obtain ⟨rfl, sc1, bs1, K1, E1_, Fa1, Fb1, Fc1, V1, lb1, ls1⟩ := q326
  have sf327 := C326.safe Vb.lt (hsf tb List.mem_cons_self)
  show Go p e below _ (T326.setTop (mkF m 9 #[.val (.ref x), .val (.int pp), .val (.int qq), .val (.int oo), .val (.ref a1), .val (.ref a2), .unset] [(.ref sb)]))
  refine s_pop S326 (hb hby dAX1_9) rfl (pc' := 10) rfl ?_
  refine s_aloadN S326 (hb hby dAX1_10) rfl rfl (pc' := 11) rfl ?_
  have F328 := Ft.keep K1 (ninS nXS (ninS nXB nin0))
  refine g_getF S326 (w29 hw) Via.refl F328 (hb hby dAX1_11) ?_
  intro T329 ST329
  show Go p e below _ (T329.setTop (mkF m 14 #[.val (.ref x), .val (.int pp), .val (.int qq), .val (.int oo), .val (.ref a1), .val (.ref a2), .unset] [(.ref sb)]))
  show Go p e below _ (T329.setTop (mkF m 14 #[.val (.ref x), .val (.int pp), .val (.int qq), .val (.int oo), .val (.ref a1), .val (.ref a2), .unset] [(.ref sb)]))
  refine g_virtual ST329 (rmSL X ST329.old E1_ Fa1 Fb1 Fc1) (fun _ q => nomatch q) (w99 hw) (w100 hw) (w102 hw) (w101 hw) (w11 hw) (w103 hw) (by decide) (fun _ h => notFace_of_selects h) (hb hby dAX1_14) (by rw [hml]; rfl) sb E1_ [] (lenOf pd1 rfl) rfl rfl (Nat.le_of_ble_eq_true rfl) (Nat.le_of_ble_eq_true rfl) (Nat.le_of_ble_eq_true rfl) (Nat.le_of_ble_eq_true rfl) ?_
  intro v330 T330 V330 h330 S330 C330 q330
  obtain ⟨rfl, rfl⟩ := q330
  have sf331 := C330.safe (Nat.lt_of_lt_of_le Vb.lt (Nat.le_trans (Nat.le_refl _) K1.1)) sf327
  show Go p e below _ (T330.setTop (mkF m 17 #[.val (.ref x), .val (.int pp), .val (.int qq), .val (.int oo), .val (.ref a1), .val (.ref a2), .unset] [(.int sc1)]))
  refine s_istore S330 (hb hby dAX1_17) (L' := #[.val (.ref x), .val (.int pp), .val (.int qq), .val (.int oo), .val (.ref a1), .val (.ref a2), .val (.int sc1)]) rfl (pc' := 19) rfl ?_
  refine s_aloadN S330 (hb hby dAX1_19) rfl rfl (pc' := 20) rfl ?_
  refine g_getF S330 (w29 hw) Via.refl F328 (hb hby dAX1_20) ?_
  intro T332 ST332
  show Go p e below _ (T332.setTop (mkF m 23 #[.val (.ref x), .val (.int pp), .val (.int qq), .val (.int oo), .val (.ref a1), .val (.ref a2), .val (.int sc1)] [(.ref sb)]))
  refine s_aload ST332 (hb hby dAX1_23) rfl rfl (pc' := 25) rfl ?_
  have F333 := F2.1.keep K1
  have F334 := F2.2.1.keep K1 (ninS nAS (ninS nAB nin0))
  have F335 := F2.2.2.1.keep K1 (ninS nAS (ninS nAB nin0))
  have F336 := F2.2.2.2.keep K1 (ninS (Ne.symm nRS) (ninS ne2 nin0))
  show Go p e below _ (T332.setTop (mkF m 25 #[.val (.ref x), .val (.int pp), .val (.int qq), .val (.int oo), .val (.ref a1), .val (.ref a2), .val (.int sc1)] [(.ref a2), (.ref sb)]))
  refine g_virtual ST332 (rmSS X ns nb ST332.old E1_ Fa1 Fb1 Fc1 ⟨F333, F334, F335, F336⟩ V1 (by omega) h2 (by omega) lb1) (sf1 V1.lt sf331) (w119 hw) (w120 hw) (w122 hw) (w121 hw) (w11 hw) (w123 hw) (by decide) (fun _ h => notFace_of_selects h) (hb hby dAX1_25) (by rw [hml]; rfl) sb E1_ [(.ref a2)] (lenOf pd16 rfl) rfl rfl (Nat.le_of_ble_eq_true rfl) (Nat.le_of_ble_eq_true rfl) (Nat.le_of_ble_eq_true rfl) (Nat.le_of_ble_eq_true rfl) ?_
  intro v337 T337 V337 h337 S337 C337 q337
  obtain ⟨rfl, sc2, bs2, K2, E2_, Fa2, Fb2, Fc2, V2, lb2, ls2⟩ := q337
  have sf338 := C337.safe (Nat.lt_of_lt_of_le Vb.lt (Nat.le_trans (Nat.le_refl _) K1.1)) sf331
  show Go p e below _ (T337.setTop (mkF m 28 #[.val (.ref x), .val (.int pp), .val (.int qq), .val (.int oo), .val (.ref a1), .val (.ref a2), .val (.int sc1)] [(.ref sb)]))
  refine s_pop S337 (hb hby dAX1_28) rfl (pc' := 29) rfl ?_
  refine s_aloadN S337 (hb hby dAX1_29) rfl rfl (pc' := 30) rfl ?_
  refine s_iloadN S337 (hb hby dAX1_30) rfl (pc' := 31) rfl ?_
  refine s_iloadN S337 (hb hby dAX1_31) rfl (pc' := 32) rfl ?_
  refine s_iloadN S337 (hb hby dAX1_32) rfl (pc' := 33) rfl ?_
  refine s_iload S337 (hb hby dAX1_33) rfl (pc' := 35) rfl ?_
  have F339 := Ex.keep K1
  have F340 := F339.keep K2
  have F341 := F328.keep K2 (ninS nXS (ninS nXB nin0))
  have F342 := Fb.keep K1 (ninS nXS (ninS nXB nin0))
  have F343 := F342.keep K2 (ninS nXS (ninS nXB nin0))
  have F344 := Fn.keep K1 (ninS nXS (ninS nXB nin0))
  have F345 := F344.keep K2 (ninS nXS (ninS nXB nin0))
  have F346 := Vt.keep K1 (ninS (Ne.symm nST) (ninS nTB nin0))
  have F347 := F346.keep K2 (ninS (Ne.symm nST) (ninS nTB nin0))
  show Go p e below _ (T337.setTop (mkF m 35 #[.val (.ref x), .val (.int pp), .val (.int qq), .val (.int oo), .val (.ref a1), .val (.ref a2), .val (.int sc1)] [(.int sc1), (.int oo), (.int qq), (.int pp), (.ref x)]))
  refine g_private S337 (rmAD1 X pp qq oo sc1 S337.old ⟨F340, F341, F343, F345, F347, ⟨E2_, Fa2, Fb2, Fc2, V2⟩, nx, ns, nb, nt⟩) (fun _ q => nomatch q) (w80 hw) (ni_inst (w1 hw)) (w82 hw) (w81 hw) (w2 hw) (w83 hw) (by decide) (hb hby dAX1_35) (by rw [hml]; rfl) x F340 [(.int pp), (.int qq), (.int oo), (.int sc1)] (lenOf pd10 rfl) rfl rfl (Nat.le_of_ble_eq_true rfl) (Nat.le_of_ble_eq_true rfl) (Nat.le_of_ble_eq_true rfl) (Nat.le_of_ble_eq_true rfl) ?_
  intro v348 T348 V348 h348 S348 C348 q348
  obtain ⟨rfl, K9, A9⟩ := q348
  have sf349 := C348.safe (Nat.lt_of_lt_of_le Vb.lt (Nat.le_trans (Nat.le_trans (Nat.le_refl _) K1.1) K2.1)) sf338
  show Go p e below _ (T348.setTop (mkF m 38 #[.val (.ref x), .val (.int pp), .val (.int qq), .val (.int oo), .val (.ref a1), .val (.ref a2), .val (.int sc1)] []))
  exact g_ret S348 (hb hby dAX1_38) hret ⟨rfl, t, kt, sc1, sc2, sc2, bs2, A9, by omega, by omega, lb2⟩
theorem dCB_0 : decode jdk_65_method_121_code 0 = .ok (.iload_n 1, 1) := by decide +kernel
theorem dCB_1 : decode jdk_65_method_121_code 1 = .ok (.aload_n 0, 1) := by decide +kernel
theorem dCB_2 : decode jdk_65_method_121_code 2 = .ok (.arraylength, 1) := by decide +kernel
theorem dCB_3 : decode jdk_65_method_121_code 3 = .ok (.if_icmp .ne 11, 3) := by decide +kernel
theorem dCB_14 : decode jdk_65_method_121_code 14 = .ok (.iload_n 1, 1) := by decide +kernel
theorem dCB_15 : decode jdk_65_method_121_code 15 = .ok (.newarray .byte, 2) := by decide +kernel
theorem dCB_17 : decode jdk_65_method_121_code 17 = .ok (.astore_n 2, 1) := by decide +kernel
theorem dCB_18 : decode jdk_65_method_121_code 18 = .ok (.aload_n 0, 1) := by decide +kernel
theorem dCB_19 : decode jdk_65_method_121_code 19 = .ok (.iconst 0, 1) := by decide +kernel
theorem dCB_20 : decode jdk_65_method_121_code 20 = .ok (.aload_n 2, 1) := by decide +kernel
theorem dCB_21 : decode jdk_65_method_121_code 21 = .ok (.iconst 0, 1) := by decide +kernel
theorem dCB_22 : decode jdk_65_method_121_code 22 = .ok (.aload_n 0, 1) := by decide +kernel
theorem dCB_23 : decode jdk_65_method_121_code 23 = .ok (.arraylength, 1) := by decide +kernel
theorem dCB_24 : decode jdk_65_method_121_code 24 = .ok (.iload_n 1, 1) := by decide +kernel
theorem dCB_25 : decode jdk_65_method_121_code 25 = .ok (.invokestatic 304, 3) := by decide +kernel
theorem dCB_28 : decode jdk_65_method_121_code 28 = .ok (.invokestatic 150, 3) := by decide +kernel
theorem dCB_31 : decode jdk_65_method_121_code 31 = .ok (.aload_n 2, 1) := by decide +kernel
theorem dCB_32 : decode jdk_65_method_121_code 32 = .ok (.areturn, 1) := by decide +kernel
set_option maxRecDepth 65536 in
set_option maxHeartbeats 40000000 in
theorem rmCB {l : Launch} {Z : State} {a0 : Array Value} {n0 : Nat} (X : Ctx Z a0) {tb : Addr} {kb : ClassId} {sc : Int32} {bs : List Value} {dv : Value} {h : Heap} (hO : Old Z n0 h) (Vb : Arv Z h tb kb .byte (16 : Int32) bs dv) (h0 : 0 ≤ sc.toInt) (h1 : sc.toInt < 16) :
    Ctr l Z EL1 n0 (⟨"java/util/Arrays", "copyOf", "([BI)[B"⟩ : MethodName) jdk_65_method_121_code 3 (some (.array .byte)) ({ frames := 1, cells := 1, slots := 16, locals := 18 } : Room) #[(.ref tb), (.int sc)] h [] (fun v h' => ∃ u, v = some (.ref u) ∧ Ext h h') := by
  have hw := X.hw
  obtain ⟨z1, hz1, hz2⟩ := X.2.2.1
  refine Ctr.intro (a0 := a0) (plainFor_of_name pn4) hO X.ew ?_
  intro p e s m below meth c T0 V0 S0 hby hml hret hnm hsf
  rw [ef5]
  refine s_iloadN S0 (hb hby dCB_0) rfl (pc' := 1) rfl ?_
  refine s_aloadN S0 (hb hby dCB_1) rfl rfl (pc' := 2) rfl ?_
  refine g_len S0 Vb (hb hby dCB_2) ?_
  show Go p e below _ (T0.setTop (mkF m 3 #[.val (.ref tb), .val (.int sc), .unset] [(.int (16 : Int32)), (.int sc)]))
  refine s_icmpY S0 (hb hby dCB_3) ((feq (own_ne16 h1)).2) (by decide) (pcT := 14) (by decide) ?_
  refine s_iloadN S0 (hb hby dCB_14) rfl (pc' := 15) rfl ?_
  show Go p e below _ (T0.setTop (mkF m 15 #[.val (.ref tb), .val (.int sc), .unset] [(.int sc)]))
  refine g_newarr (aty := .byte) S0 (w24 hw) (hb hby dCB_15) (own_nn h0) (cap := 16) (by have e := own_nat h0; omega) (by decide) (Nat.le_of_ble_eq_true rfl) (Nat.le_of_ble_eq_true rfl) ?_
  intro T5 h5 u ku S5 E5 fr5 lt5 na5 sf5 A5
  have V5 := A5 16
  show Go p e below _ (T5.setTop (mkF m 17 #[.val (.ref tb), .val (.int sc), .unset] [(.ref u)]))
  refine s_astoreN S5 (hb hby dCB_17) rfl (L' := #[.val (.ref tb), .val (.int sc), .val (.ref u)]) rfl (pc' := 18) rfl ?_
  refine s_aloadN S5 (hb hby dCB_18) rfl rfl (pc' := 19) rfl ?_
  refine s_iconst S5 (hb hby dCB_19) (v := (0 : Int32)) rfl (pc' := 20) rfl ?_
  refine s_aloadN S5 (hb hby dCB_20) rfl rfl (pc' := 21) rfl ?_
  refine s_iconst S5 (hb hby dCB_21) (v := (0 : Int32)) rfl (pc' := 22) rfl ?_
  refine s_aloadN S5 (hb hby dCB_22) rfl rfl (pc' := 23) rfl ?_
  have Vb350 := Vb.ext E5
  refine g_len S5 Vb350 (hb hby dCB_23) ?_
  show Go p e below _ (T5.setTop (mkF m 24 #[.val (.ref tb), .val (.int sc), .val (.ref u)] [(.int (16 : Int32)), (.int (0 : Int32)), (.ref u), (.int (0 : Int32)), (.ref tb)]))
  refine s_iloadN S5 (hb hby dCB_24) rfl (pc' := 25) rfl ?_
  show Go p e below _ (T5.setTop (mkF m 25 #[.val (.ref tb), .val (.int sc), .val (.ref u)] [(.int sc), (.int (16 : Int32)), (.int (0 : Int32)), (.ref u), (.int (0 : Int32)), (.ref tb)]))
  refine g_static S5 (rmMN X (z := sc) (by rw [if_pos (own_lt16 h1)]) S5.old) (fun _ q => nomatch q) (w92 hw) (w93 hw) (w86 hw) (w94 hw) (by decide) (hb hby dCB_25) (by rw [hml]; rfl) [(.int (16 : Int32)), (.int sc)] (lenOf pd7 rfl) rfl rfl (Nat.le_of_ble_eq_true rfl) (Nat.le_of_ble_eq_true rfl) (Nat.le_of_ble_eq_true rfl) (Nat.le_of_ble_eq_true rfl) ?_
  intro v351 T351 V351 h351 S351 C351 q351
  obtain ⟨rfl, rfl⟩ := q351
  have sf352 := C351.safe lt5 sf5
  show Go p e below _ (T351.setTop (mkF m 28 #[.val (.ref tb), .val (.int sc), .val (.ref u)] [(.int sc), (.int (0 : Int32)), (.ref u), (.int (0 : Int32)), (.ref tb)]))
  show Go p e below _ (T351.setTop (mkF m 28 #[.val (.ref tb), .val (.int sc), .val (.ref u)] [(.int sc), (.int (0 : Int32)), (.ref u), (.int (0 : Int32)), (.ref tb)]))
  refine g_copy S351 (w95 hw) (w98 hw) (w96 hw) (w97 hw) Vb350 V5 rfl (by decide) (by decide) (own_nn h0) (by have e := own_nat h0; show 0 + _ ≤ 16; omega) (by show 0 + _ ≤ _; omega) rfl (by have e := own_nat h0; rw [List.length_replicate]; show 0 + _ ≤ _; omega) na5 sf352 (hb hby dCB_28) (by rw [hml]; rfl) (Nat.le_of_ble_eq_true rfl) (by decide) ?_
  intro T9 h9 S9 K9 V9 sg9
  show Go p e below _ (T9.setTop (mkF m 31 #[.val (.ref tb), .val (.int sc), .val (.ref u)] []))
  refine s_aloadN S9 (hb hby dCB_31) rfl rfl (pc' := 32) rfl ?_
  show Go p e below _ (T9.setTop (mkF m 32 #[.val (.ref tb), .val (.int sc), .val (.ref u)] [(.ref u)]))
  have X353 : Ext h h9 := ext_keep1 E5 K9 fr5
  exact g_aret S9 (hb hby dCB_32) hret rfl rfl rfl ⟨u, rfl, X353⟩
theorem dTR_0 : decode jdk_68_method_12_code 0 = .ok (.aload_n 0, 1) := by decide +kernel
theorem dTR_1 : decode jdk_68_method_12_code 1 = .ok (.getfield 79, 3) := by decide +kernel
theorem dTR_4 : decode jdk_68_method_12_code 4 = .ok (.aload_n 0, 1) := by decide +kernel
theorem dTR_5 : decode jdk_68_method_12_code 5 = .ok (.getfield 22, 3) := by decide +kernel
theorem dTR_8 : decode jdk_68_method_12_code 8 = .ok (.ishl, 1) := by decide +kernel
theorem dTR_9 : decode jdk_68_method_12_code 9 = .ok (.istore_n 1, 1) := by decide +kernel
theorem dTR_10 : decode jdk_68_method_12_code 10 = .ok (.iload_n 1, 1) := by decide +kernel
theorem dTR_11 : decode jdk_68_method_12_code 11 = .ok (.aload_n 0, 1) := by decide +kernel
theorem dTR_12 : decode jdk_68_method_12_code 12 = .ok (.getfield 15, 3) := by decide +kernel
theorem dTR_15 : decode jdk_68_method_12_code 15 = .ok (.arraylength, 1) := by decide +kernel
theorem dTR_16 : decode jdk_68_method_12_code 16 = .ok (.if_icmp .ge 15, 3) := by decide +kernel
theorem dTR_19 : decode jdk_68_method_12_code 19 = .ok (.aload_n 0, 1) := by decide +kernel
theorem dTR_20 : decode jdk_68_method_12_code 20 = .ok (.aload_n 0, 1) := by decide +kernel
theorem dTR_21 : decode jdk_68_method_12_code 21 = .ok (.getfield 15, 3) := by decide +kernel
theorem dTR_24 : decode jdk_68_method_12_code 24 = .ok (.iload_n 1, 1) := by decide +kernel
theorem dTR_25 : decode jdk_68_method_12_code 25 = .ok (.invokestatic 108, 3) := by decide +kernel
theorem dTR_28 : decode jdk_68_method_12_code 28 = .ok (.putfield 15, 3) := by decide +kernel
theorem dTR_31 : decode jdk_68_method_12_code 31 = .ok (.return_, 1) := by decide +kernel
set_option maxRecDepth 65536 in
set_option maxHeartbeats 40000000 in
theorem rmTR {l : Launch} {Z : State} {a0 : Array Value} {n0 : Nat} (X : Ctx Z a0) {x tb : Addr} {kb : ClassId} {sc : Int32} {bs : List Value} (na : n0 ≤ x) {h : Heap} (hO : Old Z n0 h) (Ex : Exa Z h x "java/lang/StringBuilder") (Fv : Fld Z h x "java/lang/AbstractStringBuilder" "value" "[B" (.ref tb)) (Fk : Fld Z h x "java/lang/AbstractStringBuilder" "coder" "B" (.int (0 : Int32))) (Fs : Fld Z h x "java/lang/AbstractStringBuilder" "count" "I" (.int sc)) (Vb : Arv Z h tb kb .byte (16 : Int32) bs (.int (0 : Int32))) (h0 : 0 ≤ sc.toInt) (h1 : sc.toInt < 16) :
    Ctr l Z EL1 n0 (⟨"java/lang/AbstractStringBuilder", "trimToSize", "()V"⟩ : MethodName) jdk_68_method_12_code 2 none ({ frames := 2, cells := 1, slots := 16, locals := 33 } : Room) #[(.ref x)] h [] (fun v h' => v = none ∧ Keep h h' [x]) := by
  have hw := X.hw
  obtain ⟨z1, hz1, hz2⟩ := X.2.2.1
  refine Ctr.intro (a0 := a0) (plainFor_of_name pn0) hO X.ew ?_
  intro p e s m below meth c T0 V0 S0 hby hml hret hnm hsf
  rw [ef15]
  refine s_aloadN S0 (hb hby dTR_0) rfl rfl (pc' := 1) rfl ?_
  refine g_getF S0 (w63 hw) Via.refl Fs (hb hby dTR_1) ?_
  intro T354 ST354
  show Go p e below _ (T354.setTop (mkF m 4 #[.val (.ref x), .unset] [(.int sc)]))
  refine s_aloadN ST354 (hb hby dTR_4) rfl rfl (pc' := 5) rfl ?_
  refine g_getF ST354 (w27 hw) Via.refl Fk (hb hby dTR_5) ?_
  intro T355 ST355
  show Go p e below _ (T355.setTop (mkF m 8 #[.val (.ref x), .unset] [(.int (0 : Int32)), (.int sc)]))
  refine s_ishl ST355 (hb hby dTR_8) (z := sc) (own_shl0 sc) (pc' := 9) rfl ?_
  refine s_istoreN ST355 (hb hby dTR_9) (L' := #[.val (.ref x), .val (.int sc)]) rfl (pc' := 10) rfl ?_
  refine s_iloadN ST355 (hb hby dTR_10) rfl (pc' := 11) rfl ?_
  refine s_aloadN ST355 (hb hby dTR_11) rfl rfl (pc' := 12) rfl ?_
  refine g_getF ST355 (w25 hw) Via.refl Fv (hb hby dTR_12) ?_
  intro T356 ST356
  show Go p e below _ (T356.setTop (mkF m 15 #[.val (.ref x), .val (.int sc)] [(.ref tb), (.int sc)]))
  refine g_len ST356 Vb (hb hby dTR_15) ?_
  show Go p e below _ (T356.setTop (mkF m 16 #[.val (.ref x), .val (.int sc)] [(.int (16 : Int32)), (.int sc)]))
  refine s_icmpN ST356 (hb hby dTR_16) ((tlt (own_lt16 h1)).2.1) (pc' := 19) rfl ?_
  refine s_aloadN ST356 (hb hby dTR_19) rfl rfl (pc' := 20) rfl ?_
  refine s_aloadN ST356 (hb hby dTR_20) rfl rfl (pc' := 21) rfl ?_
  refine g_getF ST356 (w25 hw) Via.refl Fv (hb hby dTR_21) ?_
  intro T357 ST357
  show Go p e below _ (T357.setTop (mkF m 24 #[.val (.ref x), .val (.int sc)] [(.ref tb), (.ref x)]))
  refine s_iloadN ST357 (hb hby dTR_24) rfl (pc' := 25) rfl ?_
  show Go p e below _ (T357.setTop (mkF m 25 #[.val (.ref x), .val (.int sc)] [(.int sc), (.ref tb), (.ref x)]))
  refine g_static ST357 (rmCB X ST357.old Vb h0 h1) (fun _ q => nomatch q) (w172 hw) (w173 hw) (w90 hw) (w174 hw) (by decide) (hb hby dTR_25) (by rw [hml]; rfl) [(.ref tb), (.int sc)] (lenOf pd17 rfl) rfl rfl (Nat.le_of_ble_eq_true rfl) (Nat.le_of_ble_eq_true rfl) (Nat.le_of_ble_eq_true rfl) (Nat.le_of_ble_eq_true rfl) ?_
  intro v358 T358 V358 h358 S358 C358 q358
  obtain ⟨u, rfl, Eu⟩ := q358
  show Go p e below _ (T358.setTop (mkF m 28 #[.val (.ref x), .val (.int sc)] [(.ref u), (.ref x)]))
  show Go p e below _ (T358.setTop (mkF m 28 #[.val (.ref x), .val (.int sc)] [(.ref u), (.ref x)]))
  have Fv360 := Fv.ext Eu
  have Ex361 := Ex.ext Eu
  have Fk362 := Fk.ext Eu
  have Fs363 := Fs.ext Eu
  refine g_putF S358 (w25 hw) Via.refl Fv360 Ex361 (Or.inl (w26 hw)) (w10 hw) (ty := (.array .byte)) (v' := (.ref u)) (by decide) rfl rfl na (Safe.exa S358.warm.alike Ex361 (by decide) (by decide)) (hb hby dTR_28) ?_
  intro T359 h359 S359 K359 W359 A359 F359 sg359
  have F364 := Fk362.other W359 (Or.inr (slot_ne (Or.inl (w28 hw)) (Or.inl (w26 hw)) (by decide) (t := .byte) (t' := (.array .byte)) (by decide) (by decide)))
  have F365 := Fs363.other W359 (Or.inr (slot_ne (Or.inl (w64 hw)) (Or.inl (w26 hw)) (by decide) (t := .int) (t' := (.array .byte)) (by decide) (by decide)))
  show Go p e below _ (T359.setTop (mkF m 31 #[.val (.ref x), .val (.int sc)] []))
  show Go p e below _ (T359.setTop (mkF m 31 #[.val (.ref x), .val (.int sc)] []))
  have KA366 : Keep h h359 [x] := (((Keep.refl h [x]).ext Eu).trans K359 (fun y hy => Or.inl hy))
  exact g_ret S359 (hb hby dTR_31) hret ⟨rfl, KA366⟩
theorem dTS_0 : decode jdk_67_method_90_code 0 = .ok (.aload_n 0, 1) := by decide +kernel
theorem dTS_1 : decode jdk_67_method_90_code 1 = .ok (.invokespecial 336, 3) := by decide +kernel
theorem dTS_4 : decode jdk_67_method_90_code 4 = .ok (.return_, 1) := by decide +kernel
set_option maxRecDepth 65536 in
set_option maxHeartbeats 40000000 in
theorem rmTS {l : Launch} {Z : State} {a0 : Array Value} {n0 : Nat} (X : Ctx Z a0) {x tb : Addr} {kb : ClassId} {sc : Int32} {bs : List Value} (na : n0 ≤ x) {h : Heap} (hO : Old Z n0 h) (Ex : Exa Z h x "java/lang/StringBuilder") (Fv : Fld Z h x "java/lang/AbstractStringBuilder" "value" "[B" (.ref tb)) (Fk : Fld Z h x "java/lang/AbstractStringBuilder" "coder" "B" (.int (0 : Int32))) (Fs : Fld Z h x "java/lang/AbstractStringBuilder" "count" "I" (.int sc)) (Vb : Arv Z h tb kb .byte (16 : Int32) bs (.int (0 : Int32))) (h0 : 0 ≤ sc.toInt) (h1 : sc.toInt < 16) :
    Ctr l Z EL1 n0 (⟨"java/lang/StringBuilder", "trimToSize", "()V"⟩ : MethodName) jdk_67_method_90_code 1 none ({ frames := 3, cells := 1, slots := 16, locals := 46 } : Room) #[(.ref x)] h [] (fun v h' => v = none ∧ Keep h h' [x]) := by
  have hw := X.hw
  obtain ⟨z1, hz1, hz2⟩ := X.2.2.1
  refine Ctr.intro (a0 := a0) (plainFor_of_name pn1) hO X.ew ?_
  intro p e s m below meth c T0 V0 S0 hby hml hret hnm hsf
  rw [ef2]
  refine s_aloadN S0 (hb hby dTS_0) rfl rfl (pc' := 1) rfl ?_
  show Go p e below _ (T0.setTop (mkF m 1 #[.val (.ref x)] [(.ref x)]))
  refine g_super S0 (rmTR X na S0.old Ex Fv Fk Fs Vb h0 h1) (fun _ q => nomatch q) (by decide) (w168 hw) (ni_sel (w68 hw) rfl) (w169 hw) (w54 hw) (w19 hw) (w171 hw) (by decide) (hb hby dTS_1) (by rw [hml]; rfl) x Ex [] (lenOf pd6 rfl) rfl rfl (Nat.le_of_ble_eq_true rfl) (Nat.le_of_ble_eq_true rfl) (Nat.le_of_ble_eq_true rfl) (Nat.le_of_ble_eq_true rfl) ?_
  intro v367 T367 V367 h367 S367 C367 q367
  obtain ⟨rfl, K1⟩ := q367
  show Go p e below _ (T367.setTop (mkF m 4 #[.val (.ref x)] []))
  exact g_ret S367 (hb hby dTS_4) hret ⟨rfl, K1⟩
theorem dCJ0_0 : decode jdk_65_method_123_code 0 = .ok (.iload_n 1, 1) := by decide +kernel
theorem dCJ0_1 : decode jdk_65_method_123_code 1 = .ok (.aload_n 0, 1) := by decide +kernel
theorem dCJ0_2 : decode jdk_65_method_123_code 2 = .ok (.arraylength, 1) := by decide +kernel
theorem dCJ0_3 : decode jdk_65_method_123_code 3 = .ok (.if_icmp .ne 11, 3) := by decide +kernel
theorem dCJ0_6 : decode jdk_65_method_123_code 6 = .ok (.aload_n 0, 1) := by decide +kernel
theorem dCJ0_7 : decode jdk_65_method_123_code 7 = .ok (.invokevirtual 316, 3) := by decide +kernel
theorem dCJ0_10 : decode jdk_65_method_123_code 10 = .ok (.checkcast 317, 3) := by decide +kernel
theorem dCJ0_13 : decode jdk_65_method_123_code 13 = .ok (.areturn, 1) := by decide +kernel
set_option maxRecDepth 65536 in
set_option maxHeartbeats 40000000 in
theorem rmCJ0 {l : Launch} {Z : State} {a0 : Array Value} {n0 : Nat} (X : Ctx Z a0) {t : Addr} {kt : ClassId} {h : Heap} (hO : Old Z n0 h) (Vt : Arv Z h t kt .int (0 : Int32) [] (.int (0 : Int32))) (Et : Exa Z h t "[I") :
    Ctr l Z EL1 n0 (⟨"java/util/Arrays", "copyOf", "([II)[I"⟩ : MethodName) jdk_65_method_123_code 3 (some (.array .int)) ({ frames := 1, cells := 1, slots := 0, locals := 18 } : Room) #[(.ref t), (.int (0 : Int32))] h [] (fun v h' => ∃ u ku, v = some (.ref u) ∧ Ext h h' ∧ Arv Z h' u ku .int (0 : Int32) [] (.int (0 : Int32))) := by
  have hw := X.hw
  obtain ⟨z1, hz1, hz2⟩ := X.2.2.1
  refine Ctr.intro (a0 := a0) (plainFor_of_name pn4) hO X.ew ?_
  intro p e s m below meth c T0 V0 S0 hby hml hret hnm hsf
  rw [ef5]
  refine s_iloadN S0 (hb hby dCJ0_0) rfl (pc' := 1) rfl ?_
  refine s_aloadN S0 (hb hby dCJ0_1) rfl rfl (pc' := 2) rfl ?_
  refine g_len S0 Vt (hb hby dCJ0_2) ?_
  show Go p e below _ (T0.setTop (mkF m 3 #[.val (.ref t), .val (.int (0 : Int32)), .unset] [(.int (0 : Int32)), (.int (0 : Int32))]))
  refine s_icmpN S0 (hb hby dCJ0_3) (by decide) (pc' := 6) rfl ?_
  refine s_aloadN S0 (hb hby dCJ0_6) rfl rfl (pc' := 7) rfl ?_
  show Go p e below _ (T0.setTop (mkF m 7 #[.val (.ref t), .val (.int (0 : Int32)), .unset] [(.ref t)]))
  refine g_clone (ad := "[I") S0 (w175 hw) (w176 hw) (w180 hw) (w178 hw) (w179 hw) (w181 hw) Vt Et (by rw [hml]; rfl) (hb hby dCJ0_7) (Nat.le_of_ble_eq_true rfl) (Nat.le_of_ble_eq_true rfl) (cap := 0) (by decide) (Nat.le_of_ble_eq_true rfl) (Nat.le_of_ble_eq_true rfl) ?_
  intro T5 h5 u S5 E5 fr5 na5 V5 EA5
  show Go p e below _ (T5.setTop (mkF m 10 #[.val (.ref t), .val (.int (0 : Int32)), .unset] [(.ref u)]))
  show Go p e below _ (T5.setTop (mkF m 10 #[.val (.ref t), .val (.int (0 : Int32)), .unset] [(.ref u)]))
  refine g_cast S5 (w182 hw) (Ins.of_exa EA5 (w183 hw)) (hb hby dCJ0_10) ?_
  intro T6 S6
  show Go p e below _ (T6.setTop (mkF m 13 #[.val (.ref t), .val (.int (0 : Int32)), .unset] [(.ref u)]))
  exact g_aret S6 (hb hby dCJ0_13) hret rfl rfl rfl ⟨u, kt, rfl, E5, V5⟩
theorem dCL0_0 : decode prog_3_method_4_code 0 = .ok (.aload_n 0, 1) := by decide +kernel
theorem dCL0_1 : decode prog_3_method_4_code 1 = .ok (.getfield 10, 3) := by decide +kernel
theorem dCL0_4 : decode prog_3_method_4_code 4 = .ok (.invokevirtual 35, 3) := by decide +kernel
theorem dCL0_7 : decode prog_3_method_4_code 7 = .ok (.aload_n 0, 1) := by decide +kernel
theorem dCL0_8 : decode prog_3_method_4_code 8 = .ok (.aload_n 0, 1) := by decide +kernel
theorem dCL0_9 : decode prog_3_method_4_code 9 = .ok (.getfield 16, 3) := by decide +kernel
theorem dCL0_12 : decode prog_3_method_4_code 12 = .ok (.aload_n 0, 1) := by decide +kernel
theorem dCL0_13 : decode prog_3_method_4_code 13 = .ok (.getfield 38, 3) := by decide +kernel
theorem dCL0_16 : decode prog_3_method_4_code 16 = .ok (.iconst 5, 1) := by decide +kernel
theorem dCL0_17 : decode prog_3_method_4_code 17 = .ok (.imul, 1) := by decide +kernel
theorem dCL0_18 : decode prog_3_method_4_code 18 = .ok (.invokestatic 42, 3) := by decide +kernel
theorem dCL0_21 : decode prog_3_method_4_code 21 = .ok (.putfield 16, 3) := by decide +kernel
theorem dCL0_24 : decode prog_3_method_4_code 24 = .ok (.return_, 1) := by decide +kernel
set_option maxRecDepth 65536 in
set_option maxHeartbeats 40000000 in
theorem rmCL0 {l : Launch} {Z : State} {a0 : Array Value} {n0 : Nat} (X : Ctx Z a0) {x sb tb t : Addr} {kb kt : ClassId} {sc : Int32} {bs : List Value} {h : Heap} (hO : Old Z n0 h) (A : AS Z h n0 x sb tb t kb kt (0 : Int32) (0 : Int32) [] (16 : Int32) sc bs) (h0 : 0 ≤ sc.toInt) (h1 : sc.toInt < 16) (Et : Exa Z h t "[I") :
    Ctr l Z EL1 n0 (⟨"com/example/nodewarden/nodewarden/core/Asides", "close", "()V"⟩ : MethodName) prog_3_method_4_code 1 none ({ frames := 4, cells := 2, slots := 16, locals := 58 } : Room) #[(.ref x)] h [] (fun v h' => v = none ∧ ∃ (u : Addr) (ku : ClassId), Exa Z h' x "com/example/nodewarden/nodewarden/core/Asides" ∧ Fld Z h' x "com/example/nodewarden/nodewarden/core/Asides" "table" "[I" (.ref u) ∧ Fld Z h' x "com/example/nodewarden/nodewarden/core/Asides" "count" "I" (.int (0 : Int32)) ∧ Arv Z h' u ku .int (0 : Int32) [] (.int (0 : Int32))) := by
  have hw := X.hw
  obtain ⟨z1, hz1, hz2⟩ := X.2.2.1
  refine Ctr.intro (a0 := a0) (plainFor_of_name pn3) hO X.ew ?_
  intro p e s m below meth c T0 V0 S0 hby hml hret hnm hsf
  rw [ef2]
  obtain ⟨Ex, Ft, Fb, Fn, Vt, ⟨Es, Fv, Fk, Fs, Vb⟩, nx, ns, nb, nt⟩ := A
  have nXS : x ≠ sb := ne_exa Ex Es (by decide)
  have nXT : x ≠ t := Exa.neArv Ex Vt (w1 hw)
  have nXB : x ≠ tb := Exa.neArv Ex Vb (w1 hw)
  have nST : sb ≠ t := Exa.neArv Es Vt (w10 hw)
  have nSB : sb ≠ tb := Exa.neArv Es Vb (w10 hw)
  have nTB : t ≠ tb := arv_kne Vt Vb (by decide)
  show Go p e below _ (T0.setTop (mkF m 0 #[.val (.ref x)] []))
  refine s_aloadN S0 (hb hby dCL0_0) rfl rfl (pc' := 1) rfl ?_
  refine g_getF S0 (w29 hw) Via.refl Ft (hb hby dCL0_1) ?_
  intro T368 ST368
  show Go p e below _ (T368.setTop (mkF m 4 #[.val (.ref x)] [(.ref sb)]))
  show Go p e below _ (T368.setTop (mkF m 4 #[.val (.ref x)] [(.ref sb)]))
  refine g_virtual ST368 (rmTS X ns ST368.old Es Fv Fk Fs Vb h0 h1) (fun _ q => nomatch q) (w163 hw) (w164 hw) (w166 hw) (w165 hw) (w11 hw) (w167 hw) (by decide) (fun _ h => notFace_of_selects h) (hb hby dCL0_4) (by rw [hml]; rfl) sb Es [] (lenOf pd6 rfl) rfl rfl (Nat.le_of_ble_eq_true rfl) (Nat.le_of_ble_eq_true rfl) (Nat.le_of_ble_eq_true rfl) (Nat.le_of_ble_eq_true rfl) ?_
  intro v369 T369 V369 h369 S369 C369 q369
  obtain ⟨rfl, K1⟩ := q369
  show Go p e below _ (T369.setTop (mkF m 7 #[.val (.ref x)] []))
  refine s_aloadN S369 (hb hby dCL0_7) rfl rfl (pc' := 8) rfl ?_
  refine s_aloadN S369 (hb hby dCL0_8) rfl rfl (pc' := 9) rfl ?_
  have F370 := Fb.keep K1 (ninS nXS nin0)
  refine g_getF S369 (w32 hw) Via.refl F370 (hb hby dCL0_9) ?_
  intro T371 ST371
  show Go p e below _ (T371.setTop (mkF m 12 #[.val (.ref x)] [(.ref t), (.ref x)]))
  refine s_aloadN ST371 (hb hby dCL0_12) rfl rfl (pc' := 13) rfl ?_
  have F372 := Fn.keep K1 (ninS nXS nin0)
  refine g_getF ST371 (w40 hw) Via.refl F372 (hb hby dCL0_13) ?_
  intro T373 ST373
  show Go p e below _ (T373.setTop (mkF m 16 #[.val (.ref x)] [(.int (0 : Int32)), (.ref t), (.ref x)]))
  refine s_iconst ST373 (hb hby dCL0_16) (v := (5 : Int32)) rfl (pc' := 17) rfl ?_
  refine s_imul ST373 (hb hby dCL0_17) (z := (0 : Int32)) rfl (pc' := 18) rfl ?_
  have F374 := Vt.keep K1 (ninS (Ne.symm nST) nin0)
  show Go p e below _ (T373.setTop (mkF m 18 #[.val (.ref x)] [(.int (0 : Int32)), (.ref t), (.ref x)]))
  refine g_static ST373 (rmCJ0 X ST373.old F374 (Et.keep K1)) (fun _ q => nomatch q) (w88 hw) (w89 hw) (w90 hw) (w91 hw) (by decide) (hb hby dCL0_18) (by rw [hml]; rfl) [(.ref t), (.int (0 : Int32))] (lenOf pd8 rfl) rfl rfl (Nat.le_of_ble_eq_true rfl) (Nat.le_of_ble_eq_true rfl) (Nat.le_of_ble_eq_true rfl) (Nat.le_of_ble_eq_true rfl) ?_
  intro v375 T375 V375 h375 S375 C375 q375
  obtain ⟨u, ku, rfl, Eu, Vu⟩ := q375
  have F376 := Ex.keep K1
  have F377 := F376.ext Eu
  have nXU : x ≠ u := Exa.neArv F377 Vu (w1 hw)
  show Go p e below _ (T375.setTop (mkF m 21 #[.val (.ref x)] [(.ref u), (.ref x)]))
  show Go p e below _ (T375.setTop (mkF m 21 #[.val (.ref x)] [(.ref u), (.ref x)]))
  have F379 := F370.ext Eu
  have F380 := Ft.keep K1 (ninS nXS nin0)
  have F381 := F380.ext Eu
  have F382 := F372.ext Eu
  refine g_putF S375 (w32 hw) Via.refl F379 F377 (Or.inl (w33 hw)) (w1 hw) (ty := (.array .int)) (v' := (.ref u)) (by decide) rfl rfl nx (Safe.exa S375.warm.alike F377 (by decide) (by decide)) (hb hby dCL0_21) ?_
  intro T378 h378 S378 K378 W378 A378 F378 sg378
  have F383 := F381.other W378 (Or.inr (slot_ne (Or.inr (w30 hw)) (Or.inl (w33 hw)) (by decide) (t := (.object "java/lang/StringBuilder")) (t' := (.array .int)) (by decide) (by decide)))
  have F384 := F382.other W378 (Or.inr (slot_ne (Or.inl (w41 hw)) (Or.inl (w33 hw)) (by decide) (t := .int) (t' := (.array .int)) (by decide) (by decide)))
  show Go p e below _ (T378.setTop (mkF m 24 #[.val (.ref x)] []))
  show Go p e below _ (T378.setTop (mkF m 24 #[.val (.ref x)] []))
  have F385 := Vu.keep K378 (ninS (Ne.symm nXU) nin0)
  exact g_ret S378 (hb hby dCL0_24) hret ⟨rfl, u, ku, A378, F378, F384, F385⟩
theorem dCJ1_0 : decode jdk_65_method_123_code 0 = .ok (.iload_n 1, 1) := by decide +kernel
theorem dCJ1_1 : decode jdk_65_method_123_code 1 = .ok (.aload_n 0, 1) := by decide +kernel
theorem dCJ1_2 : decode jdk_65_method_123_code 2 = .ok (.arraylength, 1) := by decide +kernel
theorem dCJ1_3 : decode jdk_65_method_123_code 3 = .ok (.if_icmp .ne 11, 3) := by decide +kernel
theorem dCJ1_14 : decode jdk_65_method_123_code 14 = .ok (.iload_n 1, 1) := by decide +kernel
theorem dCJ1_15 : decode jdk_65_method_123_code 15 = .ok (.newarray .int, 2) := by decide +kernel
theorem dCJ1_17 : decode jdk_65_method_123_code 17 = .ok (.astore_n 2, 1) := by decide +kernel
theorem dCJ1_18 : decode jdk_65_method_123_code 18 = .ok (.aload_n 0, 1) := by decide +kernel
theorem dCJ1_19 : decode jdk_65_method_123_code 19 = .ok (.iconst 0, 1) := by decide +kernel
theorem dCJ1_20 : decode jdk_65_method_123_code 20 = .ok (.aload_n 2, 1) := by decide +kernel
theorem dCJ1_21 : decode jdk_65_method_123_code 21 = .ok (.iconst 0, 1) := by decide +kernel
theorem dCJ1_22 : decode jdk_65_method_123_code 22 = .ok (.aload_n 0, 1) := by decide +kernel
theorem dCJ1_23 : decode jdk_65_method_123_code 23 = .ok (.arraylength, 1) := by decide +kernel
theorem dCJ1_24 : decode jdk_65_method_123_code 24 = .ok (.iload_n 1, 1) := by decide +kernel
theorem dCJ1_25 : decode jdk_65_method_123_code 25 = .ok (.invokestatic 304, 3) := by decide +kernel
theorem dCJ1_28 : decode jdk_65_method_123_code 28 = .ok (.invokestatic 150, 3) := by decide +kernel
theorem dCJ1_31 : decode jdk_65_method_123_code 31 = .ok (.aload_n 2, 1) := by decide +kernel
theorem dCJ1_32 : decode jdk_65_method_123_code 32 = .ok (.areturn, 1) := by decide +kernel
set_option maxRecDepth 65536 in
set_option maxHeartbeats 40000000 in
theorem rmCJ1 {l : Launch} {Z : State} {a0 : Array Value} {n0 : Nat} (X : Ctx Z a0) {t : Addr} {kt : ClassId} {r0 r1 r2 r3 r4 : Int32} {h : Heap} (hO : Old Z n0 h) (Vt : Arv Z h t kt .int (80 : Int32) [(.int r0), (.int r1), (.int r2), (.int r3), (.int r4), (.int (0 : Int32)), (.int (0 : Int32)), (.int (0 : Int32)), (.int (0 : Int32)), (.int (0 : Int32)), (.int (0 : Int32)), (.int (0 : Int32)), (.int (0 : Int32)), (.int (0 : Int32)), (.int (0 : Int32))] (.int (0 : Int32))) :
    Ctr l Z EL1 n0 (⟨"java/util/Arrays", "copyOf", "([II)[I"⟩ : MethodName) jdk_65_method_123_code 3 (some (.array .int)) ({ frames := 1, cells := 1, slots := 5, locals := 18 } : Room) #[(.ref t), (.int (5 : Int32))] h [] (fun v h' => ∃ u ku, v = some (.ref u) ∧ Ext h h' ∧ Arv Z h' u ku .int (5 : Int32) [(.int r0), (.int r1), (.int r2), (.int r3), (.int r4)] (.int (0 : Int32))) := by
  have hw := X.hw
  obtain ⟨z1, hz1, hz2⟩ := X.2.2.1
  refine Ctr.intro (a0 := a0) (plainFor_of_name pn4) hO X.ew ?_
  intro p e s m below meth c T0 V0 S0 hby hml hret hnm hsf
  rw [ef5]
  refine s_iloadN S0 (hb hby dCJ1_0) rfl (pc' := 1) rfl ?_
  refine s_aloadN S0 (hb hby dCJ1_1) rfl rfl (pc' := 2) rfl ?_
  refine g_len S0 Vt (hb hby dCJ1_2) ?_
  show Go p e below _ (T0.setTop (mkF m 3 #[.val (.ref t), .val (.int (5 : Int32)), .unset] [(.int (80 : Int32)), (.int (5 : Int32))]))
  refine s_icmpY S0 (hb hby dCJ1_3) (by decide) (by decide) (pcT := 14) (by decide) ?_
  refine s_iloadN S0 (hb hby dCJ1_14) rfl (pc' := 15) rfl ?_
  refine g_newarr (aty := .int) S0 (w31 hw) (hb hby dCJ1_15) (by decide) (cap := 5) (by decide) (by decide) (Nat.le_of_ble_eq_true rfl) (Nat.le_of_ble_eq_true rfl) ?_
  intro T386 h386 b386 kc386 S386 E386 fr386 lt386 na386 sf386 A386
  have V386 : Arv Z h386 b386 kc386 .int (5 : Int32) [(.int (0 : Int32)), (.int (0 : Int32)), (.int (0 : Int32)), (.int (0 : Int32)), (.int (0 : Int32))] (.int (0 : Int32)) := A386 5
  show Go p e below _ (T386.setTop (mkF m 17 #[.val (.ref t), .val (.int (5 : Int32)), .unset] [(.ref b386)]))
  refine s_astoreN S386 (hb hby dCJ1_17) rfl (L' := #[.val (.ref t), .val (.int (5 : Int32)), .val (.ref b386)]) rfl (pc' := 18) rfl ?_
  refine s_aloadN S386 (hb hby dCJ1_18) rfl rfl (pc' := 19) rfl ?_
  refine s_iconst S386 (hb hby dCJ1_19) (v := (0 : Int32)) rfl (pc' := 20) rfl ?_
  refine s_aloadN S386 (hb hby dCJ1_20) rfl rfl (pc' := 21) rfl ?_
  refine s_iconst S386 (hb hby dCJ1_21) (v := (0 : Int32)) rfl (pc' := 22) rfl ?_
  refine s_aloadN S386 (hb hby dCJ1_22) rfl rfl (pc' := 23) rfl ?_
  have Vt387 := Vt.ext E386
  refine g_len S386 Vt387 (hb hby dCJ1_23) ?_
  show Go p e below _ (T386.setTop (mkF m 24 #[.val (.ref t), .val (.int (5 : Int32)), .val (.ref b386)] [(.int (80 : Int32)), (.int (0 : Int32)), (.ref b386), (.int (0 : Int32)), (.ref t)]))
  refine s_iloadN S386 (hb hby dCJ1_24) rfl (pc' := 25) rfl ?_
  show Go p e below _ (T386.setTop (mkF m 25 #[.val (.ref t), .val (.int (5 : Int32)), .val (.ref b386)] [(.int (5 : Int32)), (.int (80 : Int32)), (.int (0 : Int32)), (.ref b386), (.int (0 : Int32)), (.ref t)]))
  refine g_static S386 (rmMN X (z := (5 : Int32)) (by decide) S386.old) (fun _ q => nomatch q) (w92 hw) (w93 hw) (w86 hw) (w94 hw) (by decide) (hb hby dCJ1_25) (by rw [hml]; rfl) [(.int (80 : Int32)), (.int (5 : Int32))] (lenOf pd7 rfl) rfl rfl (Nat.le_of_ble_eq_true rfl) (Nat.le_of_ble_eq_true rfl) (Nat.le_of_ble_eq_true rfl) (Nat.le_of_ble_eq_true rfl) ?_
  intro v388 T388 V388 h388 S388 C388 q388
  obtain ⟨rfl, rfl⟩ := q388
  show Go p e below _ (T388.setTop (mkF m 28 #[.val (.ref t), .val (.int (5 : Int32)), .val (.ref b386)] [(.int (5 : Int32)), (.int (0 : Int32)), (.ref b386), (.int (0 : Int32)), (.ref t)]))
  show Go p e below _ (T388.setTop (mkF m 28 #[.val (.ref t), .val (.int (5 : Int32)), .val (.ref b386)] [(.int (5 : Int32)), (.int (0 : Int32)), (.ref b386), (.int (0 : Int32)), (.ref t)]))
  refine g_copy S388 (w95 hw) (w98 hw) (w96 hw) (w97 hw) Vt387 V386 rfl (by decide) (by decide) (by decide) (by decide) (by decide) (us := [(.int r0), (.int r1), (.int r2), (.int r3), (.int r4)]) rfl (Nat.le_of_ble_eq_true rfl) na386 (Safe.arv S388.warm.alike V386 (by decide)) (hb hby dCJ1_28) (by rw [hml]; rfl) (Nat.le_of_ble_eq_true rfl) (by decide) ?_
  intro T389 h389 S389 K389 V389 sg389
  have V389 : Arv Z h389 b386 kc386 .int (5 : Int32) [(.int r0), (.int r1), (.int r2), (.int r3), (.int r4)] (.int (0 : Int32)) := V389
  show Go p e below _ (T389.setTop (mkF m 31 #[.val (.ref t), .val (.int (5 : Int32)), .val (.ref b386)] []))
  refine s_aloadN S389 (hb hby dCJ1_31) rfl rfl (pc' := 32) rfl ?_
  show Go p e below _ (T389.setTop (mkF m 32 #[.val (.ref t), .val (.int (5 : Int32)), .val (.ref b386)] [(.ref b386)]))
  have X390 : Ext h h389 := ext_keep1 E386 K389 fr386
  exact g_aret S389 (hb hby dCJ1_32) hret rfl rfl rfl ⟨b386, _, rfl, X390, V389⟩
theorem dCL1_0 : decode prog_3_method_4_code 0 = .ok (.aload_n 0, 1) := by decide +kernel
theorem dCL1_1 : decode prog_3_method_4_code 1 = .ok (.getfield 10, 3) := by decide +kernel
theorem dCL1_4 : decode prog_3_method_4_code 4 = .ok (.invokevirtual 35, 3) := by decide +kernel
theorem dCL1_7 : decode prog_3_method_4_code 7 = .ok (.aload_n 0, 1) := by decide +kernel
theorem dCL1_8 : decode prog_3_method_4_code 8 = .ok (.aload_n 0, 1) := by decide +kernel
theorem dCL1_9 : decode prog_3_method_4_code 9 = .ok (.getfield 16, 3) := by decide +kernel
theorem dCL1_12 : decode prog_3_method_4_code 12 = .ok (.aload_n 0, 1) := by decide +kernel
theorem dCL1_13 : decode prog_3_method_4_code 13 = .ok (.getfield 38, 3) := by decide +kernel
theorem dCL1_16 : decode prog_3_method_4_code 16 = .ok (.iconst 5, 1) := by decide +kernel
theorem dCL1_17 : decode prog_3_method_4_code 17 = .ok (.imul, 1) := by decide +kernel
theorem dCL1_18 : decode prog_3_method_4_code 18 = .ok (.invokestatic 42, 3) := by decide +kernel
theorem dCL1_21 : decode prog_3_method_4_code 21 = .ok (.putfield 16, 3) := by decide +kernel
theorem dCL1_24 : decode prog_3_method_4_code 24 = .ok (.return_, 1) := by decide +kernel
set_option maxRecDepth 65536 in
set_option maxHeartbeats 40000000 in
theorem rmCL1 {l : Launch} {Z : State} {a0 : Array Value} {n0 : Nat} (X : Ctx Z a0) {x sb tb t : Addr} {kb kt : ClassId} {sc : Int32} {bs : List Value} {r0 r1 r2 r3 r4 : Int32} {h : Heap} (hO : Old Z n0 h) (A : AS Z h n0 x sb tb t kb kt (1 : Int32) (80 : Int32) [(.int r0), (.int r1), (.int r2), (.int r3), (.int r4), (.int (0 : Int32)), (.int (0 : Int32)), (.int (0 : Int32)), (.int (0 : Int32)), (.int (0 : Int32)), (.int (0 : Int32)), (.int (0 : Int32)), (.int (0 : Int32)), (.int (0 : Int32)), (.int (0 : Int32))] (16 : Int32) sc bs) (h0 : 0 ≤ sc.toInt) (h1 : sc.toInt < 16) :
    Ctr l Z EL1 n0 (⟨"com/example/nodewarden/nodewarden/core/Asides", "close", "()V"⟩ : MethodName) prog_3_method_4_code 1 none ({ frames := 4, cells := 2, slots := 21, locals := 58 } : Room) #[(.ref x)] h [] (fun v h' => v = none ∧ ∃ (u : Addr) (ku : ClassId), Exa Z h' x "com/example/nodewarden/nodewarden/core/Asides" ∧ Fld Z h' x "com/example/nodewarden/nodewarden/core/Asides" "table" "[I" (.ref u) ∧ Fld Z h' x "com/example/nodewarden/nodewarden/core/Asides" "count" "I" (.int (1 : Int32)) ∧ Arv Z h' u ku .int (5 : Int32) [(.int r0), (.int r1), (.int r2), (.int r3), (.int r4)] (.int (0 : Int32))) := by
  have hw := X.hw
  obtain ⟨z1, hz1, hz2⟩ := X.2.2.1
  refine Ctr.intro (a0 := a0) (plainFor_of_name pn3) hO X.ew ?_
  intro p e s m below meth c T0 V0 S0 hby hml hret hnm hsf
  rw [ef2]
  obtain ⟨Ex, Ft, Fb, Fn, Vt, ⟨Es, Fv, Fk, Fs, Vb⟩, nx, ns, nb, nt⟩ := A
  have nXS : x ≠ sb := ne_exa Ex Es (by decide)
  have nXT : x ≠ t := Exa.neArv Ex Vt (w1 hw)
  have nXB : x ≠ tb := Exa.neArv Ex Vb (w1 hw)
  have nST : sb ≠ t := Exa.neArv Es Vt (w10 hw)
  have nSB : sb ≠ tb := Exa.neArv Es Vb (w10 hw)
  have nTB : t ≠ tb := arv_kne Vt Vb (by decide)
  show Go p e below _ (T0.setTop (mkF m 0 #[.val (.ref x)] []))
  refine s_aloadN S0 (hb hby dCL1_0) rfl rfl (pc' := 1) rfl ?_
  refine g_getF S0 (w29 hw) Via.refl Ft (hb hby dCL1_1) ?_
  intro T391 ST391
  show Go p e below _ (T391.setTop (mkF m 4 #[.val (.ref x)] [(.ref sb)]))
  show Go p e below _ (T391.setTop (mkF m 4 #[.val (.ref x)] [(.ref sb)]))
  refine g_virtual ST391 (rmTS X ns ST391.old Es Fv Fk Fs Vb h0 h1) (fun _ q => nomatch q) (w163 hw) (w164 hw) (w166 hw) (w165 hw) (w11 hw) (w167 hw) (by decide) (fun _ h => notFace_of_selects h) (hb hby dCL1_4) (by rw [hml]; rfl) sb Es [] (lenOf pd6 rfl) rfl rfl (Nat.le_of_ble_eq_true rfl) (Nat.le_of_ble_eq_true rfl) (Nat.le_of_ble_eq_true rfl) (Nat.le_of_ble_eq_true rfl) ?_
  intro v392 T392 V392 h392 S392 C392 q392
  obtain ⟨rfl, K1⟩ := q392
  show Go p e below _ (T392.setTop (mkF m 7 #[.val (.ref x)] []))
  refine s_aloadN S392 (hb hby dCL1_7) rfl rfl (pc' := 8) rfl ?_
  refine s_aloadN S392 (hb hby dCL1_8) rfl rfl (pc' := 9) rfl ?_
  have F393 := Fb.keep K1 (ninS nXS nin0)
  refine g_getF S392 (w32 hw) Via.refl F393 (hb hby dCL1_9) ?_
  intro T394 ST394
  show Go p e below _ (T394.setTop (mkF m 12 #[.val (.ref x)] [(.ref t), (.ref x)]))
  refine s_aloadN ST394 (hb hby dCL1_12) rfl rfl (pc' := 13) rfl ?_
  have F395 := Fn.keep K1 (ninS nXS nin0)
  refine g_getF ST394 (w40 hw) Via.refl F395 (hb hby dCL1_13) ?_
  intro T396 ST396
  show Go p e below _ (T396.setTop (mkF m 16 #[.val (.ref x)] [(.int (1 : Int32)), (.ref t), (.ref x)]))
  refine s_iconst ST396 (hb hby dCL1_16) (v := (5 : Int32)) rfl (pc' := 17) rfl ?_
  refine s_imul ST396 (hb hby dCL1_17) (z := (5 : Int32)) rfl (pc' := 18) rfl ?_
  have F397 := Vt.keep K1 (ninS (Ne.symm nST) nin0)
  show Go p e below _ (T396.setTop (mkF m 18 #[.val (.ref x)] [(.int (5 : Int32)), (.ref t), (.ref x)]))
  refine g_static ST396 (rmCJ1 X ST396.old F397) (fun _ q => nomatch q) (w88 hw) (w89 hw) (w90 hw) (w91 hw) (by decide) (hb hby dCL1_18) (by rw [hml]; rfl) [(.ref t), (.int (5 : Int32))] (lenOf pd8 rfl) rfl rfl (Nat.le_of_ble_eq_true rfl) (Nat.le_of_ble_eq_true rfl) (Nat.le_of_ble_eq_true rfl) (Nat.le_of_ble_eq_true rfl) ?_
  intro v398 T398 V398 h398 S398 C398 q398
  obtain ⟨u, ku, rfl, Eu, Vu⟩ := q398
  have F399 := Ex.keep K1
  have F400 := F399.ext Eu
  have nXU : x ≠ u := Exa.neArv F400 Vu (w1 hw)
  show Go p e below _ (T398.setTop (mkF m 21 #[.val (.ref x)] [(.ref u), (.ref x)]))
  show Go p e below _ (T398.setTop (mkF m 21 #[.val (.ref x)] [(.ref u), (.ref x)]))
  have F402 := F393.ext Eu
  have F403 := Ft.keep K1 (ninS nXS nin0)
  have F404 := F403.ext Eu
  have F405 := F395.ext Eu
  refine g_putF S398 (w32 hw) Via.refl F402 F400 (Or.inl (w33 hw)) (w1 hw) (ty := (.array .int)) (v' := (.ref u)) (by decide) rfl rfl nx (Safe.exa S398.warm.alike F400 (by decide) (by decide)) (hb hby dCL1_21) ?_
  intro T401 h401 S401 K401 W401 A401 F401 sg401
  have F406 := F404.other W401 (Or.inr (slot_ne (Or.inr (w30 hw)) (Or.inl (w33 hw)) (by decide) (t := (.object "java/lang/StringBuilder")) (t' := (.array .int)) (by decide) (by decide)))
  have F407 := F405.other W401 (Or.inr (slot_ne (Or.inl (w41 hw)) (Or.inl (w33 hw)) (by decide) (t := .int) (t' := (.array .int)) (by decide) (by decide)))
  show Go p e below _ (T401.setTop (mkF m 24 #[.val (.ref x)] []))
  show Go p e below _ (T401.setTop (mkF m 24 #[.val (.ref x)] []))
  have F408 := Vu.keep K401 (ninS (Ne.symm nXU) nin0)
  exact g_ret S401 (hb hby dCL1_24) hret ⟨rfl, u, ku, A401, F401, F407, F408⟩
theorem dCJ2_0 : decode jdk_65_method_123_code 0 = .ok (.iload_n 1, 1) := by decide +kernel
theorem dCJ2_1 : decode jdk_65_method_123_code 1 = .ok (.aload_n 0, 1) := by decide +kernel
theorem dCJ2_2 : decode jdk_65_method_123_code 2 = .ok (.arraylength, 1) := by decide +kernel
theorem dCJ2_3 : decode jdk_65_method_123_code 3 = .ok (.if_icmp .ne 11, 3) := by decide +kernel
theorem dCJ2_14 : decode jdk_65_method_123_code 14 = .ok (.iload_n 1, 1) := by decide +kernel
theorem dCJ2_15 : decode jdk_65_method_123_code 15 = .ok (.newarray .int, 2) := by decide +kernel
theorem dCJ2_17 : decode jdk_65_method_123_code 17 = .ok (.astore_n 2, 1) := by decide +kernel
theorem dCJ2_18 : decode jdk_65_method_123_code 18 = .ok (.aload_n 0, 1) := by decide +kernel
theorem dCJ2_19 : decode jdk_65_method_123_code 19 = .ok (.iconst 0, 1) := by decide +kernel
theorem dCJ2_20 : decode jdk_65_method_123_code 20 = .ok (.aload_n 2, 1) := by decide +kernel
theorem dCJ2_21 : decode jdk_65_method_123_code 21 = .ok (.iconst 0, 1) := by decide +kernel
theorem dCJ2_22 : decode jdk_65_method_123_code 22 = .ok (.aload_n 0, 1) := by decide +kernel
theorem dCJ2_23 : decode jdk_65_method_123_code 23 = .ok (.arraylength, 1) := by decide +kernel
theorem dCJ2_24 : decode jdk_65_method_123_code 24 = .ok (.iload_n 1, 1) := by decide +kernel
theorem dCJ2_25 : decode jdk_65_method_123_code 25 = .ok (.invokestatic 304, 3) := by decide +kernel
theorem dCJ2_28 : decode jdk_65_method_123_code 28 = .ok (.invokestatic 150, 3) := by decide +kernel
theorem dCJ2_31 : decode jdk_65_method_123_code 31 = .ok (.aload_n 2, 1) := by decide +kernel
theorem dCJ2_32 : decode jdk_65_method_123_code 32 = .ok (.areturn, 1) := by decide +kernel
set_option maxRecDepth 65536 in
set_option maxHeartbeats 40000000 in
theorem rmCJ2 {l : Launch} {Z : State} {a0 : Array Value} {n0 : Nat} (X : Ctx Z a0) {t : Addr} {kt : ClassId} {r0 r1 r2 r3 r4 r5 r6 r7 r8 r9 : Int32} {h : Heap} (hO : Old Z n0 h) (Vt : Arv Z h t kt .int (80 : Int32) [(.int r0), (.int r1), (.int r2), (.int r3), (.int r4), (.int r5), (.int r6), (.int r7), (.int r8), (.int r9), (.int (0 : Int32)), (.int (0 : Int32)), (.int (0 : Int32)), (.int (0 : Int32)), (.int (0 : Int32))] (.int (0 : Int32))) :
    Ctr l Z EL1 n0 (⟨"java/util/Arrays", "copyOf", "([II)[I"⟩ : MethodName) jdk_65_method_123_code 3 (some (.array .int)) ({ frames := 1, cells := 1, slots := 10, locals := 18 } : Room) #[(.ref t), (.int (10 : Int32))] h [] (fun v h' => ∃ u ku, v = some (.ref u) ∧ Ext h h' ∧ Arv Z h' u ku .int (10 : Int32) [(.int r0), (.int r1), (.int r2), (.int r3), (.int r4), (.int r5), (.int r6), (.int r7), (.int r8), (.int r9)] (.int (0 : Int32))) := by
  have hw := X.hw
  obtain ⟨z1, hz1, hz2⟩ := X.2.2.1
  refine Ctr.intro (a0 := a0) (plainFor_of_name pn4) hO X.ew ?_
  intro p e s m below meth c T0 V0 S0 hby hml hret hnm hsf
  rw [ef5]
  refine s_iloadN S0 (hb hby dCJ2_0) rfl (pc' := 1) rfl ?_
  refine s_aloadN S0 (hb hby dCJ2_1) rfl rfl (pc' := 2) rfl ?_
  refine g_len S0 Vt (hb hby dCJ2_2) ?_
  show Go p e below _ (T0.setTop (mkF m 3 #[.val (.ref t), .val (.int (10 : Int32)), .unset] [(.int (80 : Int32)), (.int (10 : Int32))]))
  refine s_icmpY S0 (hb hby dCJ2_3) (by decide) (by decide) (pcT := 14) (by decide) ?_
  refine s_iloadN S0 (hb hby dCJ2_14) rfl (pc' := 15) rfl ?_
  refine g_newarr (aty := .int) S0 (w31 hw) (hb hby dCJ2_15) (by decide) (cap := 10) (by decide) (by decide) (Nat.le_of_ble_eq_true rfl) (Nat.le_of_ble_eq_true rfl) ?_
  intro T409 h409 b409 kc409 S409 E409 fr409 lt409 na409 sf409 A409
  have V409 : Arv Z h409 b409 kc409 .int (10 : Int32) [(.int (0 : Int32)), (.int (0 : Int32)), (.int (0 : Int32)), (.int (0 : Int32)), (.int (0 : Int32)), (.int (0 : Int32)), (.int (0 : Int32)), (.int (0 : Int32)), (.int (0 : Int32)), (.int (0 : Int32))] (.int (0 : Int32)) := A409 10
  show Go p e below _ (T409.setTop (mkF m 17 #[.val (.ref t), .val (.int (10 : Int32)), .unset] [(.ref b409)]))
  refine s_astoreN S409 (hb hby dCJ2_17) rfl (L' := #[.val (.ref t), .val (.int (10 : Int32)), .val (.ref b409)]) rfl (pc' := 18) rfl ?_
  refine s_aloadN S409 (hb hby dCJ2_18) rfl rfl (pc' := 19) rfl ?_
  refine s_iconst S409 (hb hby dCJ2_19) (v := (0 : Int32)) rfl (pc' := 20) rfl ?_
  refine s_aloadN S409 (hb hby dCJ2_20) rfl rfl (pc' := 21) rfl ?_
  refine s_iconst S409 (hb hby dCJ2_21) (v := (0 : Int32)) rfl (pc' := 22) rfl ?_
  refine s_aloadN S409 (hb hby dCJ2_22) rfl rfl (pc' := 23) rfl ?_
  have Vt410 := Vt.ext E409
  refine g_len S409 Vt410 (hb hby dCJ2_23) ?_
  show Go p e below _ (T409.setTop (mkF m 24 #[.val (.ref t), .val (.int (10 : Int32)), .val (.ref b409)] [(.int (80 : Int32)), (.int (0 : Int32)), (.ref b409), (.int (0 : Int32)), (.ref t)]))
  refine s_iloadN S409 (hb hby dCJ2_24) rfl (pc' := 25) rfl ?_
  show Go p e below _ (T409.setTop (mkF m 25 #[.val (.ref t), .val (.int (10 : Int32)), .val (.ref b409)] [(.int (10 : Int32)), (.int (80 : Int32)), (.int (0 : Int32)), (.ref b409), (.int (0 : Int32)), (.ref t)]))
  refine g_static S409 (rmMN X (z := (10 : Int32)) (by decide) S409.old) (fun _ q => nomatch q) (w92 hw) (w93 hw) (w86 hw) (w94 hw) (by decide) (hb hby dCJ2_25) (by rw [hml]; rfl) [(.int (80 : Int32)), (.int (10 : Int32))] (lenOf pd7 rfl) rfl rfl (Nat.le_of_ble_eq_true rfl) (Nat.le_of_ble_eq_true rfl) (Nat.le_of_ble_eq_true rfl) (Nat.le_of_ble_eq_true rfl) ?_
  intro v411 T411 V411 h411 S411 C411 q411
  obtain ⟨rfl, rfl⟩ := q411
  show Go p e below _ (T411.setTop (mkF m 28 #[.val (.ref t), .val (.int (10 : Int32)), .val (.ref b409)] [(.int (10 : Int32)), (.int (0 : Int32)), (.ref b409), (.int (0 : Int32)), (.ref t)]))
  show Go p e below _ (T411.setTop (mkF m 28 #[.val (.ref t), .val (.int (10 : Int32)), .val (.ref b409)] [(.int (10 : Int32)), (.int (0 : Int32)), (.ref b409), (.int (0 : Int32)), (.ref t)]))
  refine g_copy S411 (w95 hw) (w98 hw) (w96 hw) (w97 hw) Vt410 V409 rfl (by decide) (by decide) (by decide) (by decide) (by decide) (us := [(.int r0), (.int r1), (.int r2), (.int r3), (.int r4), (.int r5), (.int r6), (.int r7), (.int r8), (.int r9)]) rfl (Nat.le_of_ble_eq_true rfl) na409 (Safe.arv S411.warm.alike V409 (by decide)) (hb hby dCJ2_28) (by rw [hml]; rfl) (Nat.le_of_ble_eq_true rfl) (by decide) ?_
  intro T412 h412 S412 K412 V412 sg412
  have V412 : Arv Z h412 b409 kc409 .int (10 : Int32) [(.int r0), (.int r1), (.int r2), (.int r3), (.int r4), (.int r5), (.int r6), (.int r7), (.int r8), (.int r9)] (.int (0 : Int32)) := V412
  show Go p e below _ (T412.setTop (mkF m 31 #[.val (.ref t), .val (.int (10 : Int32)), .val (.ref b409)] []))
  refine s_aloadN S412 (hb hby dCJ2_31) rfl rfl (pc' := 32) rfl ?_
  show Go p e below _ (T412.setTop (mkF m 32 #[.val (.ref t), .val (.int (10 : Int32)), .val (.ref b409)] [(.ref b409)]))
  have X413 : Ext h h412 := ext_keep1 E409 K412 fr409
  exact g_aret S412 (hb hby dCJ2_32) hret rfl rfl rfl ⟨b409, _, rfl, X413, V412⟩
theorem dCL2_0 : decode prog_3_method_4_code 0 = .ok (.aload_n 0, 1) := by decide +kernel
theorem dCL2_1 : decode prog_3_method_4_code 1 = .ok (.getfield 10, 3) := by decide +kernel
theorem dCL2_4 : decode prog_3_method_4_code 4 = .ok (.invokevirtual 35, 3) := by decide +kernel
theorem dCL2_7 : decode prog_3_method_4_code 7 = .ok (.aload_n 0, 1) := by decide +kernel
theorem dCL2_8 : decode prog_3_method_4_code 8 = .ok (.aload_n 0, 1) := by decide +kernel
theorem dCL2_9 : decode prog_3_method_4_code 9 = .ok (.getfield 16, 3) := by decide +kernel
theorem dCL2_12 : decode prog_3_method_4_code 12 = .ok (.aload_n 0, 1) := by decide +kernel
theorem dCL2_13 : decode prog_3_method_4_code 13 = .ok (.getfield 38, 3) := by decide +kernel
theorem dCL2_16 : decode prog_3_method_4_code 16 = .ok (.iconst 5, 1) := by decide +kernel
theorem dCL2_17 : decode prog_3_method_4_code 17 = .ok (.imul, 1) := by decide +kernel
theorem dCL2_18 : decode prog_3_method_4_code 18 = .ok (.invokestatic 42, 3) := by decide +kernel
theorem dCL2_21 : decode prog_3_method_4_code 21 = .ok (.putfield 16, 3) := by decide +kernel
theorem dCL2_24 : decode prog_3_method_4_code 24 = .ok (.return_, 1) := by decide +kernel
set_option maxRecDepth 65536 in
set_option maxHeartbeats 40000000 in
theorem rmCL2 {l : Launch} {Z : State} {a0 : Array Value} {n0 : Nat} (X : Ctx Z a0) {x sb tb t : Addr} {kb kt : ClassId} {sc : Int32} {bs : List Value} {r0 r1 r2 r3 r4 r5 r6 r7 r8 r9 : Int32} {h : Heap} (hO : Old Z n0 h) (A : AS Z h n0 x sb tb t kb kt (2 : Int32) (80 : Int32) [(.int r0), (.int r1), (.int r2), (.int r3), (.int r4), (.int r5), (.int r6), (.int r7), (.int r8), (.int r9), (.int (0 : Int32)), (.int (0 : Int32)), (.int (0 : Int32)), (.int (0 : Int32)), (.int (0 : Int32))] (16 : Int32) sc bs) (h0 : 0 ≤ sc.toInt) (h1 : sc.toInt < 16) :
    Ctr l Z EL1 n0 (⟨"com/example/nodewarden/nodewarden/core/Asides", "close", "()V"⟩ : MethodName) prog_3_method_4_code 1 none ({ frames := 4, cells := 2, slots := 26, locals := 58 } : Room) #[(.ref x)] h [] (fun v h' => v = none ∧ ∃ (u : Addr) (ku : ClassId), Exa Z h' x "com/example/nodewarden/nodewarden/core/Asides" ∧ Fld Z h' x "com/example/nodewarden/nodewarden/core/Asides" "table" "[I" (.ref u) ∧ Fld Z h' x "com/example/nodewarden/nodewarden/core/Asides" "count" "I" (.int (2 : Int32)) ∧ Arv Z h' u ku .int (10 : Int32) [(.int r0), (.int r1), (.int r2), (.int r3), (.int r4), (.int r5), (.int r6), (.int r7), (.int r8), (.int r9)] (.int (0 : Int32))) := by
  have hw := X.hw
  obtain ⟨z1, hz1, hz2⟩ := X.2.2.1
  refine Ctr.intro (a0 := a0) (plainFor_of_name pn3) hO X.ew ?_
  intro p e s m below meth c T0 V0 S0 hby hml hret hnm hsf
  rw [ef2]
  obtain ⟨Ex, Ft, Fb, Fn, Vt, ⟨Es, Fv, Fk, Fs, Vb⟩, nx, ns, nb, nt⟩ := A
  have nXS : x ≠ sb := ne_exa Ex Es (by decide)
  have nXT : x ≠ t := Exa.neArv Ex Vt (w1 hw)
  have nXB : x ≠ tb := Exa.neArv Ex Vb (w1 hw)
  have nST : sb ≠ t := Exa.neArv Es Vt (w10 hw)
  have nSB : sb ≠ tb := Exa.neArv Es Vb (w10 hw)
  have nTB : t ≠ tb := arv_kne Vt Vb (by decide)
  show Go p e below _ (T0.setTop (mkF m 0 #[.val (.ref x)] []))
  refine s_aloadN S0 (hb hby dCL2_0) rfl rfl (pc' := 1) rfl ?_
  refine g_getF S0 (w29 hw) Via.refl Ft (hb hby dCL2_1) ?_
  intro T414 ST414
  show Go p e below _ (T414.setTop (mkF m 4 #[.val (.ref x)] [(.ref sb)]))
  show Go p e below _ (T414.setTop (mkF m 4 #[.val (.ref x)] [(.ref sb)]))
  refine g_virtual ST414 (rmTS X ns ST414.old Es Fv Fk Fs Vb h0 h1) (fun _ q => nomatch q) (w163 hw) (w164 hw) (w166 hw) (w165 hw) (w11 hw) (w167 hw) (by decide) (fun _ h => notFace_of_selects h) (hb hby dCL2_4) (by rw [hml]; rfl) sb Es [] (lenOf pd6 rfl) rfl rfl (Nat.le_of_ble_eq_true rfl) (Nat.le_of_ble_eq_true rfl) (Nat.le_of_ble_eq_true rfl) (Nat.le_of_ble_eq_true rfl) ?_
  intro v415 T415 V415 h415 S415 C415 q415
  obtain ⟨rfl, K1⟩ := q415
  show Go p e below _ (T415.setTop (mkF m 7 #[.val (.ref x)] []))
  refine s_aloadN S415 (hb hby dCL2_7) rfl rfl (pc' := 8) rfl ?_
  refine s_aloadN S415 (hb hby dCL2_8) rfl rfl (pc' := 9) rfl ?_
  have F416 := Fb.keep K1 (ninS nXS nin0)
  refine g_getF S415 (w32 hw) Via.refl F416 (hb hby dCL2_9) ?_
  intro T417 ST417
  show Go p e below _ (T417.setTop (mkF m 12 #[.val (.ref x)] [(.ref t), (.ref x)]))
  refine s_aloadN ST417 (hb hby dCL2_12) rfl rfl (pc' := 13) rfl ?_
  have F418 := Fn.keep K1 (ninS nXS nin0)
  refine g_getF ST417 (w40 hw) Via.refl F418 (hb hby dCL2_13) ?_
  intro T419 ST419
  show Go p e below _ (T419.setTop (mkF m 16 #[.val (.ref x)] [(.int (2 : Int32)), (.ref t), (.ref x)]))
  refine s_iconst ST419 (hb hby dCL2_16) (v := (5 : Int32)) rfl (pc' := 17) rfl ?_
  refine s_imul ST419 (hb hby dCL2_17) (z := (10 : Int32)) rfl (pc' := 18) rfl ?_
  have F420 := Vt.keep K1 (ninS (Ne.symm nST) nin0)
  show Go p e below _ (T419.setTop (mkF m 18 #[.val (.ref x)] [(.int (10 : Int32)), (.ref t), (.ref x)]))
  refine g_static ST419 (rmCJ2 X ST419.old F420) (fun _ q => nomatch q) (w88 hw) (w89 hw) (w90 hw) (w91 hw) (by decide) (hb hby dCL2_18) (by rw [hml]; rfl) [(.ref t), (.int (10 : Int32))] (lenOf pd8 rfl) rfl rfl (Nat.le_of_ble_eq_true rfl) (Nat.le_of_ble_eq_true rfl) (Nat.le_of_ble_eq_true rfl) (Nat.le_of_ble_eq_true rfl) ?_
  intro v421 T421 V421 h421 S421 C421 q421
  obtain ⟨u, ku, rfl, Eu, Vu⟩ := q421
  have F422 := Ex.keep K1
  have F423 := F422.ext Eu
  have nXU : x ≠ u := Exa.neArv F423 Vu (w1 hw)
  show Go p e below _ (T421.setTop (mkF m 21 #[.val (.ref x)] [(.ref u), (.ref x)]))
  show Go p e below _ (T421.setTop (mkF m 21 #[.val (.ref x)] [(.ref u), (.ref x)]))
  have F425 := F416.ext Eu
  have F426 := Ft.keep K1 (ninS nXS nin0)
  have F427 := F426.ext Eu
  have F428 := F418.ext Eu
  refine g_putF S421 (w32 hw) Via.refl F425 F423 (Or.inl (w33 hw)) (w1 hw) (ty := (.array .int)) (v' := (.ref u)) (by decide) rfl rfl nx (Safe.exa S421.warm.alike F423 (by decide) (by decide)) (hb hby dCL2_21) ?_
  intro T424 h424 S424 K424 W424 A424 F424 sg424
  have F429 := F427.other W424 (Or.inr (slot_ne (Or.inr (w30 hw)) (Or.inl (w33 hw)) (by decide) (t := (.object "java/lang/StringBuilder")) (t' := (.array .int)) (by decide) (by decide)))
  have F430 := F428.other W424 (Or.inr (slot_ne (Or.inl (w41 hw)) (Or.inl (w33 hw)) (by decide) (t := .int) (t' := (.array .int)) (by decide) (by decide)))
  show Go p e below _ (T424.setTop (mkF m 24 #[.val (.ref x)] []))
  show Go p e below _ (T424.setTop (mkF m 24 #[.val (.ref x)] []))
  have F431 := Vu.keep K424 (ninS (Ne.symm nXU) nin0)
  exact g_ret S424 (hb hby dCL2_24) hret ⟨rfl, u, ku, A424, F424, F430, F431⟩
theorem dIA000_0 : decode prog_3_method_5_code 0 = .ok (.iload_n 1, 1) := by decide +kernel
theorem dIA000_1 : decode prog_3_method_5_code 1 = .ok (.aload_n 0, 1) := by decide +kernel
theorem dIA000_2 : decode prog_3_method_5_code 2 = .ok (.getfield 38, 3) := by decide +kernel
theorem dIA000_5 : decode prog_3_method_5_code 5 = .ok (.if_icmp .ge 35, 3) := by decide +kernel
theorem dIA000_40 : decode prog_3_method_5_code 40 = .ok (.iconst 0, 1) := by decide +kernel
theorem dIA000_41 : decode prog_3_method_5_code 41 = .ok (.ireturn, 1) := by decide +kernel
set_option maxRecDepth 65536 in
set_option maxHeartbeats 40000000 in
theorem rmIA000 {l : Launch} {Z : State} {a0 : Array Value} {n0 : Nat} (X : Ctx Z a0) {x t : Addr} {kt : ClassId} {qp qq : Int32} {h : Heap} (hO : Old Z n0 h) (Ex : Exa Z h x "com/example/nodewarden/nodewarden/core/Asides") (Fb : Fld Z h x "com/example/nodewarden/nodewarden/core/Asides" "table" "[I" (.ref t)) (Fn : Fld Z h x "com/example/nodewarden/nodewarden/core/Asides" "count" "I" (.int (0 : Int32))) (Vt : Arv Z h t kt .int (0 : Int32) [] (.int (0 : Int32))) :
    Ctr l Z EL1 n0 (⟨"com/example/nodewarden/nodewarden/core/Asides", "isAt", "(III)Z"⟩ : MethodName) prog_3_method_5_code 4 (some .boolean) ({ frames := 0, cells := 0, slots := 0, locals := 0 } : Room) #[(.ref x), (.int (0 : Int32)), (.int qp), (.int qq)] h [] (fun v h' => v = some (.int 0) ∧ h' = h) := by
  have hw := X.hw
  obtain ⟨z1, hz1, hz2⟩ := X.2.2.1
  refine Ctr.intro (a0 := a0) (plainFor_of_name pn3) hO X.ew ?_
  intro p e s m below meth c T0 V0 S0 hby hml hret hnm hsf
  rw [ef16]
  refine s_iloadN S0 (hb hby dIA000_0) rfl (pc' := 1) rfl ?_
  refine s_aloadN S0 (hb hby dIA000_1) rfl rfl (pc' := 2) rfl ?_
  refine g_getF S0 (w40 hw) Via.refl Fn (hb hby dIA000_2) ?_
  intro T432 ST432
  show Go p e below _ (T432.setTop (mkF m 5 #[.val (.ref x), .val (.int (0 : Int32)), .val (.int qp), .val (.int qq)] [(.int (0 : Int32)), (.int (0 : Int32))]))
  refine s_icmpY ST432 (hb hby dIA000_5) (by decide) (by decide) (pcT := 40) (by decide) ?_
  refine s_iconst ST432 (hb hby dIA000_40) (v := (0 : Int32)) rfl (pc' := 41) rfl ?_
  exact g_iretN ST432 (hb hby dIA000_41) hret (by simp) ⟨rfl, rfl⟩
theorem dIA001_0 : decode prog_3_method_5_code 0 = .ok (.iload_n 1, 1) := by decide +kernel
theorem dIA001_1 : decode prog_3_method_5_code 1 = .ok (.aload_n 0, 1) := by decide +kernel
theorem dIA001_2 : decode prog_3_method_5_code 2 = .ok (.getfield 38, 3) := by decide +kernel
theorem dIA001_5 : decode prog_3_method_5_code 5 = .ok (.if_icmp .ge 35, 3) := by decide +kernel
theorem dIA001_40 : decode prog_3_method_5_code 40 = .ok (.iconst 0, 1) := by decide +kernel
theorem dIA001_41 : decode prog_3_method_5_code 41 = .ok (.ireturn, 1) := by decide +kernel
set_option maxRecDepth 65536 in
set_option maxHeartbeats 40000000 in
theorem rmIA001 {l : Launch} {Z : State} {a0 : Array Value} {n0 : Nat} (X : Ctx Z a0) {x t : Addr} {kt : ClassId} {qp qq : Int32} {h : Heap} (hO : Old Z n0 h) (Ex : Exa Z h x "com/example/nodewarden/nodewarden/core/Asides") (Fb : Fld Z h x "com/example/nodewarden/nodewarden/core/Asides" "table" "[I" (.ref t)) (Fn : Fld Z h x "com/example/nodewarden/nodewarden/core/Asides" "count" "I" (.int (0 : Int32))) (Vt : Arv Z h t kt .int (0 : Int32) [] (.int (0 : Int32))) :
    Ctr l Z EL1 n0 (⟨"com/example/nodewarden/nodewarden/core/Asides", "isAt", "(III)Z"⟩ : MethodName) prog_3_method_5_code 4 (some .boolean) ({ frames := 0, cells := 0, slots := 0, locals := 0 } : Room) #[(.ref x), (.int (0 : Int32)), (.int qp), (.int qq)] h [] (fun v h' => v = some (.int 0) ∧ h' = h) := by
  have hw := X.hw
  obtain ⟨z1, hz1, hz2⟩ := X.2.2.1
  refine Ctr.intro (a0 := a0) (plainFor_of_name pn3) hO X.ew ?_
  intro p e s m below meth c T0 V0 S0 hby hml hret hnm hsf
  rw [ef16]
  refine s_iloadN S0 (hb hby dIA001_0) rfl (pc' := 1) rfl ?_
  refine s_aloadN S0 (hb hby dIA001_1) rfl rfl (pc' := 2) rfl ?_
  refine g_getF S0 (w40 hw) Via.refl Fn (hb hby dIA001_2) ?_
  intro T433 ST433
  show Go p e below _ (T433.setTop (mkF m 5 #[.val (.ref x), .val (.int (0 : Int32)), .val (.int qp), .val (.int qq)] [(.int (0 : Int32)), (.int (0 : Int32))]))
  refine s_icmpY ST433 (hb hby dIA001_5) (by decide) (by decide) (pcT := 40) (by decide) ?_
  refine s_iconst ST433 (hb hby dIA001_40) (v := (0 : Int32)) rfl (pc' := 41) rfl ?_
  exact g_iretN ST433 (hb hby dIA001_41) hret (by simp) ⟨rfl, rfl⟩
theorem dIA010_0 : decode prog_3_method_5_code 0 = .ok (.iload_n 1, 1) := by decide +kernel
theorem dIA010_1 : decode prog_3_method_5_code 1 = .ok (.aload_n 0, 1) := by decide +kernel
theorem dIA010_2 : decode prog_3_method_5_code 2 = .ok (.getfield 38, 3) := by decide +kernel
theorem dIA010_5 : decode prog_3_method_5_code 5 = .ok (.if_icmp .ge 35, 3) := by decide +kernel
theorem dIA010_40 : decode prog_3_method_5_code 40 = .ok (.iconst 0, 1) := by decide +kernel
theorem dIA010_41 : decode prog_3_method_5_code 41 = .ok (.ireturn, 1) := by decide +kernel
set_option maxRecDepth 65536 in
set_option maxHeartbeats 40000000 in
theorem rmIA010 {l : Launch} {Z : State} {a0 : Array Value} {n0 : Nat} (X : Ctx Z a0) {x t : Addr} {kt : ClassId} {qp qq : Int32} {h : Heap} (hO : Old Z n0 h) (Ex : Exa Z h x "com/example/nodewarden/nodewarden/core/Asides") (Fb : Fld Z h x "com/example/nodewarden/nodewarden/core/Asides" "table" "[I" (.ref t)) (Fn : Fld Z h x "com/example/nodewarden/nodewarden/core/Asides" "count" "I" (.int (0 : Int32))) (Vt : Arv Z h t kt .int (0 : Int32) [] (.int (0 : Int32))) :
    Ctr l Z EL1 n0 (⟨"com/example/nodewarden/nodewarden/core/Asides", "isAt", "(III)Z"⟩ : MethodName) prog_3_method_5_code 4 (some .boolean) ({ frames := 0, cells := 0, slots := 0, locals := 0 } : Room) #[(.ref x), (.int (1 : Int32)), (.int qp), (.int qq)] h [] (fun v h' => v = some (.int 0) ∧ h' = h) := by
  have hw := X.hw
  obtain ⟨z1, hz1, hz2⟩ := X.2.2.1
  refine Ctr.intro (a0 := a0) (plainFor_of_name pn3) hO X.ew ?_
  intro p e s m below meth c T0 V0 S0 hby hml hret hnm hsf
  rw [ef16]
  refine s_iloadN S0 (hb hby dIA010_0) rfl (pc' := 1) rfl ?_
  refine s_aloadN S0 (hb hby dIA010_1) rfl rfl (pc' := 2) rfl ?_
  refine g_getF S0 (w40 hw) Via.refl Fn (hb hby dIA010_2) ?_
  intro T434 ST434
  show Go p e below _ (T434.setTop (mkF m 5 #[.val (.ref x), .val (.int (1 : Int32)), .val (.int qp), .val (.int qq)] [(.int (0 : Int32)), (.int (1 : Int32))]))
  refine s_icmpY ST434 (hb hby dIA010_5) (by decide) (by decide) (pcT := 40) (by decide) ?_
  refine s_iconst ST434 (hb hby dIA010_40) (v := (0 : Int32)) rfl (pc' := 41) rfl ?_
  exact g_iretN ST434 (hb hby dIA010_41) hret (by simp) ⟨rfl, rfl⟩
theorem dIA011_0 : decode prog_3_method_5_code 0 = .ok (.iload_n 1, 1) := by decide +kernel
theorem dIA011_1 : decode prog_3_method_5_code 1 = .ok (.aload_n 0, 1) := by decide +kernel
theorem dIA011_2 : decode prog_3_method_5_code 2 = .ok (.getfield 38, 3) := by decide +kernel
theorem dIA011_5 : decode prog_3_method_5_code 5 = .ok (.if_icmp .ge 35, 3) := by decide +kernel
theorem dIA011_40 : decode prog_3_method_5_code 40 = .ok (.iconst 0, 1) := by decide +kernel
theorem dIA011_41 : decode prog_3_method_5_code 41 = .ok (.ireturn, 1) := by decide +kernel
set_option maxRecDepth 65536 in
set_option maxHeartbeats 40000000 in
theorem rmIA011 {l : Launch} {Z : State} {a0 : Array Value} {n0 : Nat} (X : Ctx Z a0) {x t : Addr} {kt : ClassId} {qp qq : Int32} {h : Heap} (hO : Old Z n0 h) (Ex : Exa Z h x "com/example/nodewarden/nodewarden/core/Asides") (Fb : Fld Z h x "com/example/nodewarden/nodewarden/core/Asides" "table" "[I" (.ref t)) (Fn : Fld Z h x "com/example/nodewarden/nodewarden/core/Asides" "count" "I" (.int (0 : Int32))) (Vt : Arv Z h t kt .int (0 : Int32) [] (.int (0 : Int32))) :
    Ctr l Z EL1 n0 (⟨"com/example/nodewarden/nodewarden/core/Asides", "isAt", "(III)Z"⟩ : MethodName) prog_3_method_5_code 4 (some .boolean) ({ frames := 0, cells := 0, slots := 0, locals := 0 } : Room) #[(.ref x), (.int (1 : Int32)), (.int qp), (.int qq)] h [] (fun v h' => v = some (.int 0) ∧ h' = h) := by
  have hw := X.hw
  obtain ⟨z1, hz1, hz2⟩ := X.2.2.1
  refine Ctr.intro (a0 := a0) (plainFor_of_name pn3) hO X.ew ?_
  intro p e s m below meth c T0 V0 S0 hby hml hret hnm hsf
  rw [ef16]
  refine s_iloadN S0 (hb hby dIA011_0) rfl (pc' := 1) rfl ?_
  refine s_aloadN S0 (hb hby dIA011_1) rfl rfl (pc' := 2) rfl ?_
  refine g_getF S0 (w40 hw) Via.refl Fn (hb hby dIA011_2) ?_
  intro T435 ST435
  show Go p e below _ (T435.setTop (mkF m 5 #[.val (.ref x), .val (.int (1 : Int32)), .val (.int qp), .val (.int qq)] [(.int (0 : Int32)), (.int (1 : Int32))]))
  refine s_icmpY ST435 (hb hby dIA011_5) (by decide) (by decide) (pcT := 40) (by decide) ?_
  refine s_iconst ST435 (hb hby dIA011_40) (v := (0 : Int32)) rfl (pc' := 41) rfl ?_
  exact g_iretN ST435 (hb hby dIA011_41) hret (by simp) ⟨rfl, rfl⟩
theorem dIA020_0 : decode prog_3_method_5_code 0 = .ok (.iload_n 1, 1) := by decide +kernel
theorem dIA020_1 : decode prog_3_method_5_code 1 = .ok (.aload_n 0, 1) := by decide +kernel
theorem dIA020_2 : decode prog_3_method_5_code 2 = .ok (.getfield 38, 3) := by decide +kernel
theorem dIA020_5 : decode prog_3_method_5_code 5 = .ok (.if_icmp .ge 35, 3) := by decide +kernel
theorem dIA020_40 : decode prog_3_method_5_code 40 = .ok (.iconst 0, 1) := by decide +kernel
theorem dIA020_41 : decode prog_3_method_5_code 41 = .ok (.ireturn, 1) := by decide +kernel
set_option maxRecDepth 65536 in
set_option maxHeartbeats 40000000 in
theorem rmIA020 {l : Launch} {Z : State} {a0 : Array Value} {n0 : Nat} (X : Ctx Z a0) {x t : Addr} {kt : ClassId} {qp qq : Int32} {h : Heap} (hO : Old Z n0 h) (Ex : Exa Z h x "com/example/nodewarden/nodewarden/core/Asides") (Fb : Fld Z h x "com/example/nodewarden/nodewarden/core/Asides" "table" "[I" (.ref t)) (Fn : Fld Z h x "com/example/nodewarden/nodewarden/core/Asides" "count" "I" (.int (0 : Int32))) (Vt : Arv Z h t kt .int (0 : Int32) [] (.int (0 : Int32))) :
    Ctr l Z EL1 n0 (⟨"com/example/nodewarden/nodewarden/core/Asides", "isAt", "(III)Z"⟩ : MethodName) prog_3_method_5_code 4 (some .boolean) ({ frames := 0, cells := 0, slots := 0, locals := 0 } : Room) #[(.ref x), (.int (2 : Int32)), (.int qp), (.int qq)] h [] (fun v h' => v = some (.int 0) ∧ h' = h) := by
  have hw := X.hw
  obtain ⟨z1, hz1, hz2⟩ := X.2.2.1
  refine Ctr.intro (a0 := a0) (plainFor_of_name pn3) hO X.ew ?_
  intro p e s m below meth c T0 V0 S0 hby hml hret hnm hsf
  rw [ef16]
  refine s_iloadN S0 (hb hby dIA020_0) rfl (pc' := 1) rfl ?_
  refine s_aloadN S0 (hb hby dIA020_1) rfl rfl (pc' := 2) rfl ?_
  refine g_getF S0 (w40 hw) Via.refl Fn (hb hby dIA020_2) ?_
  intro T436 ST436
  show Go p e below _ (T436.setTop (mkF m 5 #[.val (.ref x), .val (.int (2 : Int32)), .val (.int qp), .val (.int qq)] [(.int (0 : Int32)), (.int (2 : Int32))]))
  refine s_icmpY ST436 (hb hby dIA020_5) (by decide) (by decide) (pcT := 40) (by decide) ?_
  refine s_iconst ST436 (hb hby dIA020_40) (v := (0 : Int32)) rfl (pc' := 41) rfl ?_
  exact g_iretN ST436 (hb hby dIA020_41) hret (by simp) ⟨rfl, rfl⟩
theorem dIA021_0 : decode prog_3_method_5_code 0 = .ok (.iload_n 1, 1) := by decide +kernel
theorem dIA021_1 : decode prog_3_method_5_code 1 = .ok (.aload_n 0, 1) := by decide +kernel
theorem dIA021_2 : decode prog_3_method_5_code 2 = .ok (.getfield 38, 3) := by decide +kernel
theorem dIA021_5 : decode prog_3_method_5_code 5 = .ok (.if_icmp .ge 35, 3) := by decide +kernel
theorem dIA021_40 : decode prog_3_method_5_code 40 = .ok (.iconst 0, 1) := by decide +kernel
theorem dIA021_41 : decode prog_3_method_5_code 41 = .ok (.ireturn, 1) := by decide +kernel
set_option maxRecDepth 65536 in
set_option maxHeartbeats 40000000 in
theorem rmIA021 {l : Launch} {Z : State} {a0 : Array Value} {n0 : Nat} (X : Ctx Z a0) {x t : Addr} {kt : ClassId} {qp qq : Int32} {h : Heap} (hO : Old Z n0 h) (Ex : Exa Z h x "com/example/nodewarden/nodewarden/core/Asides") (Fb : Fld Z h x "com/example/nodewarden/nodewarden/core/Asides" "table" "[I" (.ref t)) (Fn : Fld Z h x "com/example/nodewarden/nodewarden/core/Asides" "count" "I" (.int (0 : Int32))) (Vt : Arv Z h t kt .int (0 : Int32) [] (.int (0 : Int32))) :
    Ctr l Z EL1 n0 (⟨"com/example/nodewarden/nodewarden/core/Asides", "isAt", "(III)Z"⟩ : MethodName) prog_3_method_5_code 4 (some .boolean) ({ frames := 0, cells := 0, slots := 0, locals := 0 } : Room) #[(.ref x), (.int (2 : Int32)), (.int qp), (.int qq)] h [] (fun v h' => v = some (.int 0) ∧ h' = h) := by
  have hw := X.hw
  obtain ⟨z1, hz1, hz2⟩ := X.2.2.1
  refine Ctr.intro (a0 := a0) (plainFor_of_name pn3) hO X.ew ?_
  intro p e s m below meth c T0 V0 S0 hby hml hret hnm hsf
  rw [ef16]
  refine s_iloadN S0 (hb hby dIA021_0) rfl (pc' := 1) rfl ?_
  refine s_aloadN S0 (hb hby dIA021_1) rfl rfl (pc' := 2) rfl ?_
  refine g_getF S0 (w40 hw) Via.refl Fn (hb hby dIA021_2) ?_
  intro T437 ST437
  show Go p e below _ (T437.setTop (mkF m 5 #[.val (.ref x), .val (.int (2 : Int32)), .val (.int qp), .val (.int qq)] [(.int (0 : Int32)), (.int (2 : Int32))]))
  refine s_icmpY ST437 (hb hby dIA021_5) (by decide) (by decide) (pcT := 40) (by decide) ?_
  refine s_iconst ST437 (hb hby dIA021_40) (v := (0 : Int32)) rfl (pc' := 41) rfl ?_
  exact g_iretN ST437 (hb hby dIA021_41) hret (by simp) ⟨rfl, rfl⟩
theorem dIA030_0 : decode prog_3_method_5_code 0 = .ok (.iload_n 1, 1) := by decide +kernel
theorem dIA030_1 : decode prog_3_method_5_code 1 = .ok (.aload_n 0, 1) := by decide +kernel
theorem dIA030_2 : decode prog_3_method_5_code 2 = .ok (.getfield 38, 3) := by decide +kernel
theorem dIA030_5 : decode prog_3_method_5_code 5 = .ok (.if_icmp .ge 35, 3) := by decide +kernel
theorem dIA030_40 : decode prog_3_method_5_code 40 = .ok (.iconst 0, 1) := by decide +kernel
theorem dIA030_41 : decode prog_3_method_5_code 41 = .ok (.ireturn, 1) := by decide +kernel
set_option maxRecDepth 65536 in
set_option maxHeartbeats 40000000 in
theorem rmIA030 {l : Launch} {Z : State} {a0 : Array Value} {n0 : Nat} (X : Ctx Z a0) {x t : Addr} {kt : ClassId} {qp qq : Int32} {h : Heap} (hO : Old Z n0 h) (Ex : Exa Z h x "com/example/nodewarden/nodewarden/core/Asides") (Fb : Fld Z h x "com/example/nodewarden/nodewarden/core/Asides" "table" "[I" (.ref t)) (Fn : Fld Z h x "com/example/nodewarden/nodewarden/core/Asides" "count" "I" (.int (0 : Int32))) (Vt : Arv Z h t kt .int (0 : Int32) [] (.int (0 : Int32))) :
    Ctr l Z EL1 n0 (⟨"com/example/nodewarden/nodewarden/core/Asides", "isAt", "(III)Z"⟩ : MethodName) prog_3_method_5_code 4 (some .boolean) ({ frames := 0, cells := 0, slots := 0, locals := 0 } : Room) #[(.ref x), (.int (3 : Int32)), (.int qp), (.int qq)] h [] (fun v h' => v = some (.int 0) ∧ h' = h) := by
  have hw := X.hw
  obtain ⟨z1, hz1, hz2⟩ := X.2.2.1
  refine Ctr.intro (a0 := a0) (plainFor_of_name pn3) hO X.ew ?_
  intro p e s m below meth c T0 V0 S0 hby hml hret hnm hsf
  rw [ef16]
  refine s_iloadN S0 (hb hby dIA030_0) rfl (pc' := 1) rfl ?_
  refine s_aloadN S0 (hb hby dIA030_1) rfl rfl (pc' := 2) rfl ?_
  refine g_getF S0 (w40 hw) Via.refl Fn (hb hby dIA030_2) ?_
  intro T438 ST438
  show Go p e below _ (T438.setTop (mkF m 5 #[.val (.ref x), .val (.int (3 : Int32)), .val (.int qp), .val (.int qq)] [(.int (0 : Int32)), (.int (3 : Int32))]))
  refine s_icmpY ST438 (hb hby dIA030_5) (by decide) (by decide) (pcT := 40) (by decide) ?_
  refine s_iconst ST438 (hb hby dIA030_40) (v := (0 : Int32)) rfl (pc' := 41) rfl ?_
  exact g_iretN ST438 (hb hby dIA030_41) hret (by simp) ⟨rfl, rfl⟩
theorem dIA031_0 : decode prog_3_method_5_code 0 = .ok (.iload_n 1, 1) := by decide +kernel
theorem dIA031_1 : decode prog_3_method_5_code 1 = .ok (.aload_n 0, 1) := by decide +kernel
theorem dIA031_2 : decode prog_3_method_5_code 2 = .ok (.getfield 38, 3) := by decide +kernel
theorem dIA031_5 : decode prog_3_method_5_code 5 = .ok (.if_icmp .ge 35, 3) := by decide +kernel
theorem dIA031_40 : decode prog_3_method_5_code 40 = .ok (.iconst 0, 1) := by decide +kernel
theorem dIA031_41 : decode prog_3_method_5_code 41 = .ok (.ireturn, 1) := by decide +kernel
set_option maxRecDepth 65536 in
set_option maxHeartbeats 40000000 in
theorem rmIA031 {l : Launch} {Z : State} {a0 : Array Value} {n0 : Nat} (X : Ctx Z a0) {x t : Addr} {kt : ClassId} {qp qq : Int32} {h : Heap} (hO : Old Z n0 h) (Ex : Exa Z h x "com/example/nodewarden/nodewarden/core/Asides") (Fb : Fld Z h x "com/example/nodewarden/nodewarden/core/Asides" "table" "[I" (.ref t)) (Fn : Fld Z h x "com/example/nodewarden/nodewarden/core/Asides" "count" "I" (.int (0 : Int32))) (Vt : Arv Z h t kt .int (0 : Int32) [] (.int (0 : Int32))) :
    Ctr l Z EL1 n0 (⟨"com/example/nodewarden/nodewarden/core/Asides", "isAt", "(III)Z"⟩ : MethodName) prog_3_method_5_code 4 (some .boolean) ({ frames := 0, cells := 0, slots := 0, locals := 0 } : Room) #[(.ref x), (.int (3 : Int32)), (.int qp), (.int qq)] h [] (fun v h' => v = some (.int 0) ∧ h' = h) := by
  have hw := X.hw
  obtain ⟨z1, hz1, hz2⟩ := X.2.2.1
  refine Ctr.intro (a0 := a0) (plainFor_of_name pn3) hO X.ew ?_
  intro p e s m below meth c T0 V0 S0 hby hml hret hnm hsf
  rw [ef16]
  refine s_iloadN S0 (hb hby dIA031_0) rfl (pc' := 1) rfl ?_
  refine s_aloadN S0 (hb hby dIA031_1) rfl rfl (pc' := 2) rfl ?_
  refine g_getF S0 (w40 hw) Via.refl Fn (hb hby dIA031_2) ?_
  intro T439 ST439
  show Go p e below _ (T439.setTop (mkF m 5 #[.val (.ref x), .val (.int (3 : Int32)), .val (.int qp), .val (.int qq)] [(.int (0 : Int32)), (.int (3 : Int32))]))
  refine s_icmpY ST439 (hb hby dIA031_5) (by decide) (by decide) (pcT := 40) (by decide) ?_
  refine s_iconst ST439 (hb hby dIA031_40) (v := (0 : Int32)) rfl (pc' := 41) rfl ?_
  exact g_iretN ST439 (hb hby dIA031_41) hret (by simp) ⟨rfl, rfl⟩
theorem dIA100_0 : decode prog_3_method_5_code 0 = .ok (.iload_n 1, 1) := by decide +kernel
theorem dIA100_1 : decode prog_3_method_5_code 1 = .ok (.aload_n 0, 1) := by decide +kernel
theorem dIA100_2 : decode prog_3_method_5_code 2 = .ok (.getfield 38, 3) := by decide +kernel
theorem dIA100_5 : decode prog_3_method_5_code 5 = .ok (.if_icmp .ge 35, 3) := by decide +kernel
theorem dIA100_8 : decode prog_3_method_5_code 8 = .ok (.aload_n 0, 1) := by decide +kernel
theorem dIA100_9 : decode prog_3_method_5_code 9 = .ok (.getfield 16, 3) := by decide +kernel
theorem dIA100_12 : decode prog_3_method_5_code 12 = .ok (.iload_n 1, 1) := by decide +kernel
theorem dIA100_13 : decode prog_3_method_5_code 13 = .ok (.iconst 5, 1) := by decide +kernel
theorem dIA100_14 : decode prog_3_method_5_code 14 = .ok (.imul, 1) := by decide +kernel
theorem dIA100_15 : decode prog_3_method_5_code 15 = .ok (.iconst 0, 1) := by decide +kernel
theorem dIA100_16 : decode prog_3_method_5_code 16 = .ok (.iadd, 1) := by decide +kernel
theorem dIA100_17 : decode prog_3_method_5_code 17 = .ok (.iaload, 1) := by decide +kernel
theorem dIA100_18 : decode prog_3_method_5_code 18 = .ok (.iload_n 2, 1) := by decide +kernel
theorem dIA100_19 : decode prog_3_method_5_code 19 = .ok (.if_icmp .ne 21, 3) := by decide +kernel
theorem dIA100_22 : decode prog_3_method_5_code 22 = .ok (.aload_n 0, 1) := by decide +kernel
theorem dIA100_23 : decode prog_3_method_5_code 23 = .ok (.getfield 16, 3) := by decide +kernel
theorem dIA100_26 : decode prog_3_method_5_code 26 = .ok (.iload_n 1, 1) := by decide +kernel
theorem dIA100_27 : decode prog_3_method_5_code 27 = .ok (.iconst 5, 1) := by decide +kernel
theorem dIA100_28 : decode prog_3_method_5_code 28 = .ok (.imul, 1) := by decide +kernel
theorem dIA100_29 : decode prog_3_method_5_code 29 = .ok (.iconst 1, 1) := by decide +kernel
theorem dIA100_30 : decode prog_3_method_5_code 30 = .ok (.iadd, 1) := by decide +kernel
theorem dIA100_31 : decode prog_3_method_5_code 31 = .ok (.iaload, 1) := by decide +kernel
theorem dIA100_32 : decode prog_3_method_5_code 32 = .ok (.iload_n 3, 1) := by decide +kernel
theorem dIA100_33 : decode prog_3_method_5_code 33 = .ok (.if_icmp .ne 7, 3) := by decide +kernel
theorem dIA100_36 : decode prog_3_method_5_code 36 = .ok (.iconst 1, 1) := by decide +kernel
theorem dIA100_37 : decode prog_3_method_5_code 37 = .ok (.goto 4, 3) := by decide +kernel
theorem dIA100_40 : decode prog_3_method_5_code 40 = .ok (.iconst 0, 1) := by decide +kernel
theorem dIA100_41 : decode prog_3_method_5_code 41 = .ok (.ireturn, 1) := by decide +kernel
set_option maxRecDepth 65536 in
set_option maxHeartbeats 40000000 in
theorem rmIA100 {l : Launch} {Z : State} {a0 : Array Value} {n0 : Nat} (X : Ctx Z a0) {x t : Addr} {kt : ClassId} {qp qq : Int32} {r0 r1 r2 r3 r4 : Int32} {h : Heap} (hO : Old Z n0 h) (Ex : Exa Z h x "com/example/nodewarden/nodewarden/core/Asides") (Fb : Fld Z h x "com/example/nodewarden/nodewarden/core/Asides" "table" "[I" (.ref t)) (Fn : Fld Z h x "com/example/nodewarden/nodewarden/core/Asides" "count" "I" (.int (1 : Int32))) (Vt : Arv Z h t kt .int (80 : Int32) [(.int r0), (.int r1), (.int r2), (.int r3), (.int r4), (.int (0 : Int32)), (.int (0 : Int32)), (.int (0 : Int32)), (.int (0 : Int32)), (.int (0 : Int32)), (.int (0 : Int32)), (.int (0 : Int32)), (.int (0 : Int32)), (.int (0 : Int32)), (.int (0 : Int32))] (.int (0 : Int32))) :
    Ctr l Z EL1 n0 (⟨"com/example/nodewarden/nodewarden/core/Asides", "isAt", "(III)Z"⟩ : MethodName) prog_3_method_5_code 4 (some .boolean) ({ frames := 0, cells := 0, slots := 0, locals := 0 } : Room) #[(.ref x), (.int (0 : Int32)), (.int qp), (.int qq)] h [] (fun v h' => ∃ r : Int32, v = some (.int r) ∧ ((r = 1 ∧ r0 = qp ∧ r1 = qq) ∨ (r = 0 ∧ ¬ (r0 = qp ∧ r1 = qq))) ∧ h' = h) := by
  have hw := X.hw
  obtain ⟨z1, hz1, hz2⟩ := X.2.2.1
  refine Ctr.intro (a0 := a0) (plainFor_of_name pn3) hO X.ew ?_
  intro p e s m below meth c T0 V0 S0 hby hml hret hnm hsf
  rw [ef16]
  refine s_iloadN S0 (hb hby dIA100_0) rfl (pc' := 1) rfl ?_
  refine s_aloadN S0 (hb hby dIA100_1) rfl rfl (pc' := 2) rfl ?_
  refine g_getF S0 (w40 hw) Via.refl Fn (hb hby dIA100_2) ?_
  intro T440 ST440
  show Go p e below _ (T440.setTop (mkF m 5 #[.val (.ref x), .val (.int (0 : Int32)), .val (.int qp), .val (.int qq)] [(.int (1 : Int32)), (.int (0 : Int32))]))
  refine s_icmpN ST440 (hb hby dIA100_5) (by decide) (pc' := 8) rfl ?_
  refine s_aloadN ST440 (hb hby dIA100_8) rfl rfl (pc' := 9) rfl ?_
  refine g_getF ST440 (w32 hw) Via.refl Fb (hb hby dIA100_9) ?_
  intro T441 ST441
  show Go p e below _ (T441.setTop (mkF m 12 #[.val (.ref x), .val (.int (0 : Int32)), .val (.int qp), .val (.int qq)] [(.ref t)]))
  refine s_iloadN ST441 (hb hby dIA100_12) rfl (pc' := 13) rfl ?_
  refine s_iconst ST441 (hb hby dIA100_13) (v := (5 : Int32)) rfl (pc' := 14) rfl ?_
  refine s_imul ST441 (hb hby dIA100_14) (z := (0 : Int32)) rfl (pc' := 15) rfl ?_
  refine s_iconst ST441 (hb hby dIA100_15) (v := (0 : Int32)) rfl (pc' := 16) rfl ?_
  refine s_iadd ST441 (hb hby dIA100_16) (z := (0 : Int32)) rfl (pc' := 17) rfl ?_
  refine g_iaload ST441 Vt ⟨by decide, by decide⟩ (x := r0) rfl (hb hby dIA100_17) ?_
  show Go p e below _ (T441.setTop (mkF m 18 #[.val (.ref x), .val (.int (0 : Int32)), .val (.int qp), .val (.int qq)] [(.int r0)]))
  refine s_iloadN ST441 (hb hby dIA100_18) rfl (pc' := 19) rfl ?_
  refine g_icmp ST441 (hb hby dIA100_19) (by decide) (pcT := 40) (by decide) (fun q => ?_) (fun q => ?_)
  · have hc19_442 : ¬ r0 = qp := icT_ne q
    show Go p e below _ (T441.setTop (mkF m 40 #[.val (.ref x), .val (.int (0 : Int32)), .val (.int qp), .val (.int qq)] []))
    refine s_iconst ST441 (hb hby dIA100_40) (v := (0 : Int32)) rfl (pc' := 41) rfl ?_
    show Go p e below _ (T441.setTop (mkF m 41 #[.val (.ref x), .val (.int (0 : Int32)), .val (.int qp), .val (.int qq)] [(.int (0 : Int32))]))
    exact g_iretN ST441 (hb hby dIA100_41) hret (by simp) ⟨_, rfl, Or.inr ⟨rfl, fun q => absurd q.1 hc19_442⟩, rfl⟩
  · have hc19_442 : r0 = qp := icF_ne q
    show Go p e below _ (T441.setTop (mkF m 22 #[.val (.ref x), .val (.int (0 : Int32)), .val (.int qp), .val (.int qq)] []))
    refine s_aloadN ST441 (hb hby dIA100_22) rfl rfl (pc' := 23) rfl ?_
    refine g_getF ST441 (w32 hw) Via.refl Fb (hb hby dIA100_23) ?_
    intro T443 ST443
    show Go p e below _ (T443.setTop (mkF m 26 #[.val (.ref x), .val (.int (0 : Int32)), .val (.int qp), .val (.int qq)] [(.ref t)]))
    refine s_iloadN ST443 (hb hby dIA100_26) rfl (pc' := 27) rfl ?_
    refine s_iconst ST443 (hb hby dIA100_27) (v := (5 : Int32)) rfl (pc' := 28) rfl ?_
    refine s_imul ST443 (hb hby dIA100_28) (z := (0 : Int32)) rfl (pc' := 29) rfl ?_
    refine s_iconst ST443 (hb hby dIA100_29) (v := (1 : Int32)) rfl (pc' := 30) rfl ?_
    refine s_iadd ST443 (hb hby dIA100_30) (z := (1 : Int32)) rfl (pc' := 31) rfl ?_
    refine g_iaload ST443 Vt ⟨by decide, by decide⟩ (x := r1) rfl (hb hby dIA100_31) ?_
    show Go p e below _ (T443.setTop (mkF m 32 #[.val (.ref x), .val (.int (0 : Int32)), .val (.int qp), .val (.int qq)] [(.int r1)]))
    refine s_iloadN ST443 (hb hby dIA100_32) rfl (pc' := 33) rfl ?_
    refine g_icmp ST443 (hb hby dIA100_33) (by decide) (pcT := 40) (by decide) (fun q => ?_) (fun q => ?_)
    · have hc33_444 : ¬ r1 = qq := icT_ne q
      show Go p e below _ (T443.setTop (mkF m 40 #[.val (.ref x), .val (.int (0 : Int32)), .val (.int qp), .val (.int qq)] []))
      refine s_iconst ST443 (hb hby dIA100_40) (v := (0 : Int32)) rfl (pc' := 41) rfl ?_
      show Go p e below _ (T443.setTop (mkF m 41 #[.val (.ref x), .val (.int (0 : Int32)), .val (.int qp), .val (.int qq)] [(.int (0 : Int32))]))
      exact g_iretN ST443 (hb hby dIA100_41) hret (by simp) ⟨_, rfl, Or.inr ⟨rfl, fun q => absurd q.2 hc33_444⟩, rfl⟩
    · have hc33_444 : r1 = qq := icF_ne q
      show Go p e below _ (T443.setTop (mkF m 36 #[.val (.ref x), .val (.int (0 : Int32)), .val (.int qp), .val (.int qq)] []))
      refine s_iconst ST443 (hb hby dIA100_36) (v := (1 : Int32)) rfl (pc' := 37) rfl ?_
      refine s_goto ST443 (hb hby dIA100_37) (by decide) (pcT := 41) (by decide) ?_
      show Go p e below _ (T443.setTop (mkF m 41 #[.val (.ref x), .val (.int (0 : Int32)), .val (.int qp), .val (.int qq)] [(.int (1 : Int32))]))
      exact g_iretN ST443 (hb hby dIA100_41) hret (by simp) ⟨_, rfl, Or.inl ⟨rfl, hc19_442, hc33_444⟩, rfl⟩
theorem dIA101_0 : decode prog_3_method_5_code 0 = .ok (.iload_n 1, 1) := by decide +kernel
theorem dIA101_1 : decode prog_3_method_5_code 1 = .ok (.aload_n 0, 1) := by decide +kernel
theorem dIA101_2 : decode prog_3_method_5_code 2 = .ok (.getfield 38, 3) := by decide +kernel
theorem dIA101_5 : decode prog_3_method_5_code 5 = .ok (.if_icmp .ge 35, 3) := by decide +kernel
theorem dIA101_8 : decode prog_3_method_5_code 8 = .ok (.aload_n 0, 1) := by decide +kernel
theorem dIA101_9 : decode prog_3_method_5_code 9 = .ok (.getfield 16, 3) := by decide +kernel
theorem dIA101_12 : decode prog_3_method_5_code 12 = .ok (.iload_n 1, 1) := by decide +kernel
theorem dIA101_13 : decode prog_3_method_5_code 13 = .ok (.iconst 5, 1) := by decide +kernel
theorem dIA101_14 : decode prog_3_method_5_code 14 = .ok (.imul, 1) := by decide +kernel
theorem dIA101_15 : decode prog_3_method_5_code 15 = .ok (.iconst 0, 1) := by decide +kernel
theorem dIA101_16 : decode prog_3_method_5_code 16 = .ok (.iadd, 1) := by decide +kernel
theorem dIA101_17 : decode prog_3_method_5_code 17 = .ok (.iaload, 1) := by decide +kernel
theorem dIA101_18 : decode prog_3_method_5_code 18 = .ok (.iload_n 2, 1) := by decide +kernel
theorem dIA101_19 : decode prog_3_method_5_code 19 = .ok (.if_icmp .ne 21, 3) := by decide +kernel
theorem dIA101_22 : decode prog_3_method_5_code 22 = .ok (.aload_n 0, 1) := by decide +kernel
theorem dIA101_23 : decode prog_3_method_5_code 23 = .ok (.getfield 16, 3) := by decide +kernel
theorem dIA101_26 : decode prog_3_method_5_code 26 = .ok (.iload_n 1, 1) := by decide +kernel
theorem dIA101_27 : decode prog_3_method_5_code 27 = .ok (.iconst 5, 1) := by decide +kernel
theorem dIA101_28 : decode prog_3_method_5_code 28 = .ok (.imul, 1) := by decide +kernel
theorem dIA101_29 : decode prog_3_method_5_code 29 = .ok (.iconst 1, 1) := by decide +kernel
theorem dIA101_30 : decode prog_3_method_5_code 30 = .ok (.iadd, 1) := by decide +kernel
theorem dIA101_31 : decode prog_3_method_5_code 31 = .ok (.iaload, 1) := by decide +kernel
theorem dIA101_32 : decode prog_3_method_5_code 32 = .ok (.iload_n 3, 1) := by decide +kernel
theorem dIA101_33 : decode prog_3_method_5_code 33 = .ok (.if_icmp .ne 7, 3) := by decide +kernel
theorem dIA101_36 : decode prog_3_method_5_code 36 = .ok (.iconst 1, 1) := by decide +kernel
theorem dIA101_37 : decode prog_3_method_5_code 37 = .ok (.goto 4, 3) := by decide +kernel
theorem dIA101_40 : decode prog_3_method_5_code 40 = .ok (.iconst 0, 1) := by decide +kernel
theorem dIA101_41 : decode prog_3_method_5_code 41 = .ok (.ireturn, 1) := by decide +kernel
set_option maxRecDepth 65536 in
set_option maxHeartbeats 40000000 in
theorem rmIA101 {l : Launch} {Z : State} {a0 : Array Value} {n0 : Nat} (X : Ctx Z a0) {x t : Addr} {kt : ClassId} {qp qq : Int32} {r0 r1 r2 r3 r4 : Int32} {h : Heap} (hO : Old Z n0 h) (Ex : Exa Z h x "com/example/nodewarden/nodewarden/core/Asides") (Fb : Fld Z h x "com/example/nodewarden/nodewarden/core/Asides" "table" "[I" (.ref t)) (Fn : Fld Z h x "com/example/nodewarden/nodewarden/core/Asides" "count" "I" (.int (1 : Int32))) (Vt : Arv Z h t kt .int (5 : Int32) [(.int r0), (.int r1), (.int r2), (.int r3), (.int r4)] (.int (0 : Int32))) :
    Ctr l Z EL1 n0 (⟨"com/example/nodewarden/nodewarden/core/Asides", "isAt", "(III)Z"⟩ : MethodName) prog_3_method_5_code 4 (some .boolean) ({ frames := 0, cells := 0, slots := 0, locals := 0 } : Room) #[(.ref x), (.int (0 : Int32)), (.int qp), (.int qq)] h [] (fun v h' => ∃ r : Int32, v = some (.int r) ∧ ((r = 1 ∧ r0 = qp ∧ r1 = qq) ∨ (r = 0 ∧ ¬ (r0 = qp ∧ r1 = qq))) ∧ h' = h) := by
  have hw := X.hw
  obtain ⟨z1, hz1, hz2⟩ := X.2.2.1
  refine Ctr.intro (a0 := a0) (plainFor_of_name pn3) hO X.ew ?_
  intro p e s m below meth c T0 V0 S0 hby hml hret hnm hsf
  rw [ef16]
  refine s_iloadN S0 (hb hby dIA101_0) rfl (pc' := 1) rfl ?_
  refine s_aloadN S0 (hb hby dIA101_1) rfl rfl (pc' := 2) rfl ?_
  refine g_getF S0 (w40 hw) Via.refl Fn (hb hby dIA101_2) ?_
  intro T445 ST445
  show Go p e below _ (T445.setTop (mkF m 5 #[.val (.ref x), .val (.int (0 : Int32)), .val (.int qp), .val (.int qq)] [(.int (1 : Int32)), (.int (0 : Int32))]))
  refine s_icmpN ST445 (hb hby dIA101_5) (by decide) (pc' := 8) rfl ?_
  refine s_aloadN ST445 (hb hby dIA101_8) rfl rfl (pc' := 9) rfl ?_
  refine g_getF ST445 (w32 hw) Via.refl Fb (hb hby dIA101_9) ?_
  intro T446 ST446
  show Go p e below _ (T446.setTop (mkF m 12 #[.val (.ref x), .val (.int (0 : Int32)), .val (.int qp), .val (.int qq)] [(.ref t)]))
  refine s_iloadN ST446 (hb hby dIA101_12) rfl (pc' := 13) rfl ?_
  refine s_iconst ST446 (hb hby dIA101_13) (v := (5 : Int32)) rfl (pc' := 14) rfl ?_
  refine s_imul ST446 (hb hby dIA101_14) (z := (0 : Int32)) rfl (pc' := 15) rfl ?_
  refine s_iconst ST446 (hb hby dIA101_15) (v := (0 : Int32)) rfl (pc' := 16) rfl ?_
  refine s_iadd ST446 (hb hby dIA101_16) (z := (0 : Int32)) rfl (pc' := 17) rfl ?_
  refine g_iaload ST446 Vt ⟨by decide, by decide⟩ (x := r0) rfl (hb hby dIA101_17) ?_
  show Go p e below _ (T446.setTop (mkF m 18 #[.val (.ref x), .val (.int (0 : Int32)), .val (.int qp), .val (.int qq)] [(.int r0)]))
  refine s_iloadN ST446 (hb hby dIA101_18) rfl (pc' := 19) rfl ?_
  refine g_icmp ST446 (hb hby dIA101_19) (by decide) (pcT := 40) (by decide) (fun q => ?_) (fun q => ?_)
  · have hc19_447 : ¬ r0 = qp := icT_ne q
    show Go p e below _ (T446.setTop (mkF m 40 #[.val (.ref x), .val (.int (0 : Int32)), .val (.int qp), .val (.int qq)] []))
    refine s_iconst ST446 (hb hby dIA101_40) (v := (0 : Int32)) rfl (pc' := 41) rfl ?_
    show Go p e below _ (T446.setTop (mkF m 41 #[.val (.ref x), .val (.int (0 : Int32)), .val (.int qp), .val (.int qq)] [(.int (0 : Int32))]))
    exact g_iretN ST446 (hb hby dIA101_41) hret (by simp) ⟨_, rfl, Or.inr ⟨rfl, fun q => absurd q.1 hc19_447⟩, rfl⟩
  · have hc19_447 : r0 = qp := icF_ne q
    show Go p e below _ (T446.setTop (mkF m 22 #[.val (.ref x), .val (.int (0 : Int32)), .val (.int qp), .val (.int qq)] []))
    refine s_aloadN ST446 (hb hby dIA101_22) rfl rfl (pc' := 23) rfl ?_
    refine g_getF ST446 (w32 hw) Via.refl Fb (hb hby dIA101_23) ?_
    intro T448 ST448
    show Go p e below _ (T448.setTop (mkF m 26 #[.val (.ref x), .val (.int (0 : Int32)), .val (.int qp), .val (.int qq)] [(.ref t)]))
    refine s_iloadN ST448 (hb hby dIA101_26) rfl (pc' := 27) rfl ?_
    refine s_iconst ST448 (hb hby dIA101_27) (v := (5 : Int32)) rfl (pc' := 28) rfl ?_
    refine s_imul ST448 (hb hby dIA101_28) (z := (0 : Int32)) rfl (pc' := 29) rfl ?_
    refine s_iconst ST448 (hb hby dIA101_29) (v := (1 : Int32)) rfl (pc' := 30) rfl ?_
    refine s_iadd ST448 (hb hby dIA101_30) (z := (1 : Int32)) rfl (pc' := 31) rfl ?_
    refine g_iaload ST448 Vt ⟨by decide, by decide⟩ (x := r1) rfl (hb hby dIA101_31) ?_
    show Go p e below _ (T448.setTop (mkF m 32 #[.val (.ref x), .val (.int (0 : Int32)), .val (.int qp), .val (.int qq)] [(.int r1)]))
    refine s_iloadN ST448 (hb hby dIA101_32) rfl (pc' := 33) rfl ?_
    refine g_icmp ST448 (hb hby dIA101_33) (by decide) (pcT := 40) (by decide) (fun q => ?_) (fun q => ?_)
    · have hc33_449 : ¬ r1 = qq := icT_ne q
      show Go p e below _ (T448.setTop (mkF m 40 #[.val (.ref x), .val (.int (0 : Int32)), .val (.int qp), .val (.int qq)] []))
      refine s_iconst ST448 (hb hby dIA101_40) (v := (0 : Int32)) rfl (pc' := 41) rfl ?_
      show Go p e below _ (T448.setTop (mkF m 41 #[.val (.ref x), .val (.int (0 : Int32)), .val (.int qp), .val (.int qq)] [(.int (0 : Int32))]))
      exact g_iretN ST448 (hb hby dIA101_41) hret (by simp) ⟨_, rfl, Or.inr ⟨rfl, fun q => absurd q.2 hc33_449⟩, rfl⟩
    · have hc33_449 : r1 = qq := icF_ne q
      show Go p e below _ (T448.setTop (mkF m 36 #[.val (.ref x), .val (.int (0 : Int32)), .val (.int qp), .val (.int qq)] []))
      refine s_iconst ST448 (hb hby dIA101_36) (v := (1 : Int32)) rfl (pc' := 37) rfl ?_
      refine s_goto ST448 (hb hby dIA101_37) (by decide) (pcT := 41) (by decide) ?_
      show Go p e below _ (T448.setTop (mkF m 41 #[.val (.ref x), .val (.int (0 : Int32)), .val (.int qp), .val (.int qq)] [(.int (1 : Int32))]))
      exact g_iretN ST448 (hb hby dIA101_41) hret (by simp) ⟨_, rfl, Or.inl ⟨rfl, hc19_447, hc33_449⟩, rfl⟩
theorem dIA110_0 : decode prog_3_method_5_code 0 = .ok (.iload_n 1, 1) := by decide +kernel
theorem dIA110_1 : decode prog_3_method_5_code 1 = .ok (.aload_n 0, 1) := by decide +kernel
theorem dIA110_2 : decode prog_3_method_5_code 2 = .ok (.getfield 38, 3) := by decide +kernel
theorem dIA110_5 : decode prog_3_method_5_code 5 = .ok (.if_icmp .ge 35, 3) := by decide +kernel
theorem dIA110_40 : decode prog_3_method_5_code 40 = .ok (.iconst 0, 1) := by decide +kernel
theorem dIA110_41 : decode prog_3_method_5_code 41 = .ok (.ireturn, 1) := by decide +kernel
set_option maxRecDepth 65536 in
set_option maxHeartbeats 40000000 in
theorem rmIA110 {l : Launch} {Z : State} {a0 : Array Value} {n0 : Nat} (X : Ctx Z a0) {x t : Addr} {kt : ClassId} {qp qq : Int32} {r0 r1 r2 r3 r4 : Int32} {h : Heap} (hO : Old Z n0 h) (Ex : Exa Z h x "com/example/nodewarden/nodewarden/core/Asides") (Fb : Fld Z h x "com/example/nodewarden/nodewarden/core/Asides" "table" "[I" (.ref t)) (Fn : Fld Z h x "com/example/nodewarden/nodewarden/core/Asides" "count" "I" (.int (1 : Int32))) (Vt : Arv Z h t kt .int (80 : Int32) [(.int r0), (.int r1), (.int r2), (.int r3), (.int r4), (.int (0 : Int32)), (.int (0 : Int32)), (.int (0 : Int32)), (.int (0 : Int32)), (.int (0 : Int32)), (.int (0 : Int32)), (.int (0 : Int32)), (.int (0 : Int32)), (.int (0 : Int32)), (.int (0 : Int32))] (.int (0 : Int32))) :
    Ctr l Z EL1 n0 (⟨"com/example/nodewarden/nodewarden/core/Asides", "isAt", "(III)Z"⟩ : MethodName) prog_3_method_5_code 4 (some .boolean) ({ frames := 0, cells := 0, slots := 0, locals := 0 } : Room) #[(.ref x), (.int (1 : Int32)), (.int qp), (.int qq)] h [] (fun v h' => v = some (.int 0) ∧ h' = h) := by
  have hw := X.hw
  obtain ⟨z1, hz1, hz2⟩ := X.2.2.1
  refine Ctr.intro (a0 := a0) (plainFor_of_name pn3) hO X.ew ?_
  intro p e s m below meth c T0 V0 S0 hby hml hret hnm hsf
  rw [ef16]
  refine s_iloadN S0 (hb hby dIA110_0) rfl (pc' := 1) rfl ?_
  refine s_aloadN S0 (hb hby dIA110_1) rfl rfl (pc' := 2) rfl ?_
  refine g_getF S0 (w40 hw) Via.refl Fn (hb hby dIA110_2) ?_
  intro T450 ST450
  show Go p e below _ (T450.setTop (mkF m 5 #[.val (.ref x), .val (.int (1 : Int32)), .val (.int qp), .val (.int qq)] [(.int (1 : Int32)), (.int (1 : Int32))]))
  refine s_icmpY ST450 (hb hby dIA110_5) (by decide) (by decide) (pcT := 40) (by decide) ?_
  refine s_iconst ST450 (hb hby dIA110_40) (v := (0 : Int32)) rfl (pc' := 41) rfl ?_
  exact g_iretN ST450 (hb hby dIA110_41) hret (by simp) ⟨rfl, rfl⟩
theorem dIA111_0 : decode prog_3_method_5_code 0 = .ok (.iload_n 1, 1) := by decide +kernel
theorem dIA111_1 : decode prog_3_method_5_code 1 = .ok (.aload_n 0, 1) := by decide +kernel
theorem dIA111_2 : decode prog_3_method_5_code 2 = .ok (.getfield 38, 3) := by decide +kernel
theorem dIA111_5 : decode prog_3_method_5_code 5 = .ok (.if_icmp .ge 35, 3) := by decide +kernel
theorem dIA111_40 : decode prog_3_method_5_code 40 = .ok (.iconst 0, 1) := by decide +kernel
theorem dIA111_41 : decode prog_3_method_5_code 41 = .ok (.ireturn, 1) := by decide +kernel
set_option maxRecDepth 65536 in
set_option maxHeartbeats 40000000 in
theorem rmIA111 {l : Launch} {Z : State} {a0 : Array Value} {n0 : Nat} (X : Ctx Z a0) {x t : Addr} {kt : ClassId} {qp qq : Int32} {r0 r1 r2 r3 r4 : Int32} {h : Heap} (hO : Old Z n0 h) (Ex : Exa Z h x "com/example/nodewarden/nodewarden/core/Asides") (Fb : Fld Z h x "com/example/nodewarden/nodewarden/core/Asides" "table" "[I" (.ref t)) (Fn : Fld Z h x "com/example/nodewarden/nodewarden/core/Asides" "count" "I" (.int (1 : Int32))) (Vt : Arv Z h t kt .int (5 : Int32) [(.int r0), (.int r1), (.int r2), (.int r3), (.int r4)] (.int (0 : Int32))) :
    Ctr l Z EL1 n0 (⟨"com/example/nodewarden/nodewarden/core/Asides", "isAt", "(III)Z"⟩ : MethodName) prog_3_method_5_code 4 (some .boolean) ({ frames := 0, cells := 0, slots := 0, locals := 0 } : Room) #[(.ref x), (.int (1 : Int32)), (.int qp), (.int qq)] h [] (fun v h' => v = some (.int 0) ∧ h' = h) := by
  have hw := X.hw
  obtain ⟨z1, hz1, hz2⟩ := X.2.2.1
  refine Ctr.intro (a0 := a0) (plainFor_of_name pn3) hO X.ew ?_
  intro p e s m below meth c T0 V0 S0 hby hml hret hnm hsf
  rw [ef16]
  refine s_iloadN S0 (hb hby dIA111_0) rfl (pc' := 1) rfl ?_
  refine s_aloadN S0 (hb hby dIA111_1) rfl rfl (pc' := 2) rfl ?_
  refine g_getF S0 (w40 hw) Via.refl Fn (hb hby dIA111_2) ?_
  intro T451 ST451
  show Go p e below _ (T451.setTop (mkF m 5 #[.val (.ref x), .val (.int (1 : Int32)), .val (.int qp), .val (.int qq)] [(.int (1 : Int32)), (.int (1 : Int32))]))
  refine s_icmpY ST451 (hb hby dIA111_5) (by decide) (by decide) (pcT := 40) (by decide) ?_
  refine s_iconst ST451 (hb hby dIA111_40) (v := (0 : Int32)) rfl (pc' := 41) rfl ?_
  exact g_iretN ST451 (hb hby dIA111_41) hret (by simp) ⟨rfl, rfl⟩
theorem dIA120_0 : decode prog_3_method_5_code 0 = .ok (.iload_n 1, 1) := by decide +kernel
theorem dIA120_1 : decode prog_3_method_5_code 1 = .ok (.aload_n 0, 1) := by decide +kernel
theorem dIA120_2 : decode prog_3_method_5_code 2 = .ok (.getfield 38, 3) := by decide +kernel
theorem dIA120_5 : decode prog_3_method_5_code 5 = .ok (.if_icmp .ge 35, 3) := by decide +kernel
theorem dIA120_40 : decode prog_3_method_5_code 40 = .ok (.iconst 0, 1) := by decide +kernel
theorem dIA120_41 : decode prog_3_method_5_code 41 = .ok (.ireturn, 1) := by decide +kernel
set_option maxRecDepth 65536 in
set_option maxHeartbeats 40000000 in
theorem rmIA120 {l : Launch} {Z : State} {a0 : Array Value} {n0 : Nat} (X : Ctx Z a0) {x t : Addr} {kt : ClassId} {qp qq : Int32} {r0 r1 r2 r3 r4 : Int32} {h : Heap} (hO : Old Z n0 h) (Ex : Exa Z h x "com/example/nodewarden/nodewarden/core/Asides") (Fb : Fld Z h x "com/example/nodewarden/nodewarden/core/Asides" "table" "[I" (.ref t)) (Fn : Fld Z h x "com/example/nodewarden/nodewarden/core/Asides" "count" "I" (.int (1 : Int32))) (Vt : Arv Z h t kt .int (80 : Int32) [(.int r0), (.int r1), (.int r2), (.int r3), (.int r4), (.int (0 : Int32)), (.int (0 : Int32)), (.int (0 : Int32)), (.int (0 : Int32)), (.int (0 : Int32)), (.int (0 : Int32)), (.int (0 : Int32)), (.int (0 : Int32)), (.int (0 : Int32)), (.int (0 : Int32))] (.int (0 : Int32))) :
    Ctr l Z EL1 n0 (⟨"com/example/nodewarden/nodewarden/core/Asides", "isAt", "(III)Z"⟩ : MethodName) prog_3_method_5_code 4 (some .boolean) ({ frames := 0, cells := 0, slots := 0, locals := 0 } : Room) #[(.ref x), (.int (2 : Int32)), (.int qp), (.int qq)] h [] (fun v h' => v = some (.int 0) ∧ h' = h) := by
  have hw := X.hw
  obtain ⟨z1, hz1, hz2⟩ := X.2.2.1
  refine Ctr.intro (a0 := a0) (plainFor_of_name pn3) hO X.ew ?_
  intro p e s m below meth c T0 V0 S0 hby hml hret hnm hsf
  rw [ef16]
  refine s_iloadN S0 (hb hby dIA120_0) rfl (pc' := 1) rfl ?_
  refine s_aloadN S0 (hb hby dIA120_1) rfl rfl (pc' := 2) rfl ?_
  refine g_getF S0 (w40 hw) Via.refl Fn (hb hby dIA120_2) ?_
  intro T452 ST452
  show Go p e below _ (T452.setTop (mkF m 5 #[.val (.ref x), .val (.int (2 : Int32)), .val (.int qp), .val (.int qq)] [(.int (1 : Int32)), (.int (2 : Int32))]))
  refine s_icmpY ST452 (hb hby dIA120_5) (by decide) (by decide) (pcT := 40) (by decide) ?_
  refine s_iconst ST452 (hb hby dIA120_40) (v := (0 : Int32)) rfl (pc' := 41) rfl ?_
  exact g_iretN ST452 (hb hby dIA120_41) hret (by simp) ⟨rfl, rfl⟩
theorem dIA121_0 : decode prog_3_method_5_code 0 = .ok (.iload_n 1, 1) := by decide +kernel
theorem dIA121_1 : decode prog_3_method_5_code 1 = .ok (.aload_n 0, 1) := by decide +kernel
theorem dIA121_2 : decode prog_3_method_5_code 2 = .ok (.getfield 38, 3) := by decide +kernel
theorem dIA121_5 : decode prog_3_method_5_code 5 = .ok (.if_icmp .ge 35, 3) := by decide +kernel
theorem dIA121_40 : decode prog_3_method_5_code 40 = .ok (.iconst 0, 1) := by decide +kernel
theorem dIA121_41 : decode prog_3_method_5_code 41 = .ok (.ireturn, 1) := by decide +kernel
set_option maxRecDepth 65536 in
set_option maxHeartbeats 40000000 in
theorem rmIA121 {l : Launch} {Z : State} {a0 : Array Value} {n0 : Nat} (X : Ctx Z a0) {x t : Addr} {kt : ClassId} {qp qq : Int32} {r0 r1 r2 r3 r4 : Int32} {h : Heap} (hO : Old Z n0 h) (Ex : Exa Z h x "com/example/nodewarden/nodewarden/core/Asides") (Fb : Fld Z h x "com/example/nodewarden/nodewarden/core/Asides" "table" "[I" (.ref t)) (Fn : Fld Z h x "com/example/nodewarden/nodewarden/core/Asides" "count" "I" (.int (1 : Int32))) (Vt : Arv Z h t kt .int (5 : Int32) [(.int r0), (.int r1), (.int r2), (.int r3), (.int r4)] (.int (0 : Int32))) :
    Ctr l Z EL1 n0 (⟨"com/example/nodewarden/nodewarden/core/Asides", "isAt", "(III)Z"⟩ : MethodName) prog_3_method_5_code 4 (some .boolean) ({ frames := 0, cells := 0, slots := 0, locals := 0 } : Room) #[(.ref x), (.int (2 : Int32)), (.int qp), (.int qq)] h [] (fun v h' => v = some (.int 0) ∧ h' = h) := by
  have hw := X.hw
  obtain ⟨z1, hz1, hz2⟩ := X.2.2.1
  refine Ctr.intro (a0 := a0) (plainFor_of_name pn3) hO X.ew ?_
  intro p e s m below meth c T0 V0 S0 hby hml hret hnm hsf
  rw [ef16]
  refine s_iloadN S0 (hb hby dIA121_0) rfl (pc' := 1) rfl ?_
  refine s_aloadN S0 (hb hby dIA121_1) rfl rfl (pc' := 2) rfl ?_
  refine g_getF S0 (w40 hw) Via.refl Fn (hb hby dIA121_2) ?_
  intro T453 ST453
  show Go p e below _ (T453.setTop (mkF m 5 #[.val (.ref x), .val (.int (2 : Int32)), .val (.int qp), .val (.int qq)] [(.int (1 : Int32)), (.int (2 : Int32))]))
  refine s_icmpY ST453 (hb hby dIA121_5) (by decide) (by decide) (pcT := 40) (by decide) ?_
  refine s_iconst ST453 (hb hby dIA121_40) (v := (0 : Int32)) rfl (pc' := 41) rfl ?_
  exact g_iretN ST453 (hb hby dIA121_41) hret (by simp) ⟨rfl, rfl⟩
theorem dIA130_0 : decode prog_3_method_5_code 0 = .ok (.iload_n 1, 1) := by decide +kernel
theorem dIA130_1 : decode prog_3_method_5_code 1 = .ok (.aload_n 0, 1) := by decide +kernel
theorem dIA130_2 : decode prog_3_method_5_code 2 = .ok (.getfield 38, 3) := by decide +kernel
theorem dIA130_5 : decode prog_3_method_5_code 5 = .ok (.if_icmp .ge 35, 3) := by decide +kernel
theorem dIA130_40 : decode prog_3_method_5_code 40 = .ok (.iconst 0, 1) := by decide +kernel
theorem dIA130_41 : decode prog_3_method_5_code 41 = .ok (.ireturn, 1) := by decide +kernel
set_option maxRecDepth 65536 in
set_option maxHeartbeats 40000000 in
theorem rmIA130 {l : Launch} {Z : State} {a0 : Array Value} {n0 : Nat} (X : Ctx Z a0) {x t : Addr} {kt : ClassId} {qp qq : Int32} {r0 r1 r2 r3 r4 : Int32} {h : Heap} (hO : Old Z n0 h) (Ex : Exa Z h x "com/example/nodewarden/nodewarden/core/Asides") (Fb : Fld Z h x "com/example/nodewarden/nodewarden/core/Asides" "table" "[I" (.ref t)) (Fn : Fld Z h x "com/example/nodewarden/nodewarden/core/Asides" "count" "I" (.int (1 : Int32))) (Vt : Arv Z h t kt .int (80 : Int32) [(.int r0), (.int r1), (.int r2), (.int r3), (.int r4), (.int (0 : Int32)), (.int (0 : Int32)), (.int (0 : Int32)), (.int (0 : Int32)), (.int (0 : Int32)), (.int (0 : Int32)), (.int (0 : Int32)), (.int (0 : Int32)), (.int (0 : Int32)), (.int (0 : Int32))] (.int (0 : Int32))) :
    Ctr l Z EL1 n0 (⟨"com/example/nodewarden/nodewarden/core/Asides", "isAt", "(III)Z"⟩ : MethodName) prog_3_method_5_code 4 (some .boolean) ({ frames := 0, cells := 0, slots := 0, locals := 0 } : Room) #[(.ref x), (.int (3 : Int32)), (.int qp), (.int qq)] h [] (fun v h' => v = some (.int 0) ∧ h' = h) := by
  have hw := X.hw
  obtain ⟨z1, hz1, hz2⟩ := X.2.2.1
  refine Ctr.intro (a0 := a0) (plainFor_of_name pn3) hO X.ew ?_
  intro p e s m below meth c T0 V0 S0 hby hml hret hnm hsf
  rw [ef16]
  refine s_iloadN S0 (hb hby dIA130_0) rfl (pc' := 1) rfl ?_
  refine s_aloadN S0 (hb hby dIA130_1) rfl rfl (pc' := 2) rfl ?_
  refine g_getF S0 (w40 hw) Via.refl Fn (hb hby dIA130_2) ?_
  intro T454 ST454
  show Go p e below _ (T454.setTop (mkF m 5 #[.val (.ref x), .val (.int (3 : Int32)), .val (.int qp), .val (.int qq)] [(.int (1 : Int32)), (.int (3 : Int32))]))
  refine s_icmpY ST454 (hb hby dIA130_5) (by decide) (by decide) (pcT := 40) (by decide) ?_
  refine s_iconst ST454 (hb hby dIA130_40) (v := (0 : Int32)) rfl (pc' := 41) rfl ?_
  exact g_iretN ST454 (hb hby dIA130_41) hret (by simp) ⟨rfl, rfl⟩
theorem dIA131_0 : decode prog_3_method_5_code 0 = .ok (.iload_n 1, 1) := by decide +kernel
theorem dIA131_1 : decode prog_3_method_5_code 1 = .ok (.aload_n 0, 1) := by decide +kernel
theorem dIA131_2 : decode prog_3_method_5_code 2 = .ok (.getfield 38, 3) := by decide +kernel
theorem dIA131_5 : decode prog_3_method_5_code 5 = .ok (.if_icmp .ge 35, 3) := by decide +kernel
theorem dIA131_40 : decode prog_3_method_5_code 40 = .ok (.iconst 0, 1) := by decide +kernel
theorem dIA131_41 : decode prog_3_method_5_code 41 = .ok (.ireturn, 1) := by decide +kernel
set_option maxRecDepth 65536 in
set_option maxHeartbeats 40000000 in
theorem rmIA131 {l : Launch} {Z : State} {a0 : Array Value} {n0 : Nat} (X : Ctx Z a0) {x t : Addr} {kt : ClassId} {qp qq : Int32} {r0 r1 r2 r3 r4 : Int32} {h : Heap} (hO : Old Z n0 h) (Ex : Exa Z h x "com/example/nodewarden/nodewarden/core/Asides") (Fb : Fld Z h x "com/example/nodewarden/nodewarden/core/Asides" "table" "[I" (.ref t)) (Fn : Fld Z h x "com/example/nodewarden/nodewarden/core/Asides" "count" "I" (.int (1 : Int32))) (Vt : Arv Z h t kt .int (5 : Int32) [(.int r0), (.int r1), (.int r2), (.int r3), (.int r4)] (.int (0 : Int32))) :
    Ctr l Z EL1 n0 (⟨"com/example/nodewarden/nodewarden/core/Asides", "isAt", "(III)Z"⟩ : MethodName) prog_3_method_5_code 4 (some .boolean) ({ frames := 0, cells := 0, slots := 0, locals := 0 } : Room) #[(.ref x), (.int (3 : Int32)), (.int qp), (.int qq)] h [] (fun v h' => v = some (.int 0) ∧ h' = h) := by
  have hw := X.hw
  obtain ⟨z1, hz1, hz2⟩ := X.2.2.1
  refine Ctr.intro (a0 := a0) (plainFor_of_name pn3) hO X.ew ?_
  intro p e s m below meth c T0 V0 S0 hby hml hret hnm hsf
  rw [ef16]
  refine s_iloadN S0 (hb hby dIA131_0) rfl (pc' := 1) rfl ?_
  refine s_aloadN S0 (hb hby dIA131_1) rfl rfl (pc' := 2) rfl ?_
  refine g_getF S0 (w40 hw) Via.refl Fn (hb hby dIA131_2) ?_
  intro T455 ST455
  show Go p e below _ (T455.setTop (mkF m 5 #[.val (.ref x), .val (.int (3 : Int32)), .val (.int qp), .val (.int qq)] [(.int (1 : Int32)), (.int (3 : Int32))]))
  refine s_icmpY ST455 (hb hby dIA131_5) (by decide) (by decide) (pcT := 40) (by decide) ?_
  refine s_iconst ST455 (hb hby dIA131_40) (v := (0 : Int32)) rfl (pc' := 41) rfl ?_
  exact g_iretN ST455 (hb hby dIA131_41) hret (by simp) ⟨rfl, rfl⟩
theorem dIA200_0 : decode prog_3_method_5_code 0 = .ok (.iload_n 1, 1) := by decide +kernel
theorem dIA200_1 : decode prog_3_method_5_code 1 = .ok (.aload_n 0, 1) := by decide +kernel
theorem dIA200_2 : decode prog_3_method_5_code 2 = .ok (.getfield 38, 3) := by decide +kernel
theorem dIA200_5 : decode prog_3_method_5_code 5 = .ok (.if_icmp .ge 35, 3) := by decide +kernel
theorem dIA200_8 : decode prog_3_method_5_code 8 = .ok (.aload_n 0, 1) := by decide +kernel
theorem dIA200_9 : decode prog_3_method_5_code 9 = .ok (.getfield 16, 3) := by decide +kernel
theorem dIA200_12 : decode prog_3_method_5_code 12 = .ok (.iload_n 1, 1) := by decide +kernel
theorem dIA200_13 : decode prog_3_method_5_code 13 = .ok (.iconst 5, 1) := by decide +kernel
theorem dIA200_14 : decode prog_3_method_5_code 14 = .ok (.imul, 1) := by decide +kernel
theorem dIA200_15 : decode prog_3_method_5_code 15 = .ok (.iconst 0, 1) := by decide +kernel
theorem dIA200_16 : decode prog_3_method_5_code 16 = .ok (.iadd, 1) := by decide +kernel
theorem dIA200_17 : decode prog_3_method_5_code 17 = .ok (.iaload, 1) := by decide +kernel
theorem dIA200_18 : decode prog_3_method_5_code 18 = .ok (.iload_n 2, 1) := by decide +kernel
theorem dIA200_19 : decode prog_3_method_5_code 19 = .ok (.if_icmp .ne 21, 3) := by decide +kernel
theorem dIA200_22 : decode prog_3_method_5_code 22 = .ok (.aload_n 0, 1) := by decide +kernel
theorem dIA200_23 : decode prog_3_method_5_code 23 = .ok (.getfield 16, 3) := by decide +kernel
theorem dIA200_26 : decode prog_3_method_5_code 26 = .ok (.iload_n 1, 1) := by decide +kernel
theorem dIA200_27 : decode prog_3_method_5_code 27 = .ok (.iconst 5, 1) := by decide +kernel
theorem dIA200_28 : decode prog_3_method_5_code 28 = .ok (.imul, 1) := by decide +kernel
theorem dIA200_29 : decode prog_3_method_5_code 29 = .ok (.iconst 1, 1) := by decide +kernel
theorem dIA200_30 : decode prog_3_method_5_code 30 = .ok (.iadd, 1) := by decide +kernel
theorem dIA200_31 : decode prog_3_method_5_code 31 = .ok (.iaload, 1) := by decide +kernel
theorem dIA200_32 : decode prog_3_method_5_code 32 = .ok (.iload_n 3, 1) := by decide +kernel
theorem dIA200_33 : decode prog_3_method_5_code 33 = .ok (.if_icmp .ne 7, 3) := by decide +kernel
theorem dIA200_36 : decode prog_3_method_5_code 36 = .ok (.iconst 1, 1) := by decide +kernel
theorem dIA200_37 : decode prog_3_method_5_code 37 = .ok (.goto 4, 3) := by decide +kernel
theorem dIA200_40 : decode prog_3_method_5_code 40 = .ok (.iconst 0, 1) := by decide +kernel
theorem dIA200_41 : decode prog_3_method_5_code 41 = .ok (.ireturn, 1) := by decide +kernel
set_option maxRecDepth 65536 in
set_option maxHeartbeats 40000000 in
theorem rmIA200 {l : Launch} {Z : State} {a0 : Array Value} {n0 : Nat} (X : Ctx Z a0) {x t : Addr} {kt : ClassId} {qp qq : Int32} {r0 r1 r2 r3 r4 r5 r6 r7 r8 r9 : Int32} {h : Heap} (hO : Old Z n0 h) (Ex : Exa Z h x "com/example/nodewarden/nodewarden/core/Asides") (Fb : Fld Z h x "com/example/nodewarden/nodewarden/core/Asides" "table" "[I" (.ref t)) (Fn : Fld Z h x "com/example/nodewarden/nodewarden/core/Asides" "count" "I" (.int (2 : Int32))) (Vt : Arv Z h t kt .int (80 : Int32) [(.int r0), (.int r1), (.int r2), (.int r3), (.int r4), (.int r5), (.int r6), (.int r7), (.int r8), (.int r9), (.int (0 : Int32)), (.int (0 : Int32)), (.int (0 : Int32)), (.int (0 : Int32)), (.int (0 : Int32))] (.int (0 : Int32))) :
    Ctr l Z EL1 n0 (⟨"com/example/nodewarden/nodewarden/core/Asides", "isAt", "(III)Z"⟩ : MethodName) prog_3_method_5_code 4 (some .boolean) ({ frames := 0, cells := 0, slots := 0, locals := 0 } : Room) #[(.ref x), (.int (0 : Int32)), (.int qp), (.int qq)] h [] (fun v h' => ∃ r : Int32, v = some (.int r) ∧ ((r = 1 ∧ r0 = qp ∧ r1 = qq) ∨ (r = 0 ∧ ¬ (r0 = qp ∧ r1 = qq))) ∧ h' = h) := by
  have hw := X.hw
  obtain ⟨z1, hz1, hz2⟩ := X.2.2.1
  refine Ctr.intro (a0 := a0) (plainFor_of_name pn3) hO X.ew ?_
  intro p e s m below meth c T0 V0 S0 hby hml hret hnm hsf
  rw [ef16]
  refine s_iloadN S0 (hb hby dIA200_0) rfl (pc' := 1) rfl ?_
  refine s_aloadN S0 (hb hby dIA200_1) rfl rfl (pc' := 2) rfl ?_
  refine g_getF S0 (w40 hw) Via.refl Fn (hb hby dIA200_2) ?_
  intro T456 ST456
  show Go p e below _ (T456.setTop (mkF m 5 #[.val (.ref x), .val (.int (0 : Int32)), .val (.int qp), .val (.int qq)] [(.int (2 : Int32)), (.int (0 : Int32))]))
  refine s_icmpN ST456 (hb hby dIA200_5) (by decide) (pc' := 8) rfl ?_
  refine s_aloadN ST456 (hb hby dIA200_8) rfl rfl (pc' := 9) rfl ?_
  refine g_getF ST456 (w32 hw) Via.refl Fb (hb hby dIA200_9) ?_
  intro T457 ST457
  show Go p e below _ (T457.setTop (mkF m 12 #[.val (.ref x), .val (.int (0 : Int32)), .val (.int qp), .val (.int qq)] [(.ref t)]))
  refine s_iloadN ST457 (hb hby dIA200_12) rfl (pc' := 13) rfl ?_
  refine s_iconst ST457 (hb hby dIA200_13) (v := (5 : Int32)) rfl (pc' := 14) rfl ?_
  refine s_imul ST457 (hb hby dIA200_14) (z := (0 : Int32)) rfl (pc' := 15) rfl ?_
  refine s_iconst ST457 (hb hby dIA200_15) (v := (0 : Int32)) rfl (pc' := 16) rfl ?_
  refine s_iadd ST457 (hb hby dIA200_16) (z := (0 : Int32)) rfl (pc' := 17) rfl ?_
  refine g_iaload ST457 Vt ⟨by decide, by decide⟩ (x := r0) rfl (hb hby dIA200_17) ?_
  show Go p e below _ (T457.setTop (mkF m 18 #[.val (.ref x), .val (.int (0 : Int32)), .val (.int qp), .val (.int qq)] [(.int r0)]))
  refine s_iloadN ST457 (hb hby dIA200_18) rfl (pc' := 19) rfl ?_
  refine g_icmp ST457 (hb hby dIA200_19) (by decide) (pcT := 40) (by decide) (fun q => ?_) (fun q => ?_)
  · have hc19_458 : ¬ r0 = qp := icT_ne q
    show Go p e below _ (T457.setTop (mkF m 40 #[.val (.ref x), .val (.int (0 : Int32)), .val (.int qp), .val (.int qq)] []))
    refine s_iconst ST457 (hb hby dIA200_40) (v := (0 : Int32)) rfl (pc' := 41) rfl ?_
    show Go p e below _ (T457.setTop (mkF m 41 #[.val (.ref x), .val (.int (0 : Int32)), .val (.int qp), .val (.int qq)] [(.int (0 : Int32))]))
    exact g_iretN ST457 (hb hby dIA200_41) hret (by simp) ⟨_, rfl, Or.inr ⟨rfl, fun q => absurd q.1 hc19_458⟩, rfl⟩
  · have hc19_458 : r0 = qp := icF_ne q
    show Go p e below _ (T457.setTop (mkF m 22 #[.val (.ref x), .val (.int (0 : Int32)), .val (.int qp), .val (.int qq)] []))
    refine s_aloadN ST457 (hb hby dIA200_22) rfl rfl (pc' := 23) rfl ?_
    refine g_getF ST457 (w32 hw) Via.refl Fb (hb hby dIA200_23) ?_
    intro T459 ST459
    show Go p e below _ (T459.setTop (mkF m 26 #[.val (.ref x), .val (.int (0 : Int32)), .val (.int qp), .val (.int qq)] [(.ref t)]))
    refine s_iloadN ST459 (hb hby dIA200_26) rfl (pc' := 27) rfl ?_
    refine s_iconst ST459 (hb hby dIA200_27) (v := (5 : Int32)) rfl (pc' := 28) rfl ?_
    refine s_imul ST459 (hb hby dIA200_28) (z := (0 : Int32)) rfl (pc' := 29) rfl ?_
    refine s_iconst ST459 (hb hby dIA200_29) (v := (1 : Int32)) rfl (pc' := 30) rfl ?_
    refine s_iadd ST459 (hb hby dIA200_30) (z := (1 : Int32)) rfl (pc' := 31) rfl ?_
    refine g_iaload ST459 Vt ⟨by decide, by decide⟩ (x := r1) rfl (hb hby dIA200_31) ?_
    show Go p e below _ (T459.setTop (mkF m 32 #[.val (.ref x), .val (.int (0 : Int32)), .val (.int qp), .val (.int qq)] [(.int r1)]))
    refine s_iloadN ST459 (hb hby dIA200_32) rfl (pc' := 33) rfl ?_
    refine g_icmp ST459 (hb hby dIA200_33) (by decide) (pcT := 40) (by decide) (fun q => ?_) (fun q => ?_)
    · have hc33_460 : ¬ r1 = qq := icT_ne q
      show Go p e below _ (T459.setTop (mkF m 40 #[.val (.ref x), .val (.int (0 : Int32)), .val (.int qp), .val (.int qq)] []))
      refine s_iconst ST459 (hb hby dIA200_40) (v := (0 : Int32)) rfl (pc' := 41) rfl ?_
      show Go p e below _ (T459.setTop (mkF m 41 #[.val (.ref x), .val (.int (0 : Int32)), .val (.int qp), .val (.int qq)] [(.int (0 : Int32))]))
      exact g_iretN ST459 (hb hby dIA200_41) hret (by simp) ⟨_, rfl, Or.inr ⟨rfl, fun q => absurd q.2 hc33_460⟩, rfl⟩
    · have hc33_460 : r1 = qq := icF_ne q
      show Go p e below _ (T459.setTop (mkF m 36 #[.val (.ref x), .val (.int (0 : Int32)), .val (.int qp), .val (.int qq)] []))
      refine s_iconst ST459 (hb hby dIA200_36) (v := (1 : Int32)) rfl (pc' := 37) rfl ?_
      refine s_goto ST459 (hb hby dIA200_37) (by decide) (pcT := 41) (by decide) ?_
      show Go p e below _ (T459.setTop (mkF m 41 #[.val (.ref x), .val (.int (0 : Int32)), .val (.int qp), .val (.int qq)] [(.int (1 : Int32))]))
      exact g_iretN ST459 (hb hby dIA200_41) hret (by simp) ⟨_, rfl, Or.inl ⟨rfl, hc19_458, hc33_460⟩, rfl⟩
theorem dIA201_0 : decode prog_3_method_5_code 0 = .ok (.iload_n 1, 1) := by decide +kernel
theorem dIA201_1 : decode prog_3_method_5_code 1 = .ok (.aload_n 0, 1) := by decide +kernel
theorem dIA201_2 : decode prog_3_method_5_code 2 = .ok (.getfield 38, 3) := by decide +kernel
theorem dIA201_5 : decode prog_3_method_5_code 5 = .ok (.if_icmp .ge 35, 3) := by decide +kernel
theorem dIA201_8 : decode prog_3_method_5_code 8 = .ok (.aload_n 0, 1) := by decide +kernel
theorem dIA201_9 : decode prog_3_method_5_code 9 = .ok (.getfield 16, 3) := by decide +kernel
theorem dIA201_12 : decode prog_3_method_5_code 12 = .ok (.iload_n 1, 1) := by decide +kernel
theorem dIA201_13 : decode prog_3_method_5_code 13 = .ok (.iconst 5, 1) := by decide +kernel
theorem dIA201_14 : decode prog_3_method_5_code 14 = .ok (.imul, 1) := by decide +kernel
theorem dIA201_15 : decode prog_3_method_5_code 15 = .ok (.iconst 0, 1) := by decide +kernel
theorem dIA201_16 : decode prog_3_method_5_code 16 = .ok (.iadd, 1) := by decide +kernel
theorem dIA201_17 : decode prog_3_method_5_code 17 = .ok (.iaload, 1) := by decide +kernel
theorem dIA201_18 : decode prog_3_method_5_code 18 = .ok (.iload_n 2, 1) := by decide +kernel
theorem dIA201_19 : decode prog_3_method_5_code 19 = .ok (.if_icmp .ne 21, 3) := by decide +kernel
theorem dIA201_22 : decode prog_3_method_5_code 22 = .ok (.aload_n 0, 1) := by decide +kernel
theorem dIA201_23 : decode prog_3_method_5_code 23 = .ok (.getfield 16, 3) := by decide +kernel
theorem dIA201_26 : decode prog_3_method_5_code 26 = .ok (.iload_n 1, 1) := by decide +kernel
theorem dIA201_27 : decode prog_3_method_5_code 27 = .ok (.iconst 5, 1) := by decide +kernel
theorem dIA201_28 : decode prog_3_method_5_code 28 = .ok (.imul, 1) := by decide +kernel
theorem dIA201_29 : decode prog_3_method_5_code 29 = .ok (.iconst 1, 1) := by decide +kernel
theorem dIA201_30 : decode prog_3_method_5_code 30 = .ok (.iadd, 1) := by decide +kernel
theorem dIA201_31 : decode prog_3_method_5_code 31 = .ok (.iaload, 1) := by decide +kernel
theorem dIA201_32 : decode prog_3_method_5_code 32 = .ok (.iload_n 3, 1) := by decide +kernel
theorem dIA201_33 : decode prog_3_method_5_code 33 = .ok (.if_icmp .ne 7, 3) := by decide +kernel
theorem dIA201_36 : decode prog_3_method_5_code 36 = .ok (.iconst 1, 1) := by decide +kernel
theorem dIA201_37 : decode prog_3_method_5_code 37 = .ok (.goto 4, 3) := by decide +kernel
theorem dIA201_40 : decode prog_3_method_5_code 40 = .ok (.iconst 0, 1) := by decide +kernel
theorem dIA201_41 : decode prog_3_method_5_code 41 = .ok (.ireturn, 1) := by decide +kernel
set_option maxRecDepth 65536 in
set_option maxHeartbeats 40000000 in
theorem rmIA201 {l : Launch} {Z : State} {a0 : Array Value} {n0 : Nat} (X : Ctx Z a0) {x t : Addr} {kt : ClassId} {qp qq : Int32} {r0 r1 r2 r3 r4 r5 r6 r7 r8 r9 : Int32} {h : Heap} (hO : Old Z n0 h) (Ex : Exa Z h x "com/example/nodewarden/nodewarden/core/Asides") (Fb : Fld Z h x "com/example/nodewarden/nodewarden/core/Asides" "table" "[I" (.ref t)) (Fn : Fld Z h x "com/example/nodewarden/nodewarden/core/Asides" "count" "I" (.int (2 : Int32))) (Vt : Arv Z h t kt .int (10 : Int32) [(.int r0), (.int r1), (.int r2), (.int r3), (.int r4), (.int r5), (.int r6), (.int r7), (.int r8), (.int r9)] (.int (0 : Int32))) :
    Ctr l Z EL1 n0 (⟨"com/example/nodewarden/nodewarden/core/Asides", "isAt", "(III)Z"⟩ : MethodName) prog_3_method_5_code 4 (some .boolean) ({ frames := 0, cells := 0, slots := 0, locals := 0 } : Room) #[(.ref x), (.int (0 : Int32)), (.int qp), (.int qq)] h [] (fun v h' => ∃ r : Int32, v = some (.int r) ∧ ((r = 1 ∧ r0 = qp ∧ r1 = qq) ∨ (r = 0 ∧ ¬ (r0 = qp ∧ r1 = qq))) ∧ h' = h) := by
  have hw := X.hw
  obtain ⟨z1, hz1, hz2⟩ := X.2.2.1
  refine Ctr.intro (a0 := a0) (plainFor_of_name pn3) hO X.ew ?_
  intro p e s m below meth c T0 V0 S0 hby hml hret hnm hsf
  rw [ef16]
  refine s_iloadN S0 (hb hby dIA201_0) rfl (pc' := 1) rfl ?_
  refine s_aloadN S0 (hb hby dIA201_1) rfl rfl (pc' := 2) rfl ?_
  refine g_getF S0 (w40 hw) Via.refl Fn (hb hby dIA201_2) ?_
  intro T461 ST461
  show Go p e below _ (T461.setTop (mkF m 5 #[.val (.ref x), .val (.int (0 : Int32)), .val (.int qp), .val (.int qq)] [(.int (2 : Int32)), (.int (0 : Int32))]))
  refine s_icmpN ST461 (hb hby dIA201_5) (by decide) (pc' := 8) rfl ?_
  refine s_aloadN ST461 (hb hby dIA201_8) rfl rfl (pc' := 9) rfl ?_
  refine g_getF ST461 (w32 hw) Via.refl Fb (hb hby dIA201_9) ?_
  intro T462 ST462
  show Go p e below _ (T462.setTop (mkF m 12 #[.val (.ref x), .val (.int (0 : Int32)), .val (.int qp), .val (.int qq)] [(.ref t)]))
  refine s_iloadN ST462 (hb hby dIA201_12) rfl (pc' := 13) rfl ?_
  refine s_iconst ST462 (hb hby dIA201_13) (v := (5 : Int32)) rfl (pc' := 14) rfl ?_
  refine s_imul ST462 (hb hby dIA201_14) (z := (0 : Int32)) rfl (pc' := 15) rfl ?_
  refine s_iconst ST462 (hb hby dIA201_15) (v := (0 : Int32)) rfl (pc' := 16) rfl ?_
  refine s_iadd ST462 (hb hby dIA201_16) (z := (0 : Int32)) rfl (pc' := 17) rfl ?_
  refine g_iaload ST462 Vt ⟨by decide, by decide⟩ (x := r0) rfl (hb hby dIA201_17) ?_
  show Go p e below _ (T462.setTop (mkF m 18 #[.val (.ref x), .val (.int (0 : Int32)), .val (.int qp), .val (.int qq)] [(.int r0)]))
  refine s_iloadN ST462 (hb hby dIA201_18) rfl (pc' := 19) rfl ?_
  refine g_icmp ST462 (hb hby dIA201_19) (by decide) (pcT := 40) (by decide) (fun q => ?_) (fun q => ?_)
  · have hc19_463 : ¬ r0 = qp := icT_ne q
    show Go p e below _ (T462.setTop (mkF m 40 #[.val (.ref x), .val (.int (0 : Int32)), .val (.int qp), .val (.int qq)] []))
    refine s_iconst ST462 (hb hby dIA201_40) (v := (0 : Int32)) rfl (pc' := 41) rfl ?_
    show Go p e below _ (T462.setTop (mkF m 41 #[.val (.ref x), .val (.int (0 : Int32)), .val (.int qp), .val (.int qq)] [(.int (0 : Int32))]))
    exact g_iretN ST462 (hb hby dIA201_41) hret (by simp) ⟨_, rfl, Or.inr ⟨rfl, fun q => absurd q.1 hc19_463⟩, rfl⟩
  · have hc19_463 : r0 = qp := icF_ne q
    show Go p e below _ (T462.setTop (mkF m 22 #[.val (.ref x), .val (.int (0 : Int32)), .val (.int qp), .val (.int qq)] []))
    refine s_aloadN ST462 (hb hby dIA201_22) rfl rfl (pc' := 23) rfl ?_
    refine g_getF ST462 (w32 hw) Via.refl Fb (hb hby dIA201_23) ?_
    intro T464 ST464
    show Go p e below _ (T464.setTop (mkF m 26 #[.val (.ref x), .val (.int (0 : Int32)), .val (.int qp), .val (.int qq)] [(.ref t)]))
    refine s_iloadN ST464 (hb hby dIA201_26) rfl (pc' := 27) rfl ?_
    refine s_iconst ST464 (hb hby dIA201_27) (v := (5 : Int32)) rfl (pc' := 28) rfl ?_
    refine s_imul ST464 (hb hby dIA201_28) (z := (0 : Int32)) rfl (pc' := 29) rfl ?_
    refine s_iconst ST464 (hb hby dIA201_29) (v := (1 : Int32)) rfl (pc' := 30) rfl ?_
    refine s_iadd ST464 (hb hby dIA201_30) (z := (1 : Int32)) rfl (pc' := 31) rfl ?_
    refine g_iaload ST464 Vt ⟨by decide, by decide⟩ (x := r1) rfl (hb hby dIA201_31) ?_
    show Go p e below _ (T464.setTop (mkF m 32 #[.val (.ref x), .val (.int (0 : Int32)), .val (.int qp), .val (.int qq)] [(.int r1)]))
    refine s_iloadN ST464 (hb hby dIA201_32) rfl (pc' := 33) rfl ?_
    refine g_icmp ST464 (hb hby dIA201_33) (by decide) (pcT := 40) (by decide) (fun q => ?_) (fun q => ?_)
    · have hc33_465 : ¬ r1 = qq := icT_ne q
      show Go p e below _ (T464.setTop (mkF m 40 #[.val (.ref x), .val (.int (0 : Int32)), .val (.int qp), .val (.int qq)] []))
      refine s_iconst ST464 (hb hby dIA201_40) (v := (0 : Int32)) rfl (pc' := 41) rfl ?_
      show Go p e below _ (T464.setTop (mkF m 41 #[.val (.ref x), .val (.int (0 : Int32)), .val (.int qp), .val (.int qq)] [(.int (0 : Int32))]))
      exact g_iretN ST464 (hb hby dIA201_41) hret (by simp) ⟨_, rfl, Or.inr ⟨rfl, fun q => absurd q.2 hc33_465⟩, rfl⟩
    · have hc33_465 : r1 = qq := icF_ne q
      show Go p e below _ (T464.setTop (mkF m 36 #[.val (.ref x), .val (.int (0 : Int32)), .val (.int qp), .val (.int qq)] []))
      refine s_iconst ST464 (hb hby dIA201_36) (v := (1 : Int32)) rfl (pc' := 37) rfl ?_
      refine s_goto ST464 (hb hby dIA201_37) (by decide) (pcT := 41) (by decide) ?_
      show Go p e below _ (T464.setTop (mkF m 41 #[.val (.ref x), .val (.int (0 : Int32)), .val (.int qp), .val (.int qq)] [(.int (1 : Int32))]))
      exact g_iretN ST464 (hb hby dIA201_41) hret (by simp) ⟨_, rfl, Or.inl ⟨rfl, hc19_463, hc33_465⟩, rfl⟩
theorem dIA210_0 : decode prog_3_method_5_code 0 = .ok (.iload_n 1, 1) := by decide +kernel
theorem dIA210_1 : decode prog_3_method_5_code 1 = .ok (.aload_n 0, 1) := by decide +kernel
theorem dIA210_2 : decode prog_3_method_5_code 2 = .ok (.getfield 38, 3) := by decide +kernel
theorem dIA210_5 : decode prog_3_method_5_code 5 = .ok (.if_icmp .ge 35, 3) := by decide +kernel
theorem dIA210_8 : decode prog_3_method_5_code 8 = .ok (.aload_n 0, 1) := by decide +kernel
theorem dIA210_9 : decode prog_3_method_5_code 9 = .ok (.getfield 16, 3) := by decide +kernel
theorem dIA210_12 : decode prog_3_method_5_code 12 = .ok (.iload_n 1, 1) := by decide +kernel
theorem dIA210_13 : decode prog_3_method_5_code 13 = .ok (.iconst 5, 1) := by decide +kernel
theorem dIA210_14 : decode prog_3_method_5_code 14 = .ok (.imul, 1) := by decide +kernel
theorem dIA210_15 : decode prog_3_method_5_code 15 = .ok (.iconst 0, 1) := by decide +kernel
theorem dIA210_16 : decode prog_3_method_5_code 16 = .ok (.iadd, 1) := by decide +kernel
theorem dIA210_17 : decode prog_3_method_5_code 17 = .ok (.iaload, 1) := by decide +kernel
theorem dIA210_18 : decode prog_3_method_5_code 18 = .ok (.iload_n 2, 1) := by decide +kernel
theorem dIA210_19 : decode prog_3_method_5_code 19 = .ok (.if_icmp .ne 21, 3) := by decide +kernel
theorem dIA210_22 : decode prog_3_method_5_code 22 = .ok (.aload_n 0, 1) := by decide +kernel
theorem dIA210_23 : decode prog_3_method_5_code 23 = .ok (.getfield 16, 3) := by decide +kernel
theorem dIA210_26 : decode prog_3_method_5_code 26 = .ok (.iload_n 1, 1) := by decide +kernel
theorem dIA210_27 : decode prog_3_method_5_code 27 = .ok (.iconst 5, 1) := by decide +kernel
theorem dIA210_28 : decode prog_3_method_5_code 28 = .ok (.imul, 1) := by decide +kernel
theorem dIA210_29 : decode prog_3_method_5_code 29 = .ok (.iconst 1, 1) := by decide +kernel
theorem dIA210_30 : decode prog_3_method_5_code 30 = .ok (.iadd, 1) := by decide +kernel
theorem dIA210_31 : decode prog_3_method_5_code 31 = .ok (.iaload, 1) := by decide +kernel
theorem dIA210_32 : decode prog_3_method_5_code 32 = .ok (.iload_n 3, 1) := by decide +kernel
theorem dIA210_33 : decode prog_3_method_5_code 33 = .ok (.if_icmp .ne 7, 3) := by decide +kernel
theorem dIA210_36 : decode prog_3_method_5_code 36 = .ok (.iconst 1, 1) := by decide +kernel
theorem dIA210_37 : decode prog_3_method_5_code 37 = .ok (.goto 4, 3) := by decide +kernel
theorem dIA210_40 : decode prog_3_method_5_code 40 = .ok (.iconst 0, 1) := by decide +kernel
theorem dIA210_41 : decode prog_3_method_5_code 41 = .ok (.ireturn, 1) := by decide +kernel
set_option maxRecDepth 65536 in
set_option maxHeartbeats 40000000 in
theorem rmIA210 {l : Launch} {Z : State} {a0 : Array Value} {n0 : Nat} (X : Ctx Z a0) {x t : Addr} {kt : ClassId} {qp qq : Int32} {r0 r1 r2 r3 r4 r5 r6 r7 r8 r9 : Int32} {h : Heap} (hO : Old Z n0 h) (Ex : Exa Z h x "com/example/nodewarden/nodewarden/core/Asides") (Fb : Fld Z h x "com/example/nodewarden/nodewarden/core/Asides" "table" "[I" (.ref t)) (Fn : Fld Z h x "com/example/nodewarden/nodewarden/core/Asides" "count" "I" (.int (2 : Int32))) (Vt : Arv Z h t kt .int (80 : Int32) [(.int r0), (.int r1), (.int r2), (.int r3), (.int r4), (.int r5), (.int r6), (.int r7), (.int r8), (.int r9), (.int (0 : Int32)), (.int (0 : Int32)), (.int (0 : Int32)), (.int (0 : Int32)), (.int (0 : Int32))] (.int (0 : Int32))) :
    Ctr l Z EL1 n0 (⟨"com/example/nodewarden/nodewarden/core/Asides", "isAt", "(III)Z"⟩ : MethodName) prog_3_method_5_code 4 (some .boolean) ({ frames := 0, cells := 0, slots := 0, locals := 0 } : Room) #[(.ref x), (.int (1 : Int32)), (.int qp), (.int qq)] h [] (fun v h' => ∃ r : Int32, v = some (.int r) ∧ ((r = 1 ∧ r5 = qp ∧ r6 = qq) ∨ (r = 0 ∧ ¬ (r5 = qp ∧ r6 = qq))) ∧ h' = h) := by
  have hw := X.hw
  obtain ⟨z1, hz1, hz2⟩ := X.2.2.1
  refine Ctr.intro (a0 := a0) (plainFor_of_name pn3) hO X.ew ?_
  intro p e s m below meth c T0 V0 S0 hby hml hret hnm hsf
  rw [ef16]
  refine s_iloadN S0 (hb hby dIA210_0) rfl (pc' := 1) rfl ?_
  refine s_aloadN S0 (hb hby dIA210_1) rfl rfl (pc' := 2) rfl ?_
  refine g_getF S0 (w40 hw) Via.refl Fn (hb hby dIA210_2) ?_
  intro T466 ST466
  show Go p e below _ (T466.setTop (mkF m 5 #[.val (.ref x), .val (.int (1 : Int32)), .val (.int qp), .val (.int qq)] [(.int (2 : Int32)), (.int (1 : Int32))]))
  refine s_icmpN ST466 (hb hby dIA210_5) (by decide) (pc' := 8) rfl ?_
  refine s_aloadN ST466 (hb hby dIA210_8) rfl rfl (pc' := 9) rfl ?_
  refine g_getF ST466 (w32 hw) Via.refl Fb (hb hby dIA210_9) ?_
  intro T467 ST467
  show Go p e below _ (T467.setTop (mkF m 12 #[.val (.ref x), .val (.int (1 : Int32)), .val (.int qp), .val (.int qq)] [(.ref t)]))
  refine s_iloadN ST467 (hb hby dIA210_12) rfl (pc' := 13) rfl ?_
  refine s_iconst ST467 (hb hby dIA210_13) (v := (5 : Int32)) rfl (pc' := 14) rfl ?_
  refine s_imul ST467 (hb hby dIA210_14) (z := (5 : Int32)) rfl (pc' := 15) rfl ?_
  refine s_iconst ST467 (hb hby dIA210_15) (v := (0 : Int32)) rfl (pc' := 16) rfl ?_
  refine s_iadd ST467 (hb hby dIA210_16) (z := (5 : Int32)) rfl (pc' := 17) rfl ?_
  refine g_iaload ST467 Vt ⟨by decide, by decide⟩ (x := r5) rfl (hb hby dIA210_17) ?_
  show Go p e below _ (T467.setTop (mkF m 18 #[.val (.ref x), .val (.int (1 : Int32)), .val (.int qp), .val (.int qq)] [(.int r5)]))
  refine s_iloadN ST467 (hb hby dIA210_18) rfl (pc' := 19) rfl ?_
  refine g_icmp ST467 (hb hby dIA210_19) (by decide) (pcT := 40) (by decide) (fun q => ?_) (fun q => ?_)
  · have hc19_468 : ¬ r5 = qp := icT_ne q
    show Go p e below _ (T467.setTop (mkF m 40 #[.val (.ref x), .val (.int (1 : Int32)), .val (.int qp), .val (.int qq)] []))
    refine s_iconst ST467 (hb hby dIA210_40) (v := (0 : Int32)) rfl (pc' := 41) rfl ?_
    show Go p e below _ (T467.setTop (mkF m 41 #[.val (.ref x), .val (.int (1 : Int32)), .val (.int qp), .val (.int qq)] [(.int (0 : Int32))]))
    exact g_iretN ST467 (hb hby dIA210_41) hret (by simp) ⟨_, rfl, Or.inr ⟨rfl, fun q => absurd q.1 hc19_468⟩, rfl⟩
  · have hc19_468 : r5 = qp := icF_ne q
    show Go p e below _ (T467.setTop (mkF m 22 #[.val (.ref x), .val (.int (1 : Int32)), .val (.int qp), .val (.int qq)] []))
    refine s_aloadN ST467 (hb hby dIA210_22) rfl rfl (pc' := 23) rfl ?_
    refine g_getF ST467 (w32 hw) Via.refl Fb (hb hby dIA210_23) ?_
    intro T469 ST469
    show Go p e below _ (T469.setTop (mkF m 26 #[.val (.ref x), .val (.int (1 : Int32)), .val (.int qp), .val (.int qq)] [(.ref t)]))
    refine s_iloadN ST469 (hb hby dIA210_26) rfl (pc' := 27) rfl ?_
    refine s_iconst ST469 (hb hby dIA210_27) (v := (5 : Int32)) rfl (pc' := 28) rfl ?_
    refine s_imul ST469 (hb hby dIA210_28) (z := (5 : Int32)) rfl (pc' := 29) rfl ?_
    refine s_iconst ST469 (hb hby dIA210_29) (v := (1 : Int32)) rfl (pc' := 30) rfl ?_
    refine s_iadd ST469 (hb hby dIA210_30) (z := (6 : Int32)) rfl (pc' := 31) rfl ?_
    refine g_iaload ST469 Vt ⟨by decide, by decide⟩ (x := r6) rfl (hb hby dIA210_31) ?_
    show Go p e below _ (T469.setTop (mkF m 32 #[.val (.ref x), .val (.int (1 : Int32)), .val (.int qp), .val (.int qq)] [(.int r6)]))
    refine s_iloadN ST469 (hb hby dIA210_32) rfl (pc' := 33) rfl ?_
    refine g_icmp ST469 (hb hby dIA210_33) (by decide) (pcT := 40) (by decide) (fun q => ?_) (fun q => ?_)
    · have hc33_470 : ¬ r6 = qq := icT_ne q
      show Go p e below _ (T469.setTop (mkF m 40 #[.val (.ref x), .val (.int (1 : Int32)), .val (.int qp), .val (.int qq)] []))
      refine s_iconst ST469 (hb hby dIA210_40) (v := (0 : Int32)) rfl (pc' := 41) rfl ?_
      show Go p e below _ (T469.setTop (mkF m 41 #[.val (.ref x), .val (.int (1 : Int32)), .val (.int qp), .val (.int qq)] [(.int (0 : Int32))]))
      exact g_iretN ST469 (hb hby dIA210_41) hret (by simp) ⟨_, rfl, Or.inr ⟨rfl, fun q => absurd q.2 hc33_470⟩, rfl⟩
    · have hc33_470 : r6 = qq := icF_ne q
      show Go p e below _ (T469.setTop (mkF m 36 #[.val (.ref x), .val (.int (1 : Int32)), .val (.int qp), .val (.int qq)] []))
      refine s_iconst ST469 (hb hby dIA210_36) (v := (1 : Int32)) rfl (pc' := 37) rfl ?_
      refine s_goto ST469 (hb hby dIA210_37) (by decide) (pcT := 41) (by decide) ?_
      show Go p e below _ (T469.setTop (mkF m 41 #[.val (.ref x), .val (.int (1 : Int32)), .val (.int qp), .val (.int qq)] [(.int (1 : Int32))]))
      exact g_iretN ST469 (hb hby dIA210_41) hret (by simp) ⟨_, rfl, Or.inl ⟨rfl, hc19_468, hc33_470⟩, rfl⟩
theorem dIA211_0 : decode prog_3_method_5_code 0 = .ok (.iload_n 1, 1) := by decide +kernel
theorem dIA211_1 : decode prog_3_method_5_code 1 = .ok (.aload_n 0, 1) := by decide +kernel
theorem dIA211_2 : decode prog_3_method_5_code 2 = .ok (.getfield 38, 3) := by decide +kernel
theorem dIA211_5 : decode prog_3_method_5_code 5 = .ok (.if_icmp .ge 35, 3) := by decide +kernel
theorem dIA211_8 : decode prog_3_method_5_code 8 = .ok (.aload_n 0, 1) := by decide +kernel
theorem dIA211_9 : decode prog_3_method_5_code 9 = .ok (.getfield 16, 3) := by decide +kernel
theorem dIA211_12 : decode prog_3_method_5_code 12 = .ok (.iload_n 1, 1) := by decide +kernel
theorem dIA211_13 : decode prog_3_method_5_code 13 = .ok (.iconst 5, 1) := by decide +kernel
theorem dIA211_14 : decode prog_3_method_5_code 14 = .ok (.imul, 1) := by decide +kernel
theorem dIA211_15 : decode prog_3_method_5_code 15 = .ok (.iconst 0, 1) := by decide +kernel
theorem dIA211_16 : decode prog_3_method_5_code 16 = .ok (.iadd, 1) := by decide +kernel
theorem dIA211_17 : decode prog_3_method_5_code 17 = .ok (.iaload, 1) := by decide +kernel
theorem dIA211_18 : decode prog_3_method_5_code 18 = .ok (.iload_n 2, 1) := by decide +kernel
theorem dIA211_19 : decode prog_3_method_5_code 19 = .ok (.if_icmp .ne 21, 3) := by decide +kernel
theorem dIA211_22 : decode prog_3_method_5_code 22 = .ok (.aload_n 0, 1) := by decide +kernel
theorem dIA211_23 : decode prog_3_method_5_code 23 = .ok (.getfield 16, 3) := by decide +kernel
theorem dIA211_26 : decode prog_3_method_5_code 26 = .ok (.iload_n 1, 1) := by decide +kernel
theorem dIA211_27 : decode prog_3_method_5_code 27 = .ok (.iconst 5, 1) := by decide +kernel
theorem dIA211_28 : decode prog_3_method_5_code 28 = .ok (.imul, 1) := by decide +kernel
theorem dIA211_29 : decode prog_3_method_5_code 29 = .ok (.iconst 1, 1) := by decide +kernel
theorem dIA211_30 : decode prog_3_method_5_code 30 = .ok (.iadd, 1) := by decide +kernel
theorem dIA211_31 : decode prog_3_method_5_code 31 = .ok (.iaload, 1) := by decide +kernel
theorem dIA211_32 : decode prog_3_method_5_code 32 = .ok (.iload_n 3, 1) := by decide +kernel
theorem dIA211_33 : decode prog_3_method_5_code 33 = .ok (.if_icmp .ne 7, 3) := by decide +kernel
theorem dIA211_36 : decode prog_3_method_5_code 36 = .ok (.iconst 1, 1) := by decide +kernel
theorem dIA211_37 : decode prog_3_method_5_code 37 = .ok (.goto 4, 3) := by decide +kernel
theorem dIA211_40 : decode prog_3_method_5_code 40 = .ok (.iconst 0, 1) := by decide +kernel
theorem dIA211_41 : decode prog_3_method_5_code 41 = .ok (.ireturn, 1) := by decide +kernel
set_option maxRecDepth 65536 in
set_option maxHeartbeats 40000000 in
theorem rmIA211 {l : Launch} {Z : State} {a0 : Array Value} {n0 : Nat} (X : Ctx Z a0) {x t : Addr} {kt : ClassId} {qp qq : Int32} {r0 r1 r2 r3 r4 r5 r6 r7 r8 r9 : Int32} {h : Heap} (hO : Old Z n0 h) (Ex : Exa Z h x "com/example/nodewarden/nodewarden/core/Asides") (Fb : Fld Z h x "com/example/nodewarden/nodewarden/core/Asides" "table" "[I" (.ref t)) (Fn : Fld Z h x "com/example/nodewarden/nodewarden/core/Asides" "count" "I" (.int (2 : Int32))) (Vt : Arv Z h t kt .int (10 : Int32) [(.int r0), (.int r1), (.int r2), (.int r3), (.int r4), (.int r5), (.int r6), (.int r7), (.int r8), (.int r9)] (.int (0 : Int32))) :
    Ctr l Z EL1 n0 (⟨"com/example/nodewarden/nodewarden/core/Asides", "isAt", "(III)Z"⟩ : MethodName) prog_3_method_5_code 4 (some .boolean) ({ frames := 0, cells := 0, slots := 0, locals := 0 } : Room) #[(.ref x), (.int (1 : Int32)), (.int qp), (.int qq)] h [] (fun v h' => ∃ r : Int32, v = some (.int r) ∧ ((r = 1 ∧ r5 = qp ∧ r6 = qq) ∨ (r = 0 ∧ ¬ (r5 = qp ∧ r6 = qq))) ∧ h' = h) := by
  have hw := X.hw
  obtain ⟨z1, hz1, hz2⟩ := X.2.2.1
  refine Ctr.intro (a0 := a0) (plainFor_of_name pn3) hO X.ew ?_
  intro p e s m below meth c T0 V0 S0 hby hml hret hnm hsf
  rw [ef16]
  refine s_iloadN S0 (hb hby dIA211_0) rfl (pc' := 1) rfl ?_
  refine s_aloadN S0 (hb hby dIA211_1) rfl rfl (pc' := 2) rfl ?_
  refine g_getF S0 (w40 hw) Via.refl Fn (hb hby dIA211_2) ?_
  intro T471 ST471
  show Go p e below _ (T471.setTop (mkF m 5 #[.val (.ref x), .val (.int (1 : Int32)), .val (.int qp), .val (.int qq)] [(.int (2 : Int32)), (.int (1 : Int32))]))
  refine s_icmpN ST471 (hb hby dIA211_5) (by decide) (pc' := 8) rfl ?_
  refine s_aloadN ST471 (hb hby dIA211_8) rfl rfl (pc' := 9) rfl ?_
  refine g_getF ST471 (w32 hw) Via.refl Fb (hb hby dIA211_9) ?_
  intro T472 ST472
  show Go p e below _ (T472.setTop (mkF m 12 #[.val (.ref x), .val (.int (1 : Int32)), .val (.int qp), .val (.int qq)] [(.ref t)]))
  refine s_iloadN ST472 (hb hby dIA211_12) rfl (pc' := 13) rfl ?_
  refine s_iconst ST472 (hb hby dIA211_13) (v := (5 : Int32)) rfl (pc' := 14) rfl ?_
  refine s_imul ST472 (hb hby dIA211_14) (z := (5 : Int32)) rfl (pc' := 15) rfl ?_
  refine s_iconst ST472 (hb hby dIA211_15) (v := (0 : Int32)) rfl (pc' := 16) rfl ?_
  refine s_iadd ST472 (hb hby dIA211_16) (z := (5 : Int32)) rfl (pc' := 17) rfl ?_
  refine g_iaload ST472 Vt ⟨by decide, by decide⟩ (x := r5) rfl (hb hby dIA211_17) ?_
  show Go p e below _ (T472.setTop (mkF m 18 #[.val (.ref x), .val (.int (1 : Int32)), .val (.int qp), .val (.int qq)] [(.int r5)]))
  refine s_iloadN ST472 (hb hby dIA211_18) rfl (pc' := 19) rfl ?_
  refine g_icmp ST472 (hb hby dIA211_19) (by decide) (pcT := 40) (by decide) (fun q => ?_) (fun q => ?_)
  · have hc19_473 : ¬ r5 = qp := icT_ne q
    show Go p e below _ (T472.setTop (mkF m 40 #[.val (.ref x), .val (.int (1 : Int32)), .val (.int qp), .val (.int qq)] []))
    refine s_iconst ST472 (hb hby dIA211_40) (v := (0 : Int32)) rfl (pc' := 41) rfl ?_
    show Go p e below _ (T472.setTop (mkF m 41 #[.val (.ref x), .val (.int (1 : Int32)), .val (.int qp), .val (.int qq)] [(.int (0 : Int32))]))
    exact g_iretN ST472 (hb hby dIA211_41) hret (by simp) ⟨_, rfl, Or.inr ⟨rfl, fun q => absurd q.1 hc19_473⟩, rfl⟩
  · have hc19_473 : r5 = qp := icF_ne q
    show Go p e below _ (T472.setTop (mkF m 22 #[.val (.ref x), .val (.int (1 : Int32)), .val (.int qp), .val (.int qq)] []))
    refine s_aloadN ST472 (hb hby dIA211_22) rfl rfl (pc' := 23) rfl ?_
    refine g_getF ST472 (w32 hw) Via.refl Fb (hb hby dIA211_23) ?_
    intro T474 ST474
    show Go p e below _ (T474.setTop (mkF m 26 #[.val (.ref x), .val (.int (1 : Int32)), .val (.int qp), .val (.int qq)] [(.ref t)]))
    refine s_iloadN ST474 (hb hby dIA211_26) rfl (pc' := 27) rfl ?_
    refine s_iconst ST474 (hb hby dIA211_27) (v := (5 : Int32)) rfl (pc' := 28) rfl ?_
    refine s_imul ST474 (hb hby dIA211_28) (z := (5 : Int32)) rfl (pc' := 29) rfl ?_
    refine s_iconst ST474 (hb hby dIA211_29) (v := (1 : Int32)) rfl (pc' := 30) rfl ?_
    refine s_iadd ST474 (hb hby dIA211_30) (z := (6 : Int32)) rfl (pc' := 31) rfl ?_
    refine g_iaload ST474 Vt ⟨by decide, by decide⟩ (x := r6) rfl (hb hby dIA211_31) ?_
    show Go p e below _ (T474.setTop (mkF m 32 #[.val (.ref x), .val (.int (1 : Int32)), .val (.int qp), .val (.int qq)] [(.int r6)]))
    refine s_iloadN ST474 (hb hby dIA211_32) rfl (pc' := 33) rfl ?_
    refine g_icmp ST474 (hb hby dIA211_33) (by decide) (pcT := 40) (by decide) (fun q => ?_) (fun q => ?_)
    · have hc33_475 : ¬ r6 = qq := icT_ne q
      show Go p e below _ (T474.setTop (mkF m 40 #[.val (.ref x), .val (.int (1 : Int32)), .val (.int qp), .val (.int qq)] []))
      refine s_iconst ST474 (hb hby dIA211_40) (v := (0 : Int32)) rfl (pc' := 41) rfl ?_
      show Go p e below _ (T474.setTop (mkF m 41 #[.val (.ref x), .val (.int (1 : Int32)), .val (.int qp), .val (.int qq)] [(.int (0 : Int32))]))
      exact g_iretN ST474 (hb hby dIA211_41) hret (by simp) ⟨_, rfl, Or.inr ⟨rfl, fun q => absurd q.2 hc33_475⟩, rfl⟩
    · have hc33_475 : r6 = qq := icF_ne q
      show Go p e below _ (T474.setTop (mkF m 36 #[.val (.ref x), .val (.int (1 : Int32)), .val (.int qp), .val (.int qq)] []))
      refine s_iconst ST474 (hb hby dIA211_36) (v := (1 : Int32)) rfl (pc' := 37) rfl ?_
      refine s_goto ST474 (hb hby dIA211_37) (by decide) (pcT := 41) (by decide) ?_
      show Go p e below _ (T474.setTop (mkF m 41 #[.val (.ref x), .val (.int (1 : Int32)), .val (.int qp), .val (.int qq)] [(.int (1 : Int32))]))
      exact g_iretN ST474 (hb hby dIA211_41) hret (by simp) ⟨_, rfl, Or.inl ⟨rfl, hc19_473, hc33_475⟩, rfl⟩
theorem dIA220_0 : decode prog_3_method_5_code 0 = .ok (.iload_n 1, 1) := by decide +kernel
theorem dIA220_1 : decode prog_3_method_5_code 1 = .ok (.aload_n 0, 1) := by decide +kernel
theorem dIA220_2 : decode prog_3_method_5_code 2 = .ok (.getfield 38, 3) := by decide +kernel
theorem dIA220_5 : decode prog_3_method_5_code 5 = .ok (.if_icmp .ge 35, 3) := by decide +kernel
theorem dIA220_40 : decode prog_3_method_5_code 40 = .ok (.iconst 0, 1) := by decide +kernel
theorem dIA220_41 : decode prog_3_method_5_code 41 = .ok (.ireturn, 1) := by decide +kernel
set_option maxRecDepth 65536 in
set_option maxHeartbeats 40000000 in
theorem rmIA220 {l : Launch} {Z : State} {a0 : Array Value} {n0 : Nat} (X : Ctx Z a0) {x t : Addr} {kt : ClassId} {qp qq : Int32} {r0 r1 r2 r3 r4 r5 r6 r7 r8 r9 : Int32} {h : Heap} (hO : Old Z n0 h) (Ex : Exa Z h x "com/example/nodewarden/nodewarden/core/Asides") (Fb : Fld Z h x "com/example/nodewarden/nodewarden/core/Asides" "table" "[I" (.ref t)) (Fn : Fld Z h x "com/example/nodewarden/nodewarden/core/Asides" "count" "I" (.int (2 : Int32))) (Vt : Arv Z h t kt .int (80 : Int32) [(.int r0), (.int r1), (.int r2), (.int r3), (.int r4), (.int r5), (.int r6), (.int r7), (.int r8), (.int r9), (.int (0 : Int32)), (.int (0 : Int32)), (.int (0 : Int32)), (.int (0 : Int32)), (.int (0 : Int32))] (.int (0 : Int32))) :
    Ctr l Z EL1 n0 (⟨"com/example/nodewarden/nodewarden/core/Asides", "isAt", "(III)Z"⟩ : MethodName) prog_3_method_5_code 4 (some .boolean) ({ frames := 0, cells := 0, slots := 0, locals := 0 } : Room) #[(.ref x), (.int (2 : Int32)), (.int qp), (.int qq)] h [] (fun v h' => v = some (.int 0) ∧ h' = h) := by
  have hw := X.hw
  obtain ⟨z1, hz1, hz2⟩ := X.2.2.1
  refine Ctr.intro (a0 := a0) (plainFor_of_name pn3) hO X.ew ?_
  intro p e s m below meth c T0 V0 S0 hby hml hret hnm hsf
  rw [ef16]
  refine s_iloadN S0 (hb hby dIA220_0) rfl (pc' := 1) rfl ?_
  refine s_aloadN S0 (hb hby dIA220_1) rfl rfl (pc' := 2) rfl ?_
  refine g_getF S0 (w40 hw) Via.refl Fn (hb hby dIA220_2) ?_
  intro T476 ST476
  show Go p e below _ (T476.setTop (mkF m 5 #[.val (.ref x), .val (.int (2 : Int32)), .val (.int qp), .val (.int qq)] [(.int (2 : Int32)), (.int (2 : Int32))]))
  refine s_icmpY ST476 (hb hby dIA220_5) (by decide) (by decide) (pcT := 40) (by decide) ?_
  refine s_iconst ST476 (hb hby dIA220_40) (v := (0 : Int32)) rfl (pc' := 41) rfl ?_
  exact g_iretN ST476 (hb hby dIA220_41) hret (by simp) ⟨rfl, rfl⟩
theorem dIA221_0 : decode prog_3_method_5_code 0 = .ok (.iload_n 1, 1) := by decide +kernel
theorem dIA221_1 : decode prog_3_method_5_code 1 = .ok (.aload_n 0, 1) := by decide +kernel
theorem dIA221_2 : decode prog_3_method_5_code 2 = .ok (.getfield 38, 3) := by decide +kernel
theorem dIA221_5 : decode prog_3_method_5_code 5 = .ok (.if_icmp .ge 35, 3) := by decide +kernel
theorem dIA221_40 : decode prog_3_method_5_code 40 = .ok (.iconst 0, 1) := by decide +kernel
theorem dIA221_41 : decode prog_3_method_5_code 41 = .ok (.ireturn, 1) := by decide +kernel
set_option maxRecDepth 65536 in
set_option maxHeartbeats 40000000 in
theorem rmIA221 {l : Launch} {Z : State} {a0 : Array Value} {n0 : Nat} (X : Ctx Z a0) {x t : Addr} {kt : ClassId} {qp qq : Int32} {r0 r1 r2 r3 r4 r5 r6 r7 r8 r9 : Int32} {h : Heap} (hO : Old Z n0 h) (Ex : Exa Z h x "com/example/nodewarden/nodewarden/core/Asides") (Fb : Fld Z h x "com/example/nodewarden/nodewarden/core/Asides" "table" "[I" (.ref t)) (Fn : Fld Z h x "com/example/nodewarden/nodewarden/core/Asides" "count" "I" (.int (2 : Int32))) (Vt : Arv Z h t kt .int (10 : Int32) [(.int r0), (.int r1), (.int r2), (.int r3), (.int r4), (.int r5), (.int r6), (.int r7), (.int r8), (.int r9)] (.int (0 : Int32))) :
    Ctr l Z EL1 n0 (⟨"com/example/nodewarden/nodewarden/core/Asides", "isAt", "(III)Z"⟩ : MethodName) prog_3_method_5_code 4 (some .boolean) ({ frames := 0, cells := 0, slots := 0, locals := 0 } : Room) #[(.ref x), (.int (2 : Int32)), (.int qp), (.int qq)] h [] (fun v h' => v = some (.int 0) ∧ h' = h) := by
  have hw := X.hw
  obtain ⟨z1, hz1, hz2⟩ := X.2.2.1
  refine Ctr.intro (a0 := a0) (plainFor_of_name pn3) hO X.ew ?_
  intro p e s m below meth c T0 V0 S0 hby hml hret hnm hsf
  rw [ef16]
  refine s_iloadN S0 (hb hby dIA221_0) rfl (pc' := 1) rfl ?_
  refine s_aloadN S0 (hb hby dIA221_1) rfl rfl (pc' := 2) rfl ?_
  refine g_getF S0 (w40 hw) Via.refl Fn (hb hby dIA221_2) ?_
  intro T477 ST477
  show Go p e below _ (T477.setTop (mkF m 5 #[.val (.ref x), .val (.int (2 : Int32)), .val (.int qp), .val (.int qq)] [(.int (2 : Int32)), (.int (2 : Int32))]))
  refine s_icmpY ST477 (hb hby dIA221_5) (by decide) (by decide) (pcT := 40) (by decide) ?_
  refine s_iconst ST477 (hb hby dIA221_40) (v := (0 : Int32)) rfl (pc' := 41) rfl ?_
  exact g_iretN ST477 (hb hby dIA221_41) hret (by simp) ⟨rfl, rfl⟩
theorem dIA230_0 : decode prog_3_method_5_code 0 = .ok (.iload_n 1, 1) := by decide +kernel
theorem dIA230_1 : decode prog_3_method_5_code 1 = .ok (.aload_n 0, 1) := by decide +kernel
theorem dIA230_2 : decode prog_3_method_5_code 2 = .ok (.getfield 38, 3) := by decide +kernel
theorem dIA230_5 : decode prog_3_method_5_code 5 = .ok (.if_icmp .ge 35, 3) := by decide +kernel
theorem dIA230_40 : decode prog_3_method_5_code 40 = .ok (.iconst 0, 1) := by decide +kernel
theorem dIA230_41 : decode prog_3_method_5_code 41 = .ok (.ireturn, 1) := by decide +kernel
set_option maxRecDepth 65536 in
set_option maxHeartbeats 40000000 in
theorem rmIA230 {l : Launch} {Z : State} {a0 : Array Value} {n0 : Nat} (X : Ctx Z a0) {x t : Addr} {kt : ClassId} {qp qq : Int32} {r0 r1 r2 r3 r4 r5 r6 r7 r8 r9 : Int32} {h : Heap} (hO : Old Z n0 h) (Ex : Exa Z h x "com/example/nodewarden/nodewarden/core/Asides") (Fb : Fld Z h x "com/example/nodewarden/nodewarden/core/Asides" "table" "[I" (.ref t)) (Fn : Fld Z h x "com/example/nodewarden/nodewarden/core/Asides" "count" "I" (.int (2 : Int32))) (Vt : Arv Z h t kt .int (80 : Int32) [(.int r0), (.int r1), (.int r2), (.int r3), (.int r4), (.int r5), (.int r6), (.int r7), (.int r8), (.int r9), (.int (0 : Int32)), (.int (0 : Int32)), (.int (0 : Int32)), (.int (0 : Int32)), (.int (0 : Int32))] (.int (0 : Int32))) :
    Ctr l Z EL1 n0 (⟨"com/example/nodewarden/nodewarden/core/Asides", "isAt", "(III)Z"⟩ : MethodName) prog_3_method_5_code 4 (some .boolean) ({ frames := 0, cells := 0, slots := 0, locals := 0 } : Room) #[(.ref x), (.int (3 : Int32)), (.int qp), (.int qq)] h [] (fun v h' => v = some (.int 0) ∧ h' = h) := by
  have hw := X.hw
  obtain ⟨z1, hz1, hz2⟩ := X.2.2.1
  refine Ctr.intro (a0 := a0) (plainFor_of_name pn3) hO X.ew ?_
  intro p e s m below meth c T0 V0 S0 hby hml hret hnm hsf
  rw [ef16]
  refine s_iloadN S0 (hb hby dIA230_0) rfl (pc' := 1) rfl ?_
  refine s_aloadN S0 (hb hby dIA230_1) rfl rfl (pc' := 2) rfl ?_
  refine g_getF S0 (w40 hw) Via.refl Fn (hb hby dIA230_2) ?_
  intro T478 ST478
  show Go p e below _ (T478.setTop (mkF m 5 #[.val (.ref x), .val (.int (3 : Int32)), .val (.int qp), .val (.int qq)] [(.int (2 : Int32)), (.int (3 : Int32))]))
  refine s_icmpY ST478 (hb hby dIA230_5) (by decide) (by decide) (pcT := 40) (by decide) ?_
  refine s_iconst ST478 (hb hby dIA230_40) (v := (0 : Int32)) rfl (pc' := 41) rfl ?_
  exact g_iretN ST478 (hb hby dIA230_41) hret (by simp) ⟨rfl, rfl⟩
theorem dIA231_0 : decode prog_3_method_5_code 0 = .ok (.iload_n 1, 1) := by decide +kernel
theorem dIA231_1 : decode prog_3_method_5_code 1 = .ok (.aload_n 0, 1) := by decide +kernel
theorem dIA231_2 : decode prog_3_method_5_code 2 = .ok (.getfield 38, 3) := by decide +kernel
theorem dIA231_5 : decode prog_3_method_5_code 5 = .ok (.if_icmp .ge 35, 3) := by decide +kernel
theorem dIA231_40 : decode prog_3_method_5_code 40 = .ok (.iconst 0, 1) := by decide +kernel
theorem dIA231_41 : decode prog_3_method_5_code 41 = .ok (.ireturn, 1) := by decide +kernel
set_option maxRecDepth 65536 in
set_option maxHeartbeats 40000000 in
theorem rmIA231 {l : Launch} {Z : State} {a0 : Array Value} {n0 : Nat} (X : Ctx Z a0) {x t : Addr} {kt : ClassId} {qp qq : Int32} {r0 r1 r2 r3 r4 r5 r6 r7 r8 r9 : Int32} {h : Heap} (hO : Old Z n0 h) (Ex : Exa Z h x "com/example/nodewarden/nodewarden/core/Asides") (Fb : Fld Z h x "com/example/nodewarden/nodewarden/core/Asides" "table" "[I" (.ref t)) (Fn : Fld Z h x "com/example/nodewarden/nodewarden/core/Asides" "count" "I" (.int (2 : Int32))) (Vt : Arv Z h t kt .int (10 : Int32) [(.int r0), (.int r1), (.int r2), (.int r3), (.int r4), (.int r5), (.int r6), (.int r7), (.int r8), (.int r9)] (.int (0 : Int32))) :
    Ctr l Z EL1 n0 (⟨"com/example/nodewarden/nodewarden/core/Asides", "isAt", "(III)Z"⟩ : MethodName) prog_3_method_5_code 4 (some .boolean) ({ frames := 0, cells := 0, slots := 0, locals := 0 } : Room) #[(.ref x), (.int (3 : Int32)), (.int qp), (.int qq)] h [] (fun v h' => v = some (.int 0) ∧ h' = h) := by
  have hw := X.hw
  obtain ⟨z1, hz1, hz2⟩ := X.2.2.1
  refine Ctr.intro (a0 := a0) (plainFor_of_name pn3) hO X.ew ?_
  intro p e s m below meth c T0 V0 S0 hby hml hret hnm hsf
  rw [ef16]
  refine s_iloadN S0 (hb hby dIA231_0) rfl (pc' := 1) rfl ?_
  refine s_aloadN S0 (hb hby dIA231_1) rfl rfl (pc' := 2) rfl ?_
  refine g_getF S0 (w40 hw) Via.refl Fn (hb hby dIA231_2) ?_
  intro T479 ST479
  show Go p e below _ (T479.setTop (mkF m 5 #[.val (.ref x), .val (.int (3 : Int32)), .val (.int qp), .val (.int qq)] [(.int (2 : Int32)), (.int (3 : Int32))]))
  refine s_icmpY ST479 (hb hby dIA231_5) (by decide) (by decide) (pcT := 40) (by decide) ?_
  refine s_iconst ST479 (hb hby dIA231_40) (v := (0 : Int32)) rfl (pc' := 41) rfl ?_
  exact g_iretN ST479 (hb hby dIA231_41) hret (by simp) ⟨rfl, rfl⟩
end Jvm.Pilot.@@N@@

namespace Jvm.Pilot.@@N@@
open Jvm Jvm.ClassFile Sem Op Lib Jvm.Free Jvm.Stand Jvm.LawKit Jvm.RoadKit Jvm.OwnKit Bundle Jvm.Pilot.@@N@@.Jvm.D
set_option maxRecDepth 65536 in
set_option maxHeartbeats 40000000 in
theorem rmL {l : Launch} {Z : State} {a0 : Array Value} {n0 : Nat} (X : Ctx Z a0) (p0 q0 p1 q1 qx k_ : Int32) {h : Heap} (hO : Old Z n0 h)  :
    Ctr l Z EL1 n0 x code maxLocals ret room_1 #[(.int p0), (.int q0), (.int p1), (.int q1), (.int qx), (.int k_)] h [] (fun v h' => v = some (.int 1) ∧ True) := by
  have hw := X.hw
  obtain ⟨z1, hz1, hz2⟩ := X.2.2.1
  refine Ctr.intro (a0 := a0) (plainFor_of_name pn6) hO X.ew ?_
  intro p e s m below meth c T0 V0 S0 hby hml hret hnm hsf
  rw [ef17]
  refine s_iload S0 (hb hby at_0) rfl (pc' := 2) rfl ?_
  refine s_iconst S0 (hb hby at_2) (v := (3 : Int32)) rfl (pc' := 3) rfl ?_
  refine s_iand S0 (hb hby at_3) (z := (k_ &&& (3 : Int32))) rfl (pc' := 4) rfl ?_
  refine s_iconst S0 (hb hby at_4) (v := (3 : Int32)) rfl (pc' := 5) rfl ?_
  refine s_irem S0 (hb hby at_5) (by decide) (z := ((k_ &&& (3 : Int32)) % (3 : Int32))) rfl (pc' := 6) rfl ?_
  generalize enn480 : ((k_ &&& (3 : Int32)) % (3 : Int32)) = nn480
  refine s_istore S0 (hb hby at_6) (L' := #[.val (.int p0), .val (.int q0), .val (.int p1), .val (.int q1), .val (.int qx), .val (.int k_), .val (.int nn480), .unset, .unset, .unset, .unset, .unset, .unset]) rfl (pc' := 8) rfl ?_
  rcases own_mod3 k_ nn480 enn480 with rfl | rfl | rfl
  · skip
    show Go p e below _ (T0.setTop (mkF m 8 #[.val (.int p0), .val (.int q0), .val (.int p1), .val (.int q1), .val (.int qx), .val (.int k_), .val (.int (0 : Int32)), .unset, .unset, .unset, .unset, .unset, .unset] []))
    refine s_iload S0 (hb hby at_8) rfl (pc' := 10) rfl ?_
    refine s_iconst S0 (hb hby at_10) (v := (2 : Int32)) rfl (pc' := 11) rfl ?_
    refine s_iushr S0 (hb hby at_11) (z := ((k_.toUInt32 >>> ((2 : Int32) &&& 31).toUInt32).toInt32)) rfl (pc' := 12) rfl ?_
    refine s_iconst S0 (hb hby at_12) (v := (3 : Int32)) rfl (pc' := 13) rfl ?_
    refine s_iand S0 (hb hby at_13) (z := (((k_.toUInt32 >>> ((2 : Int32) &&& 31).toUInt32).toInt32) &&& (3 : Int32))) rfl (pc' := 14) rfl ?_
    generalize eaa481 : (((k_.toUInt32 >>> ((2 : Int32) &&& 31).toUInt32).toInt32) &&& (3 : Int32)) = aa481
    refine s_istore S0 (hb hby at_14) (L' := #[.val (.int p0), .val (.int q0), .val (.int p1), .val (.int q1), .val (.int qx), .val (.int k_), .val (.int (0 : Int32)), .val (.int aa481), .unset, .unset, .unset, .unset, .unset]) rfl (pc' := 16) rfl ?_
    refine g_new S0 (w0 hw) (w1 hw) (w2 hw) (hb hby at_16) (Nat.le_of_ble_eq_true rfl) (Nat.le_of_ble_eq_true rfl) ?_
    intro T482 h482 b482 S482 E482 fr482 lt482 na482 sf482 A482 D482
    have F483 : Fld Z h482 b482 "com/example/nodewarden/nodewarden/core/Asides" "text" "Ljava/lang/StringBuilder;" .null := D482 (Or.inr (w30 hw)) (ty := (.object "java/lang/StringBuilder")) (by decide)
    have F484 : Fld Z h482 b482 "com/example/nodewarden/nodewarden/core/Asides" "table" "[I" .null := D482 (Or.inl (w33 hw)) (ty := (.array .int)) (by decide)
    have F485 : Fld Z h482 b482 "com/example/nodewarden/nodewarden/core/Asides" "count" "I" (.int (0 : Int32)) := D482 (Or.inl (w41 hw)) (ty := .int) (by decide)
    show Go p e below _ (T482.setTop (mkF m 19 #[.val (.int p0), .val (.int q0), .val (.int p1), .val (.int q1), .val (.int qx), .val (.int k_), .val (.int (0 : Int32)), .val (.int aa481), .unset, .unset, .unset, .unset, .unset] [(.ref b482)]))
    refine s_dup S482 (hb hby at_19) rfl (pc' := 20) rfl ?_
    show Go p e below _ (T482.setTop (mkF m 20 #[.val (.int p0), .val (.int q0), .val (.int p1), .val (.int q1), .val (.int qx), .val (.int k_), .val (.int (0 : Int32)), .val (.int aa481), .unset, .unset, .unset, .unset, .unset] [(.ref b482), (.ref b482)]))
    refine g_special S482 (rmIN X na482 S482.old A482 F483 F484 F485) (fun _ q => nomatch q) rfl (w3 hw) (w4 hw) (w2 hw) (w5 hw) (by decide) (hb hby at_20) (by rw [hml]; rfl) b482 [] (lenOf pd6 rfl) rfl rfl (Nat.le_of_ble_eq_true rfl) (Nat.le_of_ble_eq_true rfl) (Nat.le_of_ble_eq_true rfl) (Nat.le_of_ble_eq_true rfl) ?_
    intro v486 T486 V486 h486 S486 C486 q486
    obtain ⟨rfl, sb, tb, t, kb, kt, K0, A0, sf0_, Et0⟩ := q486
    show Go p e below _ (T486.setTop (mkF m 23 #[.val (.int p0), .val (.int q0), .val (.int p1), .val (.int q1), .val (.int qx), .val (.int k_), .val (.int (0 : Int32)), .val (.int aa481), .unset, .unset, .unset, .unset, .unset] [(.ref b482)]))
    refine s_astore S486 (hb hby at_23) rfl (L' := #[.val (.int p0), .val (.int q0), .val (.int p1), .val (.int q1), .val (.int qx), .val (.int k_), .val (.int (0 : Int32)), .val (.int aa481), .val (.ref b482), .unset, .unset, .unset, .unset]) rfl (pc' := 25) rfl ?_
    refine s_iconst S486 (hb hby at_25) (v := (0 : Int32)) rfl (pc' := 26) rfl ?_
    refine g_newarr (aty := .char) S486 (w34 hw) (hb hby at_26) (by decide) (cap := 0) (by decide) (by decide) (Nat.le_of_ble_eq_true rfl) (Nat.le_of_ble_eq_true rfl) ?_
    intro T487 h487 b487 kc487 S487 E487 fr487 lt487 na487 sf487 A487
    have sf488 := Safe.ext E487 S486.chv sf0_
    have V487 : Arv Z h487 b487 kc487 .char (0 : Int32) [] (.int (0 : Int32)) := A487 0
    show Go p e below _ (T487.setTop (mkF m 28 #[.val (.int p0), .val (.int q0), .val (.int p1), .val (.int q1), .val (.int qx), .val (.int k_), .val (.int (0 : Int32)), .val (.int aa481), .val (.ref b482), .unset, .unset, .unset, .unset] [(.ref b487)]))
    refine s_astore S487 (hb hby at_28) rfl (L' := #[.val (.int p0), .val (.int q0), .val (.int p1), .val (.int q1), .val (.int qx), .val (.int k_), .val (.int (0 : Int32)), .val (.int aa481), .val (.ref b482), .val (.ref b487), .unset, .unset, .unset]) rfl (pc' := 30) rfl ?_
    refine s_iload S487 (hb hby at_30) rfl (pc' := 32) rfl ?_
    refine s_iconst S487 (hb hby at_32) (v := (1 : Int32)) rfl (pc' := 33) rfl ?_
    refine s_icmpY S487 (hb hby at_33) (by decide) (by decide) (pcT := 49) (by decide) ?_
    refine s_iload S487 (hb hby at_49) rfl (pc' := 51) rfl ?_
    refine s_iconst S487 (hb hby at_51) (v := (2 : Int32)) rfl (pc' := 52) rfl ?_
    refine s_icmpY S487 (hb hby at_52) (by decide) (by decide) (pcT := 68) (by decide) ?_
    refine s_iload S487 (hb hby at_68) rfl (pc' := 70) rfl ?_
    refine s_sipush S487 (hb hby at_70) (v := (256 : Int32)) rfl (pc' := 73) rfl ?_
    refine s_iand S487 (hb hby at_73) (z := (k_ &&& (256 : Int32))) rfl (pc' := 74) rfl ?_
    refine g_if S487 (hb hby at_74) (by decide) (pcT := 82) (by decide) (fun q => ?_) (fun q => ?_)
    · have hc74_489 : (k_ &&& (256 : Int32)) = (0 : Int32) := icT_eq q
      show Go p e below _ (T487.setTop (mkF m 82 #[.val (.int p0), .val (.int q0), .val (.int p1), .val (.int q1), .val (.int qx), .val (.int k_), .val (.int (0 : Int32)), .val (.int aa481), .val (.ref b482), .val (.ref b487), .unset, .unset, .unset] []))
      have A490 := A0.ext E487
      obtain ⟨E9, -, Fb9, Fn9, V9, -⟩ := A490
      have K492 : ∀ qp491 : Int32, Go p e below (Fini Z EL1 n0 s room_1 (fun v h' => v = some (.int 1) ∧ True)) (T487.setTop (mkF m 108 #[.val (.int p0), .val (.int q0), .val (.int p1), .val (.int q1), .val (.int qx), .val (.int k_), .val (.int (0 : Int32)), .val (.int aa481), .val (.ref b482), .val (.ref b487), .unset, .unset, .unset] [(.int qp491)])) := by
        intro qp491
        show Go p e below _ (T487.setTop (mkF m 108 #[.val (.int p0), .val (.int q0), .val (.int p1), .val (.int q1), .val (.int qx), .val (.int k_), .val (.int (0 : Int32)), .val (.int aa481), .val (.ref b482), .val (.ref b487), .unset, .unset, .unset] [(.int qp491)]))
        refine s_istore S487 (hb hby at_108) (L' := #[.val (.int p0), .val (.int q0), .val (.int p1), .val (.int q1), .val (.int qx), .val (.int k_), .val (.int (0 : Int32)), .val (.int aa481), .val (.ref b482), .val (.ref b487), .val (.int qp491), .unset, .unset]) rfl (pc' := 110) rfl ?_
        have K494 : ∀ qq493 : Int32, Go p e below (Fini Z EL1 n0 s room_1 (fun v h' => v = some (.int 1) ∧ True)) (T487.setTop (mkF m 137 #[.val (.int p0), .val (.int q0), .val (.int p1), .val (.int q1), .val (.int qx), .val (.int k_), .val (.int (0 : Int32)), .val (.int aa481), .val (.ref b482), .val (.ref b487), .val (.int qp491), .unset, .unset] [(.int qq493)])) := by
          intro qq493
          show Go p e below _ (T487.setTop (mkF m 137 #[.val (.int p0), .val (.int q0), .val (.int p1), .val (.int q1), .val (.int qx), .val (.int k_), .val (.int (0 : Int32)), .val (.int aa481), .val (.ref b482), .val (.ref b487), .val (.int qp491), .unset, .unset] [(.int qq493)]))
          refine s_istore S487 (hb hby at_137) (L' := #[.val (.int p0), .val (.int q0), .val (.int p1), .val (.int q1), .val (.int qx), .val (.int k_), .val (.int (0 : Int32)), .val (.int aa481), .val (.ref b482), .val (.ref b487), .val (.int qp491), .val (.int qq493), .unset]) rfl (pc' := 139) rfl ?_
          rcases own_and3s k_ aa481 eaa481 with rfl | rfl | rfl | rfl
          · skip
            show Go p e below _ (T487.setTop (mkF m 139 #[.val (.int p0), .val (.int q0), .val (.int p1), .val (.int q1), .val (.int qx), .val (.int k_), .val (.int (0 : Int32)), .val (.int (0 : Int32)), .val (.ref b482), .val (.ref b487), .val (.int qp491), .val (.int qq493), .unset] []))
            refine s_iconst S487 (hb hby at_139) (v := (0 : Int32)) rfl (pc' := 140) rfl ?_
            refine s_istore S487 (hb hby at_140) (L' := #[.val (.int p0), .val (.int q0), .val (.int p1), .val (.int q1), .val (.int qx), .val (.int k_), .val (.int (0 : Int32)), .val (.int (0 : Int32)), .val (.ref b482), .val (.ref b487), .val (.int qp491), .val (.int qq493), .val (.int (0 : Int32))]) rfl (pc' := 142) rfl ?_
            refine s_iload S487 (hb hby at_142) rfl (pc' := 144) rfl ?_
            refine s_ifN S487 (hb hby at_144) (by decide) (pc' := 147) rfl ?_
            refine s_iload S487 (hb hby at_147) rfl (pc' := 149) rfl ?_
            refine s_iconst S487 (hb hby at_149) (v := (1 : Int32)) rfl (pc' := 150) rfl ?_
            refine s_icmpY S487 (hb hby at_150) (by decide) (by decide) (pcT := 168) (by decide) ?_
            refine s_iload S487 (hb hby at_168) rfl (pc' := 170) rfl ?_
            refine s_iconst S487 (hb hby at_170) (v := (1 : Int32)) rfl (pc' := 171) rfl ?_
            refine s_icmpY S487 (hb hby at_171) (by decide) (by decide) (pcT := 195) (by decide) ?_
            refine s_aload S487 (hb hby at_195) rfl rfl (pc' := 197) rfl ?_
            refine s_iload S487 (hb hby at_197) rfl (pc' := 199) rfl ?_
            refine s_iload S487 (hb hby at_199) rfl (pc' := 201) rfl ?_
            refine s_iload S487 (hb hby at_201) rfl (pc' := 203) rfl ?_
            show Go p e below _ (T487.setTop (mkF m 203 #[.val (.int p0), .val (.int q0), .val (.int p1), .val (.int q1), .val (.int qx), .val (.int k_), .val (.int (0 : Int32)), .val (.int (0 : Int32)), .val (.ref b482), .val (.ref b487), .val (.int qp491), .val (.int qq493), .val (.int (0 : Int32))] [(.int qq493), (.int qp491), (.int (0 : Int32)), (.ref b482)]))
            refine g_virtual S487 (rmIA000 X S487.old E9 Fb9 Fn9 V9) (fun _ q => nomatch q) (w35 hw) (w36 hw) (w38 hw) (w37 hw) (w2 hw) (w39 hw) (by decide) (fun _ h => notFace_of_selects h) (hb hby at_203) (by rw [hml]; rfl) b482 E9 [(.int (0 : Int32)), (.int qp491), (.int qq493)] (lenOf pd18 rfl) rfl rfl (Nat.le_of_ble_eq_true rfl) (Nat.le_of_ble_eq_true rfl) (Nat.le_of_ble_eq_true rfl) (Nat.le_of_ble_eq_true rfl) ?_
            intro v495 T495 V495 h495 S495 C495 q495
            obtain ⟨rfl, rfl⟩ := q495
            show Go p e below _ (T495.setTop (mkF m 206 #[.val (.int p0), .val (.int q0), .val (.int p1), .val (.int q1), .val (.int qx), .val (.int k_), .val (.int (0 : Int32)), .val (.int (0 : Int32)), .val (.ref b482), .val (.ref b487), .val (.int qp491), .val (.int qq493), .val (.int (0 : Int32))] [(.int (0 : Int32))]))
            refine s_iload S495 (hb hby at_206) rfl (pc' := 208) rfl ?_
            refine s_icmpN S495 (hb hby at_208) (by decide) (pc' := 211) rfl ?_
            refine s_iconst S495 (hb hby at_211) (v := (1 : Int32)) rfl (pc' := 212) rfl ?_
            refine s_goto S495 (hb hby at_212) (by decide) (pcT := 216) (by decide) ?_
            exact g_iretN S495 (hb hby at_216) hret (by simp) ⟨rfl, trivial⟩
          · skip
            show Go p e below _ (T487.setTop (mkF m 139 #[.val (.int p0), .val (.int q0), .val (.int p1), .val (.int q1), .val (.int qx), .val (.int k_), .val (.int (0 : Int32)), .val (.int (1 : Int32)), .val (.ref b482), .val (.ref b487), .val (.int qp491), .val (.int qq493), .unset] []))
            refine s_iconst S487 (hb hby at_139) (v := (0 : Int32)) rfl (pc' := 140) rfl ?_
            refine s_istore S487 (hb hby at_140) (L' := #[.val (.int p0), .val (.int q0), .val (.int p1), .val (.int q1), .val (.int qx), .val (.int k_), .val (.int (0 : Int32)), .val (.int (1 : Int32)), .val (.ref b482), .val (.ref b487), .val (.int qp491), .val (.int qq493), .val (.int (0 : Int32))]) rfl (pc' := 142) rfl ?_
            refine s_iload S487 (hb hby at_142) rfl (pc' := 144) rfl ?_
            refine s_ifY S487 (hb hby at_144) (by decide) (by decide) (pcT := 168) (by decide) ?_
            refine s_iload S487 (hb hby at_168) rfl (pc' := 170) rfl ?_
            refine s_iconst S487 (hb hby at_170) (v := (1 : Int32)) rfl (pc' := 171) rfl ?_
            refine s_icmpN S487 (hb hby at_171) (by decide) (pc' := 174) rfl ?_
            refine s_iload S487 (hb hby at_174) rfl (pc' := 176) rfl ?_
            refine s_iconst S487 (hb hby at_176) (v := (2 : Int32)) rfl (pc' := 177) rfl ?_
            refine s_icmpY S487 (hb hby at_177) (by decide) (by decide) (pcT := 195) (by decide) ?_
            refine s_aload S487 (hb hby at_195) rfl rfl (pc' := 197) rfl ?_
            refine s_iload S487 (hb hby at_197) rfl (pc' := 199) rfl ?_
            refine s_iload S487 (hb hby at_199) rfl (pc' := 201) rfl ?_
            refine s_iload S487 (hb hby at_201) rfl (pc' := 203) rfl ?_
            show Go p e below _ (T487.setTop (mkF m 203 #[.val (.int p0), .val (.int q0), .val (.int p1), .val (.int q1), .val (.int qx), .val (.int k_), .val (.int (0 : Int32)), .val (.int (1 : Int32)), .val (.ref b482), .val (.ref b487), .val (.int qp491), .val (.int qq493), .val (.int (0 : Int32))] [(.int qq493), (.int qp491), (.int (1 : Int32)), (.ref b482)]))
            refine g_virtual S487 (rmIA010 X S487.old E9 Fb9 Fn9 V9) (fun _ q => nomatch q) (w35 hw) (w36 hw) (w38 hw) (w37 hw) (w2 hw) (w39 hw) (by decide) (fun _ h => notFace_of_selects h) (hb hby at_203) (by rw [hml]; rfl) b482 E9 [(.int (1 : Int32)), (.int qp491), (.int qq493)] (lenOf pd18 rfl) rfl rfl (Nat.le_of_ble_eq_true rfl) (Nat.le_of_ble_eq_true rfl) (Nat.le_of_ble_eq_true rfl) (Nat.le_of_ble_eq_true rfl) ?_
            intro v496 T496 V496 h496 S496 C496 q496
            obtain ⟨rfl, rfl⟩ := q496
            show Go p e below _ (T496.setTop (mkF m 206 #[.val (.int p0), .val (.int q0), .val (.int p1), .val (.int q1), .val (.int qx), .val (.int k_), .val (.int (0 : Int32)), .val (.int (1 : Int32)), .val (.ref b482), .val (.ref b487), .val (.int qp491), .val (.int qq493), .val (.int (0 : Int32))] [(.int (0 : Int32))]))
            refine s_iload S496 (hb hby at_206) rfl (pc' := 208) rfl ?_
            refine s_icmpN S496 (hb hby at_208) (by decide) (pc' := 211) rfl ?_
            refine s_iconst S496 (hb hby at_211) (v := (1 : Int32)) rfl (pc' := 212) rfl ?_
            refine s_goto S496 (hb hby at_212) (by decide) (pcT := 216) (by decide) ?_
            exact g_iretN S496 (hb hby at_216) hret (by simp) ⟨rfl, trivial⟩
          · skip
            show Go p e below _ (T487.setTop (mkF m 139 #[.val (.int p0), .val (.int q0), .val (.int p1), .val (.int q1), .val (.int qx), .val (.int k_), .val (.int (0 : Int32)), .val (.int (2 : Int32)), .val (.ref b482), .val (.ref b487), .val (.int qp491), .val (.int qq493), .unset] []))
            refine s_iconst S487 (hb hby at_139) (v := (0 : Int32)) rfl (pc' := 140) rfl ?_
            refine s_istore S487 (hb hby at_140) (L' := #[.val (.int p0), .val (.int q0), .val (.int p1), .val (.int q1), .val (.int qx), .val (.int k_), .val (.int (0 : Int32)), .val (.int (2 : Int32)), .val (.ref b482), .val (.ref b487), .val (.int qp491), .val (.int qq493), .val (.int (0 : Int32))]) rfl (pc' := 142) rfl ?_
            refine s_iload S487 (hb hby at_142) rfl (pc' := 144) rfl ?_
            refine s_ifY S487 (hb hby at_144) (by decide) (by decide) (pcT := 168) (by decide) ?_
            refine s_iload S487 (hb hby at_168) rfl (pc' := 170) rfl ?_
            refine s_iconst S487 (hb hby at_170) (v := (1 : Int32)) rfl (pc' := 171) rfl ?_
            refine s_icmpY S487 (hb hby at_171) (by decide) (by decide) (pcT := 195) (by decide) ?_
            refine s_aload S487 (hb hby at_195) rfl rfl (pc' := 197) rfl ?_
            refine s_iload S487 (hb hby at_197) rfl (pc' := 199) rfl ?_
            refine s_iload S487 (hb hby at_199) rfl (pc' := 201) rfl ?_
            refine s_iload S487 (hb hby at_201) rfl (pc' := 203) rfl ?_
            show Go p e below _ (T487.setTop (mkF m 203 #[.val (.int p0), .val (.int q0), .val (.int p1), .val (.int q1), .val (.int qx), .val (.int k_), .val (.int (0 : Int32)), .val (.int (2 : Int32)), .val (.ref b482), .val (.ref b487), .val (.int qp491), .val (.int qq493), .val (.int (0 : Int32))] [(.int qq493), (.int qp491), (.int (2 : Int32)), (.ref b482)]))
            refine g_virtual S487 (rmIA020 X S487.old E9 Fb9 Fn9 V9) (fun _ q => nomatch q) (w35 hw) (w36 hw) (w38 hw) (w37 hw) (w2 hw) (w39 hw) (by decide) (fun _ h => notFace_of_selects h) (hb hby at_203) (by rw [hml]; rfl) b482 E9 [(.int (2 : Int32)), (.int qp491), (.int qq493)] (lenOf pd18 rfl) rfl rfl (Nat.le_of_ble_eq_true rfl) (Nat.le_of_ble_eq_true rfl) (Nat.le_of_ble_eq_true rfl) (Nat.le_of_ble_eq_true rfl) ?_
            intro v497 T497 V497 h497 S497 C497 q497
            obtain ⟨rfl, rfl⟩ := q497
            show Go p e below _ (T497.setTop (mkF m 206 #[.val (.int p0), .val (.int q0), .val (.int p1), .val (.int q1), .val (.int qx), .val (.int k_), .val (.int (0 : Int32)), .val (.int (2 : Int32)), .val (.ref b482), .val (.ref b487), .val (.int qp491), .val (.int qq493), .val (.int (0 : Int32))] [(.int (0 : Int32))]))
            refine s_iload S497 (hb hby at_206) rfl (pc' := 208) rfl ?_
            refine s_icmpN S497 (hb hby at_208) (by decide) (pc' := 211) rfl ?_
            refine s_iconst S497 (hb hby at_211) (v := (1 : Int32)) rfl (pc' := 212) rfl ?_
            refine s_goto S497 (hb hby at_212) (by decide) (pcT := 216) (by decide) ?_
            exact g_iretN S497 (hb hby at_216) hret (by simp) ⟨rfl, trivial⟩
          · skip
            show Go p e below _ (T487.setTop (mkF m 139 #[.val (.int p0), .val (.int q0), .val (.int p1), .val (.int q1), .val (.int qx), .val (.int k_), .val (.int (0 : Int32)), .val (.int (3 : Int32)), .val (.ref b482), .val (.ref b487), .val (.int qp491), .val (.int qq493), .unset] []))
            refine s_iconst S487 (hb hby at_139) (v := (0 : Int32)) rfl (pc' := 140) rfl ?_
            refine s_istore S487 (hb hby at_140) (L' := #[.val (.int p0), .val (.int q0), .val (.int p1), .val (.int q1), .val (.int qx), .val (.int k_), .val (.int (0 : Int32)), .val (.int (3 : Int32)), .val (.ref b482), .val (.ref b487), .val (.int qp491), .val (.int qq493), .val (.int (0 : Int32))]) rfl (pc' := 142) rfl ?_
            refine s_iload S487 (hb hby at_142) rfl (pc' := 144) rfl ?_
            refine s_ifY S487 (hb hby at_144) (by decide) (by decide) (pcT := 168) (by decide) ?_
            refine s_iload S487 (hb hby at_168) rfl (pc' := 170) rfl ?_
            refine s_iconst S487 (hb hby at_170) (v := (1 : Int32)) rfl (pc' := 171) rfl ?_
            refine s_icmpY S487 (hb hby at_171) (by decide) (by decide) (pcT := 195) (by decide) ?_
            refine s_aload S487 (hb hby at_195) rfl rfl (pc' := 197) rfl ?_
            refine s_iload S487 (hb hby at_197) rfl (pc' := 199) rfl ?_
            refine s_iload S487 (hb hby at_199) rfl (pc' := 201) rfl ?_
            refine s_iload S487 (hb hby at_201) rfl (pc' := 203) rfl ?_
            show Go p e below _ (T487.setTop (mkF m 203 #[.val (.int p0), .val (.int q0), .val (.int p1), .val (.int q1), .val (.int qx), .val (.int k_), .val (.int (0 : Int32)), .val (.int (3 : Int32)), .val (.ref b482), .val (.ref b487), .val (.int qp491), .val (.int qq493), .val (.int (0 : Int32))] [(.int qq493), (.int qp491), (.int (3 : Int32)), (.ref b482)]))
            refine g_virtual S487 (rmIA030 X S487.old E9 Fb9 Fn9 V9) (fun _ q => nomatch q) (w35 hw) (w36 hw) (w38 hw) (w37 hw) (w2 hw) (w39 hw) (by decide) (fun _ h => notFace_of_selects h) (hb hby at_203) (by rw [hml]; rfl) b482 E9 [(.int (3 : Int32)), (.int qp491), (.int qq493)] (lenOf pd18 rfl) rfl rfl (Nat.le_of_ble_eq_true rfl) (Nat.le_of_ble_eq_true rfl) (Nat.le_of_ble_eq_true rfl) (Nat.le_of_ble_eq_true rfl) ?_
            intro v498 T498 V498 h498 S498 C498 q498
            obtain ⟨rfl, rfl⟩ := q498
            show Go p e below _ (T498.setTop (mkF m 206 #[.val (.int p0), .val (.int q0), .val (.int p1), .val (.int q1), .val (.int qx), .val (.int k_), .val (.int (0 : Int32)), .val (.int (3 : Int32)), .val (.ref b482), .val (.ref b487), .val (.int qp491), .val (.int qq493), .val (.int (0 : Int32))] [(.int (0 : Int32))]))
            refine s_iload S498 (hb hby at_206) rfl (pc' := 208) rfl ?_
            refine s_icmpN S498 (hb hby at_208) (by decide) (pc' := 211) rfl ?_
            refine s_iconst S498 (hb hby at_211) (v := (1 : Int32)) rfl (pc' := 212) rfl ?_
            refine s_goto S498 (hb hby at_212) (by decide) (pcT := 216) (by decide) ?_
            exact g_iretN S498 (hb hby at_216) hret (by simp) ⟨rfl, trivial⟩
        refine s_iload S487 (hb hby at_110) rfl (pc' := 112) rfl ?_
        refine s_bipush S487 (hb hby at_112) (v := (64 : Int32)) rfl (pc' := 114) rfl ?_
        refine s_iand S487 (hb hby at_114) (z := (k_ &&& (64 : Int32))) rfl (pc' := 115) rfl ?_
        refine g_if S487 (hb hby at_115) (by decide) (pcT := 123) (by decide) (fun q => ?_) (fun q => ?_)
        · have hc115_499 : (k_ &&& (64 : Int32)) = (0 : Int32) := icT_eq q
          show Go p e below _ (T487.setTop (mkF m 123 #[.val (.int p0), .val (.int q0), .val (.int p1), .val (.int q1), .val (.int qx), .val (.int k_), .val (.int (0 : Int32)), .val (.int aa481), .val (.ref b482), .val (.ref b487), .val (.int qp491), .unset, .unset] []))
          refine s_iload S487 (hb hby at_123) rfl (pc' := 125) rfl ?_
          refine s_sipush S487 (hb hby at_125) (v := (128 : Int32)) rfl (pc' := 128) rfl ?_
          refine s_iand S487 (hb hby at_128) (z := (k_ &&& (128 : Int32))) rfl (pc' := 129) rfl ?_
          refine g_if S487 (hb hby at_129) (by decide) (pcT := 136) (by decide) (fun q => ?_) (fun q => ?_)
          · have hc129_500 : (k_ &&& (128 : Int32)) = (0 : Int32) := icT_eq q
            show Go p e below _ (T487.setTop (mkF m 136 #[.val (.int p0), .val (.int q0), .val (.int p1), .val (.int q1), .val (.int qx), .val (.int k_), .val (.int (0 : Int32)), .val (.int aa481), .val (.ref b482), .val (.ref b487), .val (.int qp491), .unset, .unset] []))
            refine s_iloadN S487 (hb hby at_136) rfl (pc' := 137) rfl ?_
            exact K494 _
          · have hc129_500 : ¬ (k_ &&& (128 : Int32)) = (0 : Int32) := icF_eq q
            show Go p e below _ (T487.setTop (mkF m 132 #[.val (.int p0), .val (.int q0), .val (.int p1), .val (.int q1), .val (.int qx), .val (.int k_), .val (.int (0 : Int32)), .val (.int aa481), .val (.ref b482), .val (.ref b487), .val (.int qp491), .unset, .unset] []))
            refine s_iloadN S487 (hb hby at_132) rfl (pc' := 133) rfl ?_
            refine s_goto S487 (hb hby at_133) (by decide) (pcT := 137) (by decide) ?_
            exact K494 _
        · have hc115_499 : ¬ (k_ &&& (64 : Int32)) = (0 : Int32) := icF_eq q
          show Go p e below _ (T487.setTop (mkF m 118 #[.val (.int p0), .val (.int q0), .val (.int p1), .val (.int q1), .val (.int qx), .val (.int k_), .val (.int (0 : Int32)), .val (.int aa481), .val (.ref b482), .val (.ref b487), .val (.int qp491), .unset, .unset] []))
          refine s_iload S487 (hb hby at_118) rfl (pc' := 120) rfl ?_
          refine s_goto S487 (hb hby at_120) (by decide) (pcT := 137) (by decide) ?_
          exact K494 _
      refine s_iload S487 (hb hby at_82) rfl (pc' := 84) rfl ?_
      refine s_bipush S487 (hb hby at_84) (v := (16 : Int32)) rfl (pc' := 86) rfl ?_
      refine s_iand S487 (hb hby at_86) (z := (k_ &&& (16 : Int32))) rfl (pc' := 87) rfl ?_
      refine g_if S487 (hb hby at_87) (by decide) (pcT := 95) (by decide) (fun q => ?_) (fun q => ?_)
      · have hc87_501 : (k_ &&& (16 : Int32)) = (0 : Int32) := icT_eq q
        show Go p e below _ (T487.setTop (mkF m 95 #[.val (.int p0), .val (.int q0), .val (.int p1), .val (.int q1), .val (.int qx), .val (.int k_), .val (.int (0 : Int32)), .val (.int aa481), .val (.ref b482), .val (.ref b487), .unset, .unset, .unset] []))
        refine s_iload S487 (hb hby at_95) rfl (pc' := 97) rfl ?_
        refine s_bipush S487 (hb hby at_97) (v := (32 : Int32)) rfl (pc' := 99) rfl ?_
        refine s_iand S487 (hb hby at_99) (z := (k_ &&& (32 : Int32))) rfl (pc' := 100) rfl ?_
        refine g_if S487 (hb hby at_100) (by decide) (pcT := 107) (by decide) (fun q => ?_) (fun q => ?_)
        · have hc100_502 : (k_ &&& (32 : Int32)) = (0 : Int32) := icT_eq q
          show Go p e below _ (T487.setTop (mkF m 107 #[.val (.int p0), .val (.int q0), .val (.int p1), .val (.int q1), .val (.int qx), .val (.int k_), .val (.int (0 : Int32)), .val (.int aa481), .val (.ref b482), .val (.ref b487), .unset, .unset, .unset] []))
          refine s_iloadN S487 (hb hby at_107) rfl (pc' := 108) rfl ?_
          exact K492 _
        · have hc100_502 : ¬ (k_ &&& (32 : Int32)) = (0 : Int32) := icF_eq q
          show Go p e below _ (T487.setTop (mkF m 103 #[.val (.int p0), .val (.int q0), .val (.int p1), .val (.int q1), .val (.int qx), .val (.int k_), .val (.int (0 : Int32)), .val (.int aa481), .val (.ref b482), .val (.ref b487), .unset, .unset, .unset] []))
          refine s_iloadN S487 (hb hby at_103) rfl (pc' := 104) rfl ?_
          refine s_goto S487 (hb hby at_104) (by decide) (pcT := 108) (by decide) ?_
          exact K492 _
      · have hc87_501 : ¬ (k_ &&& (16 : Int32)) = (0 : Int32) := icF_eq q
        show Go p e below _ (T487.setTop (mkF m 90 #[.val (.int p0), .val (.int q0), .val (.int p1), .val (.int q1), .val (.int qx), .val (.int k_), .val (.int (0 : Int32)), .val (.int aa481), .val (.ref b482), .val (.ref b487), .unset, .unset, .unset] []))
        refine s_iload S487 (hb hby at_90) rfl (pc' := 92) rfl ?_
        refine s_goto S487 (hb hby at_92) (by decide) (pcT := 108) (by decide) ?_
        exact K492 _
    · have hc74_489 : ¬ (k_ &&& (256 : Int32)) = (0 : Int32) := icF_eq q
      show Go p e below _ (T487.setTop (mkF m 77 #[.val (.int p0), .val (.int q0), .val (.int p1), .val (.int q1), .val (.int qx), .val (.int k_), .val (.int (0 : Int32)), .val (.int aa481), .val (.ref b482), .val (.ref b487), .unset, .unset, .unset] []))
      refine s_aload S487 (hb hby at_77) rfl rfl (pc' := 79) rfl ?_
      have A503 := A0.ext E487
      have Et504 := Et0.ext E487
      show Go p e below _ (T487.setTop (mkF m 79 #[.val (.int p0), .val (.int q0), .val (.int p1), .val (.int q1), .val (.int qx), .val (.int k_), .val (.int (0 : Int32)), .val (.int aa481), .val (.ref b482), .val (.ref b487), .unset, .unset, .unset] [(.ref b482)]))
      refine g_virtual S487 (rmCL0 X S487.old A503 (by decide) (by decide) Et504) (fun _ q => nomatch q) (w158 hw) (w159 hw) (w161 hw) (w160 hw) (w2 hw) (w162 hw) (by decide) (fun _ h => notFace_of_selects h) (hb hby at_79) (by rw [hml]; rfl) b482 A503.1 [] (lenOf pd6 rfl) rfl rfl (Nat.le_of_ble_eq_true rfl) (Nat.le_of_ble_eq_true rfl) (Nat.le_of_ble_eq_true rfl) (Nat.le_of_ble_eq_true rfl) ?_
      intro v505 T505 V505 h505 S505 C505 q505
      obtain ⟨rfl, u9, ku9, E9, Fb9, Fn9, V9⟩ := q505
      have sf506 := C505.safe (Nat.lt_of_lt_of_le A0.2.2.2.2.2.1.2.2.2.2.lt (Nat.le_trans (Nat.le_refl _) E487.1)) sf488
      show Go p e below _ (T505.setTop (mkF m 82 #[.val (.int p0), .val (.int q0), .val (.int p1), .val (.int q1), .val (.int qx), .val (.int k_), .val (.int (0 : Int32)), .val (.int aa481), .val (.ref b482), .val (.ref b487), .unset, .unset, .unset] []))
      have K508 : ∀ qp507 : Int32, Go p e below (Fini Z EL1 n0 s room_1 (fun v h' => v = some (.int 1) ∧ True)) (T505.setTop (mkF m 108 #[.val (.int p0), .val (.int q0), .val (.int p1), .val (.int q1), .val (.int qx), .val (.int k_), .val (.int (0 : Int32)), .val (.int aa481), .val (.ref b482), .val (.ref b487), .unset, .unset, .unset] [(.int qp507)])) := by
        intro qp507
        show Go p e below _ (T505.setTop (mkF m 108 #[.val (.int p0), .val (.int q0), .val (.int p1), .val (.int q1), .val (.int qx), .val (.int k_), .val (.int (0 : Int32)), .val (.int aa481), .val (.ref b482), .val (.ref b487), .unset, .unset, .unset] [(.int qp507)]))
        refine s_istore S505 (hb hby at_108) (L' := #[.val (.int p0), .val (.int q0), .val (.int p1), .val (.int q1), .val (.int qx), .val (.int k_), .val (.int (0 : Int32)), .val (.int aa481), .val (.ref b482), .val (.ref b487), .val (.int qp507), .unset, .unset]) rfl (pc' := 110) rfl ?_
        have K510 : ∀ qq509 : Int32, Go p e below (Fini Z EL1 n0 s room_1 (fun v h' => v = some (.int 1) ∧ True)) (T505.setTop (mkF m 137 #[.val (.int p0), .val (.int q0), .val (.int p1), .val (.int q1), .val (.int qx), .val (.int k_), .val (.int (0 : Int32)), .val (.int aa481), .val (.ref b482), .val (.ref b487), .val (.int qp507), .unset, .unset] [(.int qq509)])) := by
          intro qq509
          show Go p e below _ (T505.setTop (mkF m 137 #[.val (.int p0), .val (.int q0), .val (.int p1), .val (.int q1), .val (.int qx), .val (.int k_), .val (.int (0 : Int32)), .val (.int aa481), .val (.ref b482), .val (.ref b487), .val (.int qp507), .unset, .unset] [(.int qq509)]))
          refine s_istore S505 (hb hby at_137) (L' := #[.val (.int p0), .val (.int q0), .val (.int p1), .val (.int q1), .val (.int qx), .val (.int k_), .val (.int (0 : Int32)), .val (.int aa481), .val (.ref b482), .val (.ref b487), .val (.int qp507), .val (.int qq509), .unset]) rfl (pc' := 139) rfl ?_
          rcases own_and3s k_ aa481 eaa481 with rfl | rfl | rfl | rfl
          · skip
            show Go p e below _ (T505.setTop (mkF m 139 #[.val (.int p0), .val (.int q0), .val (.int p1), .val (.int q1), .val (.int qx), .val (.int k_), .val (.int (0 : Int32)), .val (.int (0 : Int32)), .val (.ref b482), .val (.ref b487), .val (.int qp507), .val (.int qq509), .unset] []))
            refine s_iconst S505 (hb hby at_139) (v := (0 : Int32)) rfl (pc' := 140) rfl ?_
            refine s_istore S505 (hb hby at_140) (L' := #[.val (.int p0), .val (.int q0), .val (.int p1), .val (.int q1), .val (.int qx), .val (.int k_), .val (.int (0 : Int32)), .val (.int (0 : Int32)), .val (.ref b482), .val (.ref b487), .val (.int qp507), .val (.int qq509), .val (.int (0 : Int32))]) rfl (pc' := 142) rfl ?_
            refine s_iload S505 (hb hby at_142) rfl (pc' := 144) rfl ?_
            refine s_ifN S505 (hb hby at_144) (by decide) (pc' := 147) rfl ?_
            refine s_iload S505 (hb hby at_147) rfl (pc' := 149) rfl ?_
            refine s_iconst S505 (hb hby at_149) (v := (1 : Int32)) rfl (pc' := 150) rfl ?_
            refine s_icmpY S505 (hb hby at_150) (by decide) (by decide) (pcT := 168) (by decide) ?_
            refine s_iload S505 (hb hby at_168) rfl (pc' := 170) rfl ?_
            refine s_iconst S505 (hb hby at_170) (v := (1 : Int32)) rfl (pc' := 171) rfl ?_
            refine s_icmpY S505 (hb hby at_171) (by decide) (by decide) (pcT := 195) (by decide) ?_
            refine s_aload S505 (hb hby at_195) rfl rfl (pc' := 197) rfl ?_
            refine s_iload S505 (hb hby at_197) rfl (pc' := 199) rfl ?_
            refine s_iload S505 (hb hby at_199) rfl (pc' := 201) rfl ?_
            refine s_iload S505 (hb hby at_201) rfl (pc' := 203) rfl ?_
            show Go p e below _ (T505.setTop (mkF m 203 #[.val (.int p0), .val (.int q0), .val (.int p1), .val (.int q1), .val (.int qx), .val (.int k_), .val (.int (0 : Int32)), .val (.int (0 : Int32)), .val (.ref b482), .val (.ref b487), .val (.int qp507), .val (.int qq509), .val (.int (0 : Int32))] [(.int qq509), (.int qp507), (.int (0 : Int32)), (.ref b482)]))
            refine g_virtual S505 (rmIA001 X S505.old E9 Fb9 Fn9 V9) (fun _ q => nomatch q) (w35 hw) (w36 hw) (w38 hw) (w37 hw) (w2 hw) (w39 hw) (by decide) (fun _ h => notFace_of_selects h) (hb hby at_203) (by rw [hml]; rfl) b482 E9 [(.int (0 : Int32)), (.int qp507), (.int qq509)] (lenOf pd18 rfl) rfl rfl (Nat.le_of_ble_eq_true rfl) (Nat.le_of_ble_eq_true rfl) (Nat.le_of_ble_eq_true rfl) (Nat.le_of_ble_eq_true rfl) ?_
            intro v511 T511 V511 h511 S511 C511 q511
            obtain ⟨rfl, rfl⟩ := q511
            show Go p e below _ (T511.setTop (mkF m 206 #[.val (.int p0), .val (.int q0), .val (.int p1), .val (.int q1), .val (.int qx), .val (.int k_), .val (.int (0 : Int32)), .val (.int (0 : Int32)), .val (.ref b482), .val (.ref b487), .val (.int qp507), .val (.int qq509), .val (.int (0 : Int32))] [(.int (0 : Int32))]))
            refine s_iload S511 (hb hby at_206) rfl (pc' := 208) rfl ?_
            refine s_icmpN S511 (hb hby at_208) (by decide) (pc' := 211) rfl ?_
            refine s_iconst S511 (hb hby at_211) (v := (1 : Int32)) rfl (pc' := 212) rfl ?_
            refine s_goto S511 (hb hby at_212) (by decide) (pcT := 216) (by decide) ?_
            exact g_iretN S511 (hb hby at_216) hret (by simp) ⟨rfl, trivial⟩
          · skip
            show Go p e below _ (T505.setTop (mkF m 139 #[.val (.int p0), .val (.int q0), .val (.int p1), .val (.int q1), .val (.int qx), .val (.int k_), .val (.int (0 : Int32)), .val (.int (1 : Int32)), .val (.ref b482), .val (.ref b487), .val (.int qp507), .val (.int qq509), .unset] []))
            refine s_iconst S505 (hb hby at_139) (v := (0 : Int32)) rfl (pc' := 140) rfl ?_
            refine s_istore S505 (hb hby at_140) (L' := #[.val (.int p0), .val (.int q0), .val (.int p1), .val (.int q1), .val (.int qx), .val (.int k_), .val (.int (0 : Int32)), .val (.int (1 : Int32)), .val (.ref b482), .val (.ref b487), .val (.int qp507), .val (.int qq509), .val (.int (0 : Int32))]) rfl (pc' := 142) rfl ?_
            refine s_iload S505 (hb hby at_142) rfl (pc' := 144) rfl ?_
            refine s_ifY S505 (hb hby at_144) (by decide) (by decide) (pcT := 168) (by decide) ?_
            refine s_iload S505 (hb hby at_168) rfl (pc' := 170) rfl ?_
            refine s_iconst S505 (hb hby at_170) (v := (1 : Int32)) rfl (pc' := 171) rfl ?_
            refine s_icmpN S505 (hb hby at_171) (by decide) (pc' := 174) rfl ?_
            refine s_iload S505 (hb hby at_174) rfl (pc' := 176) rfl ?_
            refine s_iconst S505 (hb hby at_176) (v := (2 : Int32)) rfl (pc' := 177) rfl ?_
            refine s_icmpY S505 (hb hby at_177) (by decide) (by decide) (pcT := 195) (by decide) ?_
            refine s_aload S505 (hb hby at_195) rfl rfl (pc' := 197) rfl ?_
            refine s_iload S505 (hb hby at_197) rfl (pc' := 199) rfl ?_
            refine s_iload S505 (hb hby at_199) rfl (pc' := 201) rfl ?_
            refine s_iload S505 (hb hby at_201) rfl (pc' := 203) rfl ?_
            show Go p e below _ (T505.setTop (mkF m 203 #[.val (.int p0), .val (.int q0), .val (.int p1), .val (.int q1), .val (.int qx), .val (.int k_), .val (.int (0 : Int32)), .val (.int (1 : Int32)), .val (.ref b482), .val (.ref b487), .val (.int qp507), .val (.int qq509), .val (.int (0 : Int32))] [(.int qq509), (.int qp507), (.int (1 : Int32)), (.ref b482)]))
            refine g_virtual S505 (rmIA011 X S505.old E9 Fb9 Fn9 V9) (fun _ q => nomatch q) (w35 hw) (w36 hw) (w38 hw) (w37 hw) (w2 hw) (w39 hw) (by decide) (fun _ h => notFace_of_selects h) (hb hby at_203) (by rw [hml]; rfl) b482 E9 [(.int (1 : Int32)), (.int qp507), (.int qq509)] (lenOf pd18 rfl) rfl rfl (Nat.le_of_ble_eq_true rfl) (Nat.le_of_ble_eq_true rfl) (Nat.le_of_ble_eq_true rfl) (Nat.le_of_ble_eq_true rfl) ?_
            intro v512 T512 V512 h512 S512 C512 q512
            obtain ⟨rfl, rfl⟩ := q512
            show Go p e below _ (T512.setTop (mkF m 206 #[.val (.int p0), .val (.int q0), .val (.int p1), .val (.int q1), .val (.int qx), .val (.int k_), .val (.int (0 : Int32)), .val (.int (1 : Int32)), .val (.ref b482), .val (.ref b487), .val (.int qp507), .val (.int qq509), .val (.int (0 : Int32))] [(.int (0 : Int32))]))
            refine s_iload S512 (hb hby at_206) rfl (pc' := 208) rfl ?_
            refine s_icmpN S512 (hb hby at_208) (by decide) (pc' := 211) rfl ?_
            refine s_iconst S512 (hb hby at_211) (v := (1 : Int32)) rfl (pc' := 212) rfl ?_
            refine s_goto S512 (hb hby at_212) (by decide) (pcT := 216) (by decide) ?_
            exact g_iretN S512 (hb hby at_216) hret (by simp) ⟨rfl, trivial⟩
          · skip
            show Go p e below _ (T505.setTop (mkF m 139 #[.val (.int p0), .val (.int q0), .val (.int p1), .val (.int q1), .val (.int qx), .val (.int k_), .val (.int (0 : Int32)), .val (.int (2 : Int32)), .val (.ref b482), .val (.ref b487), .val (.int qp507), .val (.int qq509), .unset] []))
            refine s_iconst S505 (hb hby at_139) (v := (0 : Int32)) rfl (pc' := 140) rfl ?_
            refine s_istore S505 (hb hby at_140) (L' := #[.val (.int p0), .val (.int q0), .val (.int p1), .val (.int q1), .val (.int qx), .val (.int k_), .val (.int (0 : Int32)), .val (.int (2 : Int32)), .val (.ref b482), .val (.ref b487), .val (.int qp507), .val (.int qq509), .val (.int (0 : Int32))]) rfl (pc' := 142) rfl ?_
            refine s_iload S505 (hb hby at_142) rfl (pc' := 144) rfl ?_
            refine s_ifY S505 (hb hby at_144) (by decide) (by decide) (pcT := 168) (by decide) ?_
            refine s_iload S505 (hb hby at_168) rfl (pc' := 170) rfl ?_
            refine s_iconst S505 (hb hby at_170) (v := (1 : Int32)) rfl (pc' := 171) rfl ?_
            refine s_icmpY S505 (hb hby at_171) (by decide) (by decide) (pcT := 195) (by decide) ?_
            refine s_aload S505 (hb hby at_195) rfl rfl (pc' := 197) rfl ?_
            refine s_iload S505 (hb hby at_197) rfl (pc' := 199) rfl ?_
            refine s_iload S505 (hb hby at_199) rfl (pc' := 201) rfl ?_
            refine s_iload S505 (hb hby at_201) rfl (pc' := 203) rfl ?_
            show Go p e below _ (T505.setTop (mkF m 203 #[.val (.int p0), .val (.int q0), .val (.int p1), .val (.int q1), .val (.int qx), .val (.int k_), .val (.int (0 : Int32)), .val (.int (2 : Int32)), .val (.ref b482), .val (.ref b487), .val (.int qp507), .val (.int qq509), .val (.int (0 : Int32))] [(.int qq509), (.int qp507), (.int (2 : Int32)), (.ref b482)]))
            refine g_virtual S505 (rmIA021 X S505.old E9 Fb9 Fn9 V9) (fun _ q => nomatch q) (w35 hw) (w36 hw) (w38 hw) (w37 hw) (w2 hw) (w39 hw) (by decide) (fun _ h => notFace_of_selects h) (hb hby at_203) (by rw [hml]; rfl) b482 E9 [(.int (2 : Int32)), (.int qp507), (.int qq509)] (lenOf pd18 rfl) rfl rfl (Nat.le_of_ble_eq_true rfl) (Nat.le_of_ble_eq_true rfl) (Nat.le_of_ble_eq_true rfl) (Nat.le_of_ble_eq_true rfl) ?_
            intro v513 T513 V513 h513 S513 C513 q513
            obtain ⟨rfl, rfl⟩ := q513
            show Go p e below _ (T513.setTop (mkF m 206 #[.val (.int p0), .val (.int q0), .val (.int p1), .val (.int q1), .val (.int qx), .val (.int k_), .val (.int (0 : Int32)), .val (.int (2 : Int32)), .val (.ref b482), .val (.ref b487), .val (.int qp507), .val (.int qq509), .val (.int (0 : Int32))] [(.int (0 : Int32))]))
            refine s_iload S513 (hb hby at_206) rfl (pc' := 208) rfl ?_
            refine s_icmpN S513 (hb hby at_208) (by decide) (pc' := 211) rfl ?_
            refine s_iconst S513 (hb hby at_211) (v := (1 : Int32)) rfl (pc' := 212) rfl ?_
            refine s_goto S513 (hb hby at_212) (by decide) (pcT := 216) (by decide) ?_
            exact g_iretN S513 (hb hby at_216) hret (by simp) ⟨rfl, trivial⟩
          · skip
            show Go p e below _ (T505.setTop (mkF m 139 #[.val (.int p0), .val (.int q0), .val (.int p1), .val (.int q1), .val (.int qx), .val (.int k_), .val (.int (0 : Int32)), .val (.int (3 : Int32)), .val (.ref b482), .val (.ref b487), .val (.int qp507), .val (.int qq509), .unset] []))
            refine s_iconst S505 (hb hby at_139) (v := (0 : Int32)) rfl (pc' := 140) rfl ?_
            refine s_istore S505 (hb hby at_140) (L' := #[.val (.int p0), .val (.int q0), .val (.int p1), .val (.int q1), .val (.int qx), .val (.int k_), .val (.int (0 : Int32)), .val (.int (3 : Int32)), .val (.ref b482), .val (.ref b487), .val (.int qp507), .val (.int qq509), .val (.int (0 : Int32))]) rfl (pc' := 142) rfl ?_
            refine s_iload S505 (hb hby at_142) rfl (pc' := 144) rfl ?_
            refine s_ifY S505 (hb hby at_144) (by decide) (by decide) (pcT := 168) (by decide) ?_
            refine s_iload S505 (hb hby at_168) rfl (pc' := 170) rfl ?_
            refine s_iconst S505 (hb hby at_170) (v := (1 : Int32)) rfl (pc' := 171) rfl ?_
            refine s_icmpY S505 (hb hby at_171) (by decide) (by decide) (pcT := 195) (by decide) ?_
            refine s_aload S505 (hb hby at_195) rfl rfl (pc' := 197) rfl ?_
            refine s_iload S505 (hb hby at_197) rfl (pc' := 199) rfl ?_
            refine s_iload S505 (hb hby at_199) rfl (pc' := 201) rfl ?_
            refine s_iload S505 (hb hby at_201) rfl (pc' := 203) rfl ?_
            show Go p e below _ (T505.setTop (mkF m 203 #[.val (.int p0), .val (.int q0), .val (.int p1), .val (.int q1), .val (.int qx), .val (.int k_), .val (.int (0 : Int32)), .val (.int (3 : Int32)), .val (.ref b482), .val (.ref b487), .val (.int qp507), .val (.int qq509), .val (.int (0 : Int32))] [(.int qq509), (.int qp507), (.int (3 : Int32)), (.ref b482)]))
            refine g_virtual S505 (rmIA031 X S505.old E9 Fb9 Fn9 V9) (fun _ q => nomatch q) (w35 hw) (w36 hw) (w38 hw) (w37 hw) (w2 hw) (w39 hw) (by decide) (fun _ h => notFace_of_selects h) (hb hby at_203) (by rw [hml]; rfl) b482 E9 [(.int (3 : Int32)), (.int qp507), (.int qq509)] (lenOf pd18 rfl) rfl rfl (Nat.le_of_ble_eq_true rfl) (Nat.le_of_ble_eq_true rfl) (Nat.le_of_ble_eq_true rfl) (Nat.le_of_ble_eq_true rfl) ?_
            intro v514 T514 V514 h514 S514 C514 q514
            obtain ⟨rfl, rfl⟩ := q514
            show Go p e below _ (T514.setTop (mkF m 206 #[.val (.int p0), .val (.int q0), .val (.int p1), .val (.int q1), .val (.int qx), .val (.int k_), .val (.int (0 : Int32)), .val (.int (3 : Int32)), .val (.ref b482), .val (.ref b487), .val (.int qp507), .val (.int qq509), .val (.int (0 : Int32))] [(.int (0 : Int32))]))
            refine s_iload S514 (hb hby at_206) rfl (pc' := 208) rfl ?_
            refine s_icmpN S514 (hb hby at_208) (by decide) (pc' := 211) rfl ?_
            refine s_iconst S514 (hb hby at_211) (v := (1 : Int32)) rfl (pc' := 212) rfl ?_
            refine s_goto S514 (hb hby at_212) (by decide) (pcT := 216) (by decide) ?_
            exact g_iretN S514 (hb hby at_216) hret (by simp) ⟨rfl, trivial⟩
        refine s_iload S505 (hb hby at_110) rfl (pc' := 112) rfl ?_
        refine s_bipush S505 (hb hby at_112) (v := (64 : Int32)) rfl (pc' := 114) rfl ?_
        refine s_iand S505 (hb hby at_114) (z := (k_ &&& (64 : Int32))) rfl (pc' := 115) rfl ?_
        refine g_if S505 (hb hby at_115) (by decide) (pcT := 123) (by decide) (fun q => ?_) (fun q => ?_)
        · have hc115_515 : (k_ &&& (64 : Int32)) = (0 : Int32) := icT_eq q
          show Go p e below _ (T505.setTop (mkF m 123 #[.val (.int p0), .val (.int q0), .val (.int p1), .val (.int q1), .val (.int qx), .val (.int k_), .val (.int (0 : Int32)), .val (.int aa481), .val (.ref b482), .val (.ref b487), .val (.int qp507), .unset, .unset] []))
          refine s_iload S505 (hb hby at_123) rfl (pc' := 125) rfl ?_
          refine s_sipush S505 (hb hby at_125) (v := (128 : Int32)) rfl (pc' := 128) rfl ?_
          refine s_iand S505 (hb hby at_128) (z := (k_ &&& (128 : Int32))) rfl (pc' := 129) rfl ?_
          refine g_if S505 (hb hby at_129) (by decide) (pcT := 136) (by decide) (fun q => ?_) (fun q => ?_)
          · have hc129_516 : (k_ &&& (128 : Int32)) = (0 : Int32) := icT_eq q
            show Go p e below _ (T505.setTop (mkF m 136 #[.val (.int p0), .val (.int q0), .val (.int p1), .val (.int q1), .val (.int qx), .val (.int k_), .val (.int (0 : Int32)), .val (.int aa481), .val (.ref b482), .val (.ref b487), .val (.int qp507), .unset, .unset] []))
            refine s_iloadN S505 (hb hby at_136) rfl (pc' := 137) rfl ?_
            exact K510 _
          · have hc129_516 : ¬ (k_ &&& (128 : Int32)) = (0 : Int32) := icF_eq q
            show Go p e below _ (T505.setTop (mkF m 132 #[.val (.int p0), .val (.int q0), .val (.int p1), .val (.int q1), .val (.int qx), .val (.int k_), .val (.int (0 : Int32)), .val (.int aa481), .val (.ref b482), .val (.ref b487), .val (.int qp507), .unset, .unset] []))
            refine s_iloadN S505 (hb hby at_132) rfl (pc' := 133) rfl ?_
            refine s_goto S505 (hb hby at_133) (by decide) (pcT := 137) (by decide) ?_
            exact K510 _
        · have hc115_515 : ¬ (k_ &&& (64 : Int32)) = (0 : Int32) := icF_eq q
          show Go p e below _ (T505.setTop (mkF m 118 #[.val (.int p0), .val (.int q0), .val (.int p1), .val (.int q1), .val (.int qx), .val (.int k_), .val (.int (0 : Int32)), .val (.int aa481), .val (.ref b482), .val (.ref b487), .val (.int qp507), .unset, .unset] []))
          refine s_iload S505 (hb hby at_118) rfl (pc' := 120) rfl ?_
          refine s_goto S505 (hb hby at_120) (by decide) (pcT := 137) (by decide) ?_
          exact K510 _
      refine s_iload S505 (hb hby at_82) rfl (pc' := 84) rfl ?_
      refine s_bipush S505 (hb hby at_84) (v := (16 : Int32)) rfl (pc' := 86) rfl ?_
      refine s_iand S505 (hb hby at_86) (z := (k_ &&& (16 : Int32))) rfl (pc' := 87) rfl ?_
      refine g_if S505 (hb hby at_87) (by decide) (pcT := 95) (by decide) (fun q => ?_) (fun q => ?_)
      · have hc87_517 : (k_ &&& (16 : Int32)) = (0 : Int32) := icT_eq q
        show Go p e below _ (T505.setTop (mkF m 95 #[.val (.int p0), .val (.int q0), .val (.int p1), .val (.int q1), .val (.int qx), .val (.int k_), .val (.int (0 : Int32)), .val (.int aa481), .val (.ref b482), .val (.ref b487), .unset, .unset, .unset] []))
        refine s_iload S505 (hb hby at_95) rfl (pc' := 97) rfl ?_
        refine s_bipush S505 (hb hby at_97) (v := (32 : Int32)) rfl (pc' := 99) rfl ?_
        refine s_iand S505 (hb hby at_99) (z := (k_ &&& (32 : Int32))) rfl (pc' := 100) rfl ?_
        refine g_if S505 (hb hby at_100) (by decide) (pcT := 107) (by decide) (fun q => ?_) (fun q => ?_)
        · have hc100_518 : (k_ &&& (32 : Int32)) = (0 : Int32) := icT_eq q
          show Go p e below _ (T505.setTop (mkF m 107 #[.val (.int p0), .val (.int q0), .val (.int p1), .val (.int q1), .val (.int qx), .val (.int k_), .val (.int (0 : Int32)), .val (.int aa481), .val (.ref b482), .val (.ref b487), .unset, .unset, .unset] []))
          refine s_iloadN S505 (hb hby at_107) rfl (pc' := 108) rfl ?_
          exact K508 _
        · have hc100_518 : ¬ (k_ &&& (32 : Int32)) = (0 : Int32) := icF_eq q
          show Go p e below _ (T505.setTop (mkF m 103 #[.val (.int p0), .val (.int q0), .val (.int p1), .val (.int q1), .val (.int qx), .val (.int k_), .val (.int (0 : Int32)), .val (.int aa481), .val (.ref b482), .val (.ref b487), .unset, .unset, .unset] []))
          refine s_iloadN S505 (hb hby at_103) rfl (pc' := 104) rfl ?_
          refine s_goto S505 (hb hby at_104) (by decide) (pcT := 108) (by decide) ?_
          exact K508 _
      · have hc87_517 : ¬ (k_ &&& (16 : Int32)) = (0 : Int32) := icF_eq q
        show Go p e below _ (T505.setTop (mkF m 90 #[.val (.int p0), .val (.int q0), .val (.int p1), .val (.int q1), .val (.int qx), .val (.int k_), .val (.int (0 : Int32)), .val (.int aa481), .val (.ref b482), .val (.ref b487), .unset, .unset, .unset] []))
        refine s_iload S505 (hb hby at_90) rfl (pc' := 92) rfl ?_
        refine s_goto S505 (hb hby at_92) (by decide) (pcT := 108) (by decide) ?_
        exact K508 _
  · skip
    show Go p e below _ (T0.setTop (mkF m 8 #[.val (.int p0), .val (.int q0), .val (.int p1), .val (.int q1), .val (.int qx), .val (.int k_), .val (.int (1 : Int32)), .unset, .unset, .unset, .unset, .unset, .unset] []))
    refine s_iload S0 (hb hby at_8) rfl (pc' := 10) rfl ?_
    refine s_iconst S0 (hb hby at_10) (v := (2 : Int32)) rfl (pc' := 11) rfl ?_
    refine s_iushr S0 (hb hby at_11) (z := ((k_.toUInt32 >>> ((2 : Int32) &&& 31).toUInt32).toInt32)) rfl (pc' := 12) rfl ?_
    refine s_iconst S0 (hb hby at_12) (v := (3 : Int32)) rfl (pc' := 13) rfl ?_
    refine s_iand S0 (hb hby at_13) (z := (((k_.toUInt32 >>> ((2 : Int32) &&& 31).toUInt32).toInt32) &&& (3 : Int32))) rfl (pc' := 14) rfl ?_
    generalize eaa519 : (((k_.toUInt32 >>> ((2 : Int32) &&& 31).toUInt32).toInt32) &&& (3 : Int32)) = aa519
    refine s_istore S0 (hb hby at_14) (L' := #[.val (.int p0), .val (.int q0), .val (.int p1), .val (.int q1), .val (.int qx), .val (.int k_), .val (.int (1 : Int32)), .val (.int aa519), .unset, .unset, .unset, .unset, .unset]) rfl (pc' := 16) rfl ?_
    refine g_new S0 (w0 hw) (w1 hw) (w2 hw) (hb hby at_16) (Nat.le_of_ble_eq_true rfl) (Nat.le_of_ble_eq_true rfl) ?_
    intro T520 h520 b520 S520 E520 fr520 lt520 na520 sf520 A520 D520
    have F521 : Fld Z h520 b520 "com/example/nodewarden/nodewarden/core/Asides" "text" "Ljava/lang/StringBuilder;" .null := D520 (Or.inr (w30 hw)) (ty := (.object "java/lang/StringBuilder")) (by decide)
    have F522 : Fld Z h520 b520 "com/example/nodewarden/nodewarden/core/Asides" "table" "[I" .null := D520 (Or.inl (w33 hw)) (ty := (.array .int)) (by decide)
    have F523 : Fld Z h520 b520 "com/example/nodewarden/nodewarden/core/Asides" "count" "I" (.int (0 : Int32)) := D520 (Or.inl (w41 hw)) (ty := .int) (by decide)
    show Go p e below _ (T520.setTop (mkF m 19 #[.val (.int p0), .val (.int q0), .val (.int p1), .val (.int q1), .val (.int qx), .val (.int k_), .val (.int (1 : Int32)), .val (.int aa519), .unset, .unset, .unset, .unset, .unset] [(.ref b520)]))
    refine s_dup S520 (hb hby at_19) rfl (pc' := 20) rfl ?_
    show Go p e below _ (T520.setTop (mkF m 20 #[.val (.int p0), .val (.int q0), .val (.int p1), .val (.int q1), .val (.int qx), .val (.int k_), .val (.int (1 : Int32)), .val (.int aa519), .unset, .unset, .unset, .unset, .unset] [(.ref b520), (.ref b520)]))
    refine g_special S520 (rmIN X na520 S520.old A520 F521 F522 F523) (fun _ q => nomatch q) rfl (w3 hw) (w4 hw) (w2 hw) (w5 hw) (by decide) (hb hby at_20) (by rw [hml]; rfl) b520 [] (lenOf pd6 rfl) rfl rfl (Nat.le_of_ble_eq_true rfl) (Nat.le_of_ble_eq_true rfl) (Nat.le_of_ble_eq_true rfl) (Nat.le_of_ble_eq_true rfl) ?_
    intro v524 T524 V524 h524 S524 C524 q524
    obtain ⟨rfl, sb, tb, t, kb, kt, K0, A0, sf0_, Et0⟩ := q524
    show Go p e below _ (T524.setTop (mkF m 23 #[.val (.int p0), .val (.int q0), .val (.int p1), .val (.int q1), .val (.int qx), .val (.int k_), .val (.int (1 : Int32)), .val (.int aa519), .unset, .unset, .unset, .unset, .unset] [(.ref b520)]))
    refine s_astore S524 (hb hby at_23) rfl (L' := #[.val (.int p0), .val (.int q0), .val (.int p1), .val (.int q1), .val (.int qx), .val (.int k_), .val (.int (1 : Int32)), .val (.int aa519), .val (.ref b520), .unset, .unset, .unset, .unset]) rfl (pc' := 25) rfl ?_
    refine s_iconst S524 (hb hby at_25) (v := (0 : Int32)) rfl (pc' := 26) rfl ?_
    refine g_newarr (aty := .char) S524 (w34 hw) (hb hby at_26) (by decide) (cap := 0) (by decide) (by decide) (Nat.le_of_ble_eq_true rfl) (Nat.le_of_ble_eq_true rfl) ?_
    intro T525 h525 b525 kc525 S525 E525 fr525 lt525 na525 sf525 A525
    have sf526 := Safe.ext E525 S524.chv sf0_
    have V525 : Arv Z h525 b525 kc525 .char (0 : Int32) [] (.int (0 : Int32)) := A525 0
    show Go p e below _ (T525.setTop (mkF m 28 #[.val (.int p0), .val (.int q0), .val (.int p1), .val (.int q1), .val (.int qx), .val (.int k_), .val (.int (1 : Int32)), .val (.int aa519), .val (.ref b520), .unset, .unset, .unset, .unset] [(.ref b525)]))
    refine s_astore S525 (hb hby at_28) rfl (L' := #[.val (.int p0), .val (.int q0), .val (.int p1), .val (.int q1), .val (.int qx), .val (.int k_), .val (.int (1 : Int32)), .val (.int aa519), .val (.ref b520), .val (.ref b525), .unset, .unset, .unset]) rfl (pc' := 30) rfl ?_
    refine s_iload S525 (hb hby at_30) rfl (pc' := 32) rfl ?_
    refine s_iconst S525 (hb hby at_32) (v := (1 : Int32)) rfl (pc' := 33) rfl ?_
    refine s_icmpN S525 (hb hby at_33) (by decide) (pc' := 36) rfl ?_
    refine s_aload S525 (hb hby at_36) rfl rfl (pc' := 38) rfl ?_
    refine s_iloadN S525 (hb hby at_38) rfl (pc' := 39) rfl ?_
    refine s_iloadN S525 (hb hby at_39) rfl (pc' := 40) rfl ?_
    refine s_iload S525 (hb hby at_40) rfl (pc' := 42) rfl ?_
    refine s_aload S525 (hb hby at_42) rfl rfl (pc' := 44) rfl ?_
    refine s_iconst S525 (hb hby at_44) (v := (0 : Int32)) rfl (pc' := 45) rfl ?_
    refine s_iconst S525 (hb hby at_45) (v := (0 : Int32)) rfl (pc' := 46) rfl ?_
    have A527 := A0.ext E525
    show Go p e below _ (T525.setTop (mkF m 46 #[.val (.int p0), .val (.int q0), .val (.int p1), .val (.int q1), .val (.int qx), .val (.int k_), .val (.int (1 : Int32)), .val (.int aa519), .val (.ref b520), .val (.ref b525), .unset, .unset, .unset] [(.int (0 : Int32)), (.int (0 : Int32)), (.ref b525), (.int qx), (.int q0), (.int p0), (.ref b520)]))
    refine g_virtual S525 (rmAC0 X p0 q0 qx S525.old A527 V525) (fun _ q => nomatch q) (w42 hw) (w43 hw) (w45 hw) (w44 hw) (w2 hw) (w46 hw) (by decide) (fun _ h => notFace_of_selects h) (hb hby at_46) (by rw [hml]; rfl) b520 A527.1 [(.int p0), (.int q0), (.int qx), (.ref b525), (.int (0 : Int32)), (.int (0 : Int32))] (lenOf pd19 rfl) rfl rfl (Nat.le_of_ble_eq_true rfl) (Nat.le_of_ble_eq_true rfl) (Nat.le_of_ble_eq_true rfl) (Nat.le_of_ble_eq_true rfl) ?_
    intro v528 T528 V528 h528 S528 C528 q528
    obtain ⟨rfl, t1, kt1, A1, V1⟩ := q528
    have sfA := C528.safe (Nat.lt_of_lt_of_le A0.2.2.2.2.2.1.2.2.2.2.lt (Nat.le_trans (Nat.le_refl _) E525.1)) sf526
    show Go p e below _ (T528.setTop (mkF m 49 #[.val (.int p0), .val (.int q0), .val (.int p1), .val (.int q1), .val (.int qx), .val (.int k_), .val (.int (1 : Int32)), .val (.int aa519), .val (.ref b520), .val (.ref b525), .unset, .unset, .unset] []))
    refine s_iload S528 (hb hby at_49) rfl (pc' := 51) rfl ?_
    refine s_iconst S528 (hb hby at_51) (v := (2 : Int32)) rfl (pc' := 52) rfl ?_
    refine s_icmpY S528 (hb hby at_52) (by decide) (by decide) (pcT := 68) (by decide) ?_
    refine s_iload S528 (hb hby at_68) rfl (pc' := 70) rfl ?_
    refine s_sipush S528 (hb hby at_70) (v := (256 : Int32)) rfl (pc' := 73) rfl ?_
    refine s_iand S528 (hb hby at_73) (z := (k_ &&& (256 : Int32))) rfl (pc' := 74) rfl ?_
    refine g_if S528 (hb hby at_74) (by decide) (pcT := 82) (by decide) (fun q => ?_) (fun q => ?_)
    · have hc74_529 : (k_ &&& (256 : Int32)) = (0 : Int32) := icT_eq q
      show Go p e below _ (T528.setTop (mkF m 82 #[.val (.int p0), .val (.int q0), .val (.int p1), .val (.int q1), .val (.int qx), .val (.int k_), .val (.int (1 : Int32)), .val (.int aa519), .val (.ref b520), .val (.ref b525), .unset, .unset, .unset] []))
      obtain ⟨E9, -, Fb9, Fn9, V9, -⟩ := A1
      have K531 : ∀ qp530 : Int32, Go p e below (Fini Z EL1 n0 s room_1 (fun v h' => v = some (.int 1) ∧ True)) (T528.setTop (mkF m 108 #[.val (.int p0), .val (.int q0), .val (.int p1), .val (.int q1), .val (.int qx), .val (.int k_), .val (.int (1 : Int32)), .val (.int aa519), .val (.ref b520), .val (.ref b525), .unset, .unset, .unset] [(.int qp530)])) := by
        intro qp530
        show Go p e below _ (T528.setTop (mkF m 108 #[.val (.int p0), .val (.int q0), .val (.int p1), .val (.int q1), .val (.int qx), .val (.int k_), .val (.int (1 : Int32)), .val (.int aa519), .val (.ref b520), .val (.ref b525), .unset, .unset, .unset] [(.int qp530)]))
        refine s_istore S528 (hb hby at_108) (L' := #[.val (.int p0), .val (.int q0), .val (.int p1), .val (.int q1), .val (.int qx), .val (.int k_), .val (.int (1 : Int32)), .val (.int aa519), .val (.ref b520), .val (.ref b525), .val (.int qp530), .unset, .unset]) rfl (pc' := 110) rfl ?_
        have K533 : ∀ qq532 : Int32, Go p e below (Fini Z EL1 n0 s room_1 (fun v h' => v = some (.int 1) ∧ True)) (T528.setTop (mkF m 137 #[.val (.int p0), .val (.int q0), .val (.int p1), .val (.int q1), .val (.int qx), .val (.int k_), .val (.int (1 : Int32)), .val (.int aa519), .val (.ref b520), .val (.ref b525), .val (.int qp530), .unset, .unset] [(.int qq532)])) := by
          intro qq532
          show Go p e below _ (T528.setTop (mkF m 137 #[.val (.int p0), .val (.int q0), .val (.int p1), .val (.int q1), .val (.int qx), .val (.int k_), .val (.int (1 : Int32)), .val (.int aa519), .val (.ref b520), .val (.ref b525), .val (.int qp530), .unset, .unset] [(.int qq532)]))
          refine s_istore S528 (hb hby at_137) (L' := #[.val (.int p0), .val (.int q0), .val (.int p1), .val (.int q1), .val (.int qx), .val (.int k_), .val (.int (1 : Int32)), .val (.int aa519), .val (.ref b520), .val (.ref b525), .val (.int qp530), .val (.int qq532), .unset]) rfl (pc' := 139) rfl ?_
          rcases own_and3s k_ aa519 eaa519 with rfl | rfl | rfl | rfl
          · skip
            show Go p e below _ (T528.setTop (mkF m 139 #[.val (.int p0), .val (.int q0), .val (.int p1), .val (.int q1), .val (.int qx), .val (.int k_), .val (.int (1 : Int32)), .val (.int (0 : Int32)), .val (.ref b520), .val (.ref b525), .val (.int qp530), .val (.int qq532), .unset] []))
            refine s_iconst S528 (hb hby at_139) (v := (0 : Int32)) rfl (pc' := 140) rfl ?_
            refine s_istore S528 (hb hby at_140) (L' := #[.val (.int p0), .val (.int q0), .val (.int p1), .val (.int q1), .val (.int qx), .val (.int k_), .val (.int (1 : Int32)), .val (.int (0 : Int32)), .val (.ref b520), .val (.ref b525), .val (.int qp530), .val (.int qq532), .val (.int (0 : Int32))]) rfl (pc' := 142) rfl ?_
            refine s_iload S528 (hb hby at_142) rfl (pc' := 144) rfl ?_
            refine s_ifN S528 (hb hby at_144) (by decide) (pc' := 147) rfl ?_
            refine s_iload S528 (hb hby at_147) rfl (pc' := 149) rfl ?_
            refine s_iconst S528 (hb hby at_149) (v := (1 : Int32)) rfl (pc' := 150) rfl ?_
            refine s_icmpN S528 (hb hby at_150) (by decide) (pc' := 153) rfl ?_
            refine s_iload S528 (hb hby at_153) rfl (pc' := 155) rfl ?_
            refine s_iloadN S528 (hb hby at_155) rfl (pc' := 156) rfl ?_
            refine g_icmp S528 (hb hby at_156) (by decide) (pcT := 168) (by decide) (fun q => ?_) (fun q => ?_)
            · have hc156_534 : ¬ qp530 = p0 := icT_ne q
              show Go p e below _ (T528.setTop (mkF m 168 #[.val (.int p0), .val (.int q0), .val (.int p1), .val (.int q1), .val (.int qx), .val (.int k_), .val (.int (1 : Int32)), .val (.int (0 : Int32)), .val (.ref b520), .val (.ref b525), .val (.int qp530), .val (.int qq532), .val (.int (0 : Int32))] []))
              refine s_iload S528 (hb hby at_168) rfl (pc' := 170) rfl ?_
              refine s_iconst S528 (hb hby at_170) (v := (1 : Int32)) rfl (pc' := 171) rfl ?_
              refine s_icmpY S528 (hb hby at_171) (by decide) (by decide) (pcT := 195) (by decide) ?_
              refine s_aload S528 (hb hby at_195) rfl rfl (pc' := 197) rfl ?_
              refine s_iload S528 (hb hby at_197) rfl (pc' := 199) rfl ?_
              refine s_iload S528 (hb hby at_199) rfl (pc' := 201) rfl ?_
              refine s_iload S528 (hb hby at_201) rfl (pc' := 203) rfl ?_
              show Go p e below _ (T528.setTop (mkF m 203 #[.val (.int p0), .val (.int q0), .val (.int p1), .val (.int q1), .val (.int qx), .val (.int k_), .val (.int (1 : Int32)), .val (.int (0 : Int32)), .val (.ref b520), .val (.ref b525), .val (.int qp530), .val (.int qq532), .val (.int (0 : Int32))] [(.int qq532), (.int qp530), (.int (0 : Int32)), (.ref b520)]))
              refine g_virtual S528 (rmIA100 X S528.old E9 Fb9 Fn9 V9) (fun _ q => nomatch q) (w35 hw) (w36 hw) (w38 hw) (w37 hw) (w2 hw) (w39 hw) (by decide) (fun _ h => notFace_of_selects h) (hb hby at_203) (by rw [hml]; rfl) b520 E9 [(.int (0 : Int32)), (.int qp530), (.int qq532)] (lenOf pd18 rfl) rfl rfl (Nat.le_of_ble_eq_true rfl) (Nat.le_of_ble_eq_true rfl) (Nat.le_of_ble_eq_true rfl) (Nat.le_of_ble_eq_true rfl) ?_
              intro v536 T536 V536 h536 S536 C536 q536
              obtain ⟨g535, rfl, hg535, rfl⟩ := q536
              obtain rfl : g535 = 0 := hg535.elim (fun q => absurd q.2.1.symm hc156_534) (fun q => q.1)
              show Go p e below _ (T536.setTop (mkF m 206 #[.val (.int p0), .val (.int q0), .val (.int p1), .val (.int q1), .val (.int qx), .val (.int k_), .val (.int (1 : Int32)), .val (.int (0 : Int32)), .val (.ref b520), .val (.ref b525), .val (.int qp530), .val (.int qq532), .val (.int (0 : Int32))] [(.int (0 : Int32))]))
              refine s_iload S536 (hb hby at_206) rfl (pc' := 208) rfl ?_
              refine s_icmpN S536 (hb hby at_208) (by decide) (pc' := 211) rfl ?_
              refine s_iconst S536 (hb hby at_211) (v := (1 : Int32)) rfl (pc' := 212) rfl ?_
              refine s_goto S536 (hb hby at_212) (by decide) (pcT := 216) (by decide) ?_
              exact g_iretN S536 (hb hby at_216) hret (by simp) ⟨rfl, trivial⟩
            · have hc156_534 : qp530 = p0 := icF_ne q
              show Go p e below _ (T528.setTop (mkF m 159 #[.val (.int p0), .val (.int q0), .val (.int p1), .val (.int q1), .val (.int qx), .val (.int k_), .val (.int (1 : Int32)), .val (.int (0 : Int32)), .val (.ref b520), .val (.ref b525), .val (.int qp530), .val (.int qq532), .val (.int (0 : Int32))] []))
              refine s_iload S528 (hb hby at_159) rfl (pc' := 161) rfl ?_
              refine s_iloadN S528 (hb hby at_161) rfl (pc' := 162) rfl ?_
              refine g_icmp S528 (hb hby at_162) (by decide) (pcT := 168) (by decide) (fun q => ?_) (fun q => ?_)
              · have hc162_537 : ¬ qq532 = q0 := icT_ne q
                show Go p e below _ (T528.setTop (mkF m 168 #[.val (.int p0), .val (.int q0), .val (.int p1), .val (.int q1), .val (.int qx), .val (.int k_), .val (.int (1 : Int32)), .val (.int (0 : Int32)), .val (.ref b520), .val (.ref b525), .val (.int qp530), .val (.int qq532), .val (.int (0 : Int32))] []))
                refine s_iload S528 (hb hby at_168) rfl (pc' := 170) rfl ?_
                refine s_iconst S528 (hb hby at_170) (v := (1 : Int32)) rfl (pc' := 171) rfl ?_
                refine s_icmpY S528 (hb hby at_171) (by decide) (by decide) (pcT := 195) (by decide) ?_
                refine s_aload S528 (hb hby at_195) rfl rfl (pc' := 197) rfl ?_
                refine s_iload S528 (hb hby at_197) rfl (pc' := 199) rfl ?_
                refine s_iload S528 (hb hby at_199) rfl (pc' := 201) rfl ?_
                refine s_iload S528 (hb hby at_201) rfl (pc' := 203) rfl ?_
                show Go p e below _ (T528.setTop (mkF m 203 #[.val (.int p0), .val (.int q0), .val (.int p1), .val (.int q1), .val (.int qx), .val (.int k_), .val (.int (1 : Int32)), .val (.int (0 : Int32)), .val (.ref b520), .val (.ref b525), .val (.int qp530), .val (.int qq532), .val (.int (0 : Int32))] [(.int qq532), (.int qp530), (.int (0 : Int32)), (.ref b520)]))
                refine g_virtual S528 (rmIA100 X S528.old E9 Fb9 Fn9 V9) (fun _ q => nomatch q) (w35 hw) (w36 hw) (w38 hw) (w37 hw) (w2 hw) (w39 hw) (by decide) (fun _ h => notFace_of_selects h) (hb hby at_203) (by rw [hml]; rfl) b520 E9 [(.int (0 : Int32)), (.int qp530), (.int qq532)] (lenOf pd18 rfl) rfl rfl (Nat.le_of_ble_eq_true rfl) (Nat.le_of_ble_eq_true rfl) (Nat.le_of_ble_eq_true rfl) (Nat.le_of_ble_eq_true rfl) ?_
                intro v539 T539 V539 h539 S539 C539 q539
                obtain ⟨g538, rfl, hg538, rfl⟩ := q539
                obtain rfl : g538 = 0 := hg538.elim (fun q => absurd q.2.2.symm hc162_537) (fun q => q.1)
                show Go p e below _ (T539.setTop (mkF m 206 #[.val (.int p0), .val (.int q0), .val (.int p1), .val (.int q1), .val (.int qx), .val (.int k_), .val (.int (1 : Int32)), .val (.int (0 : Int32)), .val (.ref b520), .val (.ref b525), .val (.int qp530), .val (.int qq532), .val (.int (0 : Int32))] [(.int (0 : Int32))]))
                refine s_iload S539 (hb hby at_206) rfl (pc' := 208) rfl ?_
                refine s_icmpN S539 (hb hby at_208) (by decide) (pc' := 211) rfl ?_
                refine s_iconst S539 (hb hby at_211) (v := (1 : Int32)) rfl (pc' := 212) rfl ?_
                refine s_goto S539 (hb hby at_212) (by decide) (pcT := 216) (by decide) ?_
                exact g_iretN S539 (hb hby at_216) hret (by simp) ⟨rfl, trivial⟩
              · have hc162_537 : qq532 = q0 := icF_ne q
                show Go p e below _ (T528.setTop (mkF m 165 #[.val (.int p0), .val (.int q0), .val (.int p1), .val (.int q1), .val (.int qx), .val (.int k_), .val (.int (1 : Int32)), .val (.int (0 : Int32)), .val (.ref b520), .val (.ref b525), .val (.int qp530), .val (.int qq532), .val (.int (0 : Int32))] []))
                refine s_iconst S528 (hb hby at_165) (v := (1 : Int32)) rfl (pc' := 166) rfl ?_
                refine s_istore S528 (hb hby at_166) (L' := #[.val (.int p0), .val (.int q0), .val (.int p1), .val (.int q1), .val (.int qx), .val (.int k_), .val (.int (1 : Int32)), .val (.int (0 : Int32)), .val (.ref b520), .val (.ref b525), .val (.int qp530), .val (.int qq532), .val (.int (1 : Int32))]) rfl (pc' := 168) rfl ?_
                refine s_iload S528 (hb hby at_168) rfl (pc' := 170) rfl ?_
                refine s_iconst S528 (hb hby at_170) (v := (1 : Int32)) rfl (pc' := 171) rfl ?_
                refine s_icmpY S528 (hb hby at_171) (by decide) (by decide) (pcT := 195) (by decide) ?_
                refine s_aload S528 (hb hby at_195) rfl rfl (pc' := 197) rfl ?_
                refine s_iload S528 (hb hby at_197) rfl (pc' := 199) rfl ?_
                refine s_iload S528 (hb hby at_199) rfl (pc' := 201) rfl ?_
                refine s_iload S528 (hb hby at_201) rfl (pc' := 203) rfl ?_
                show Go p e below _ (T528.setTop (mkF m 203 #[.val (.int p0), .val (.int q0), .val (.int p1), .val (.int q1), .val (.int qx), .val (.int k_), .val (.int (1 : Int32)), .val (.int (0 : Int32)), .val (.ref b520), .val (.ref b525), .val (.int qp530), .val (.int qq532), .val (.int (1 : Int32))] [(.int qq532), (.int qp530), (.int (0 : Int32)), (.ref b520)]))
                refine g_virtual S528 (rmIA100 X S528.old E9 Fb9 Fn9 V9) (fun _ q => nomatch q) (w35 hw) (w36 hw) (w38 hw) (w37 hw) (w2 hw) (w39 hw) (by decide) (fun _ h => notFace_of_selects h) (hb hby at_203) (by rw [hml]; rfl) b520 E9 [(.int (0 : Int32)), (.int qp530), (.int qq532)] (lenOf pd18 rfl) rfl rfl (Nat.le_of_ble_eq_true rfl) (Nat.le_of_ble_eq_true rfl) (Nat.le_of_ble_eq_true rfl) (Nat.le_of_ble_eq_true rfl) ?_
                intro v541 T541 V541 h541 S541 C541 q541
                obtain ⟨g540, rfl, hg540, rfl⟩ := q541
                obtain rfl : g540 = 1 := hg540.elim (fun q => q.1) (fun q => absurd ⟨hc156_534.symm, hc162_537.symm⟩ q.2)
                show Go p e below _ (T541.setTop (mkF m 206 #[.val (.int p0), .val (.int q0), .val (.int p1), .val (.int q1), .val (.int qx), .val (.int k_), .val (.int (1 : Int32)), .val (.int (0 : Int32)), .val (.ref b520), .val (.ref b525), .val (.int qp530), .val (.int qq532), .val (.int (1 : Int32))] [(.int (1 : Int32))]))
                refine s_iload S541 (hb hby at_206) rfl (pc' := 208) rfl ?_
                refine s_icmpN S541 (hb hby at_208) (by decide) (pc' := 211) rfl ?_
                refine s_iconst S541 (hb hby at_211) (v := (1 : Int32)) rfl (pc' := 212) rfl ?_
                refine s_goto S541 (hb hby at_212) (by decide) (pcT := 216) (by decide) ?_
                exact g_iretN S541 (hb hby at_216) hret (by simp) ⟨rfl, trivial⟩
          · skip
            show Go p e below _ (T528.setTop (mkF m 139 #[.val (.int p0), .val (.int q0), .val (.int p1), .val (.int q1), .val (.int qx), .val (.int k_), .val (.int (1 : Int32)), .val (.int (1 : Int32)), .val (.ref b520), .val (.ref b525), .val (.int qp530), .val (.int qq532), .unset] []))
            refine s_iconst S528 (hb hby at_139) (v := (0 : Int32)) rfl (pc' := 140) rfl ?_
            refine s_istore S528 (hb hby at_140) (L' := #[.val (.int p0), .val (.int q0), .val (.int p1), .val (.int q1), .val (.int qx), .val (.int k_), .val (.int (1 : Int32)), .val (.int (1 : Int32)), .val (.ref b520), .val (.ref b525), .val (.int qp530), .val (.int qq532), .val (.int (0 : Int32))]) rfl (pc' := 142) rfl ?_
            refine s_iload S528 (hb hby at_142) rfl (pc' := 144) rfl ?_
            refine s_ifY S528 (hb hby at_144) (by decide) (by decide) (pcT := 168) (by decide) ?_
            refine s_iload S528 (hb hby at_168) rfl (pc' := 170) rfl ?_
            refine s_iconst S528 (hb hby at_170) (v := (1 : Int32)) rfl (pc' := 171) rfl ?_
            refine s_icmpN S528 (hb hby at_171) (by decide) (pc' := 174) rfl ?_
            refine s_iload S528 (hb hby at_174) rfl (pc' := 176) rfl ?_
            refine s_iconst S528 (hb hby at_176) (v := (2 : Int32)) rfl (pc' := 177) rfl ?_
            refine s_icmpY S528 (hb hby at_177) (by decide) (by decide) (pcT := 195) (by decide) ?_
            refine s_aload S528 (hb hby at_195) rfl rfl (pc' := 197) rfl ?_
            refine s_iload S528 (hb hby at_197) rfl (pc' := 199) rfl ?_
            refine s_iload S528 (hb hby at_199) rfl (pc' := 201) rfl ?_
            refine s_iload S528 (hb hby at_201) rfl (pc' := 203) rfl ?_
            show Go p e below _ (T528.setTop (mkF m 203 #[.val (.int p0), .val (.int q0), .val (.int p1), .val (.int q1), .val (.int qx), .val (.int k_), .val (.int (1 : Int32)), .val (.int (1 : Int32)), .val (.ref b520), .val (.ref b525), .val (.int qp530), .val (.int qq532), .val (.int (0 : Int32))] [(.int qq532), (.int qp530), (.int (1 : Int32)), (.ref b520)]))
            refine g_virtual S528 (rmIA110 X S528.old E9 Fb9 Fn9 V9) (fun _ q => nomatch q) (w35 hw) (w36 hw) (w38 hw) (w37 hw) (w2 hw) (w39 hw) (by decide) (fun _ h => notFace_of_selects h) (hb hby at_203) (by rw [hml]; rfl) b520 E9 [(.int (1 : Int32)), (.int qp530), (.int qq532)] (lenOf pd18 rfl) rfl rfl (Nat.le_of_ble_eq_true rfl) (Nat.le_of_ble_eq_true rfl) (Nat.le_of_ble_eq_true rfl) (Nat.le_of_ble_eq_true rfl) ?_
            intro v542 T542 V542 h542 S542 C542 q542
            obtain ⟨rfl, rfl⟩ := q542
            show Go p e below _ (T542.setTop (mkF m 206 #[.val (.int p0), .val (.int q0), .val (.int p1), .val (.int q1), .val (.int qx), .val (.int k_), .val (.int (1 : Int32)), .val (.int (1 : Int32)), .val (.ref b520), .val (.ref b525), .val (.int qp530), .val (.int qq532), .val (.int (0 : Int32))] [(.int (0 : Int32))]))
            refine s_iload S542 (hb hby at_206) rfl (pc' := 208) rfl ?_
            refine s_icmpN S542 (hb hby at_208) (by decide) (pc' := 211) rfl ?_
            refine s_iconst S542 (hb hby at_211) (v := (1 : Int32)) rfl (pc' := 212) rfl ?_
            refine s_goto S542 (hb hby at_212) (by decide) (pcT := 216) (by decide) ?_
            exact g_iretN S542 (hb hby at_216) hret (by simp) ⟨rfl, trivial⟩
          · skip
            show Go p e below _ (T528.setTop (mkF m 139 #[.val (.int p0), .val (.int q0), .val (.int p1), .val (.int q1), .val (.int qx), .val (.int k_), .val (.int (1 : Int32)), .val (.int (2 : Int32)), .val (.ref b520), .val (.ref b525), .val (.int qp530), .val (.int qq532), .unset] []))
            refine s_iconst S528 (hb hby at_139) (v := (0 : Int32)) rfl (pc' := 140) rfl ?_
            refine s_istore S528 (hb hby at_140) (L' := #[.val (.int p0), .val (.int q0), .val (.int p1), .val (.int q1), .val (.int qx), .val (.int k_), .val (.int (1 : Int32)), .val (.int (2 : Int32)), .val (.ref b520), .val (.ref b525), .val (.int qp530), .val (.int qq532), .val (.int (0 : Int32))]) rfl (pc' := 142) rfl ?_
            refine s_iload S528 (hb hby at_142) rfl (pc' := 144) rfl ?_
            refine s_ifY S528 (hb hby at_144) (by decide) (by decide) (pcT := 168) (by decide) ?_
            refine s_iload S528 (hb hby at_168) rfl (pc' := 170) rfl ?_
            refine s_iconst S528 (hb hby at_170) (v := (1 : Int32)) rfl (pc' := 171) rfl ?_
            refine s_icmpY S528 (hb hby at_171) (by decide) (by decide) (pcT := 195) (by decide) ?_
            refine s_aload S528 (hb hby at_195) rfl rfl (pc' := 197) rfl ?_
            refine s_iload S528 (hb hby at_197) rfl (pc' := 199) rfl ?_
            refine s_iload S528 (hb hby at_199) rfl (pc' := 201) rfl ?_
            refine s_iload S528 (hb hby at_201) rfl (pc' := 203) rfl ?_
            show Go p e below _ (T528.setTop (mkF m 203 #[.val (.int p0), .val (.int q0), .val (.int p1), .val (.int q1), .val (.int qx), .val (.int k_), .val (.int (1 : Int32)), .val (.int (2 : Int32)), .val (.ref b520), .val (.ref b525), .val (.int qp530), .val (.int qq532), .val (.int (0 : Int32))] [(.int qq532), (.int qp530), (.int (2 : Int32)), (.ref b520)]))
            refine g_virtual S528 (rmIA120 X S528.old E9 Fb9 Fn9 V9) (fun _ q => nomatch q) (w35 hw) (w36 hw) (w38 hw) (w37 hw) (w2 hw) (w39 hw) (by decide) (fun _ h => notFace_of_selects h) (hb hby at_203) (by rw [hml]; rfl) b520 E9 [(.int (2 : Int32)), (.int qp530), (.int qq532)] (lenOf pd18 rfl) rfl rfl (Nat.le_of_ble_eq_true rfl) (Nat.le_of_ble_eq_true rfl) (Nat.le_of_ble_eq_true rfl) (Nat.le_of_ble_eq_true rfl) ?_
            intro v543 T543 V543 h543 S543 C543 q543
            obtain ⟨rfl, rfl⟩ := q543
            show Go p e below _ (T543.setTop (mkF m 206 #[.val (.int p0), .val (.int q0), .val (.int p1), .val (.int q1), .val (.int qx), .val (.int k_), .val (.int (1 : Int32)), .val (.int (2 : Int32)), .val (.ref b520), .val (.ref b525), .val (.int qp530), .val (.int qq532), .val (.int (0 : Int32))] [(.int (0 : Int32))]))
            refine s_iload S543 (hb hby at_206) rfl (pc' := 208) rfl ?_
            refine s_icmpN S543 (hb hby at_208) (by decide) (pc' := 211) rfl ?_
            refine s_iconst S543 (hb hby at_211) (v := (1 : Int32)) rfl (pc' := 212) rfl ?_
            refine s_goto S543 (hb hby at_212) (by decide) (pcT := 216) (by decide) ?_
            exact g_iretN S543 (hb hby at_216) hret (by simp) ⟨rfl, trivial⟩
          · skip
            show Go p e below _ (T528.setTop (mkF m 139 #[.val (.int p0), .val (.int q0), .val (.int p1), .val (.int q1), .val (.int qx), .val (.int k_), .val (.int (1 : Int32)), .val (.int (3 : Int32)), .val (.ref b520), .val (.ref b525), .val (.int qp530), .val (.int qq532), .unset] []))
            refine s_iconst S528 (hb hby at_139) (v := (0 : Int32)) rfl (pc' := 140) rfl ?_
            refine s_istore S528 (hb hby at_140) (L' := #[.val (.int p0), .val (.int q0), .val (.int p1), .val (.int q1), .val (.int qx), .val (.int k_), .val (.int (1 : Int32)), .val (.int (3 : Int32)), .val (.ref b520), .val (.ref b525), .val (.int qp530), .val (.int qq532), .val (.int (0 : Int32))]) rfl (pc' := 142) rfl ?_
            refine s_iload S528 (hb hby at_142) rfl (pc' := 144) rfl ?_
            refine s_ifY S528 (hb hby at_144) (by decide) (by decide) (pcT := 168) (by decide) ?_
            refine s_iload S528 (hb hby at_168) rfl (pc' := 170) rfl ?_
            refine s_iconst S528 (hb hby at_170) (v := (1 : Int32)) rfl (pc' := 171) rfl ?_
            refine s_icmpY S528 (hb hby at_171) (by decide) (by decide) (pcT := 195) (by decide) ?_
            refine s_aload S528 (hb hby at_195) rfl rfl (pc' := 197) rfl ?_
            refine s_iload S528 (hb hby at_197) rfl (pc' := 199) rfl ?_
            refine s_iload S528 (hb hby at_199) rfl (pc' := 201) rfl ?_
            refine s_iload S528 (hb hby at_201) rfl (pc' := 203) rfl ?_
            show Go p e below _ (T528.setTop (mkF m 203 #[.val (.int p0), .val (.int q0), .val (.int p1), .val (.int q1), .val (.int qx), .val (.int k_), .val (.int (1 : Int32)), .val (.int (3 : Int32)), .val (.ref b520), .val (.ref b525), .val (.int qp530), .val (.int qq532), .val (.int (0 : Int32))] [(.int qq532), (.int qp530), (.int (3 : Int32)), (.ref b520)]))
            refine g_virtual S528 (rmIA130 X S528.old E9 Fb9 Fn9 V9) (fun _ q => nomatch q) (w35 hw) (w36 hw) (w38 hw) (w37 hw) (w2 hw) (w39 hw) (by decide) (fun _ h => notFace_of_selects h) (hb hby at_203) (by rw [hml]; rfl) b520 E9 [(.int (3 : Int32)), (.int qp530), (.int qq532)] (lenOf pd18 rfl) rfl rfl (Nat.le_of_ble_eq_true rfl) (Nat.le_of_ble_eq_true rfl) (Nat.le_of_ble_eq_true rfl) (Nat.le_of_ble_eq_true rfl) ?_
            intro v544 T544 V544 h544 S544 C544 q544
            obtain ⟨rfl, rfl⟩ := q544
            show Go p e below _ (T544.setTop (mkF m 206 #[.val (.int p0), .val (.int q0), .val (.int p1), .val (.int q1), .val (.int qx), .val (.int k_), .val (.int (1 : Int32)), .val (.int (3 : Int32)), .val (.ref b520), .val (.ref b525), .val (.int qp530), .val (.int qq532), .val (.int (0 : Int32))] [(.int (0 : Int32))]))
            refine s_iload S544 (hb hby at_206) rfl (pc' := 208) rfl ?_
            refine s_icmpN S544 (hb hby at_208) (by decide) (pc' := 211) rfl ?_
            refine s_iconst S544 (hb hby at_211) (v := (1 : Int32)) rfl (pc' := 212) rfl ?_
            refine s_goto S544 (hb hby at_212) (by decide) (pcT := 216) (by decide) ?_
            exact g_iretN S544 (hb hby at_216) hret (by simp) ⟨rfl, trivial⟩
        refine s_iload S528 (hb hby at_110) rfl (pc' := 112) rfl ?_
        refine s_bipush S528 (hb hby at_112) (v := (64 : Int32)) rfl (pc' := 114) rfl ?_
        refine s_iand S528 (hb hby at_114) (z := (k_ &&& (64 : Int32))) rfl (pc' := 115) rfl ?_
        refine g_if S528 (hb hby at_115) (by decide) (pcT := 123) (by decide) (fun q => ?_) (fun q => ?_)
        · have hc115_545 : (k_ &&& (64 : Int32)) = (0 : Int32) := icT_eq q
          show Go p e below _ (T528.setTop (mkF m 123 #[.val (.int p0), .val (.int q0), .val (.int p1), .val (.int q1), .val (.int qx), .val (.int k_), .val (.int (1 : Int32)), .val (.int aa519), .val (.ref b520), .val (.ref b525), .val (.int qp530), .unset, .unset] []))
          refine s_iload S528 (hb hby at_123) rfl (pc' := 125) rfl ?_
          refine s_sipush S528 (hb hby at_125) (v := (128 : Int32)) rfl (pc' := 128) rfl ?_
          refine s_iand S528 (hb hby at_128) (z := (k_ &&& (128 : Int32))) rfl (pc' := 129) rfl ?_
          refine g_if S528 (hb hby at_129) (by decide) (pcT := 136) (by decide) (fun q => ?_) (fun q => ?_)
          · have hc129_546 : (k_ &&& (128 : Int32)) = (0 : Int32) := icT_eq q
            show Go p e below _ (T528.setTop (mkF m 136 #[.val (.int p0), .val (.int q0), .val (.int p1), .val (.int q1), .val (.int qx), .val (.int k_), .val (.int (1 : Int32)), .val (.int aa519), .val (.ref b520), .val (.ref b525), .val (.int qp530), .unset, .unset] []))
            refine s_iloadN S528 (hb hby at_136) rfl (pc' := 137) rfl ?_
            exact K533 _
          · have hc129_546 : ¬ (k_ &&& (128 : Int32)) = (0 : Int32) := icF_eq q
            show Go p e below _ (T528.setTop (mkF m 132 #[.val (.int p0), .val (.int q0), .val (.int p1), .val (.int q1), .val (.int qx), .val (.int k_), .val (.int (1 : Int32)), .val (.int aa519), .val (.ref b520), .val (.ref b525), .val (.int qp530), .unset, .unset] []))
            refine s_iloadN S528 (hb hby at_132) rfl (pc' := 133) rfl ?_
            refine s_goto S528 (hb hby at_133) (by decide) (pcT := 137) (by decide) ?_
            exact K533 _
        · have hc115_545 : ¬ (k_ &&& (64 : Int32)) = (0 : Int32) := icF_eq q
          show Go p e below _ (T528.setTop (mkF m 118 #[.val (.int p0), .val (.int q0), .val (.int p1), .val (.int q1), .val (.int qx), .val (.int k_), .val (.int (1 : Int32)), .val (.int aa519), .val (.ref b520), .val (.ref b525), .val (.int qp530), .unset, .unset] []))
          refine s_iload S528 (hb hby at_118) rfl (pc' := 120) rfl ?_
          refine s_goto S528 (hb hby at_120) (by decide) (pcT := 137) (by decide) ?_
          exact K533 _
      refine s_iload S528 (hb hby at_82) rfl (pc' := 84) rfl ?_
      refine s_bipush S528 (hb hby at_84) (v := (16 : Int32)) rfl (pc' := 86) rfl ?_
      refine s_iand S528 (hb hby at_86) (z := (k_ &&& (16 : Int32))) rfl (pc' := 87) rfl ?_
      refine g_if S528 (hb hby at_87) (by decide) (pcT := 95) (by decide) (fun q => ?_) (fun q => ?_)
      · have hc87_547 : (k_ &&& (16 : Int32)) = (0 : Int32) := icT_eq q
        show Go p e below _ (T528.setTop (mkF m 95 #[.val (.int p0), .val (.int q0), .val (.int p1), .val (.int q1), .val (.int qx), .val (.int k_), .val (.int (1 : Int32)), .val (.int aa519), .val (.ref b520), .val (.ref b525), .unset, .unset, .unset] []))
        refine s_iload S528 (hb hby at_95) rfl (pc' := 97) rfl ?_
        refine s_bipush S528 (hb hby at_97) (v := (32 : Int32)) rfl (pc' := 99) rfl ?_
        refine s_iand S528 (hb hby at_99) (z := (k_ &&& (32 : Int32))) rfl (pc' := 100) rfl ?_
        refine g_if S528 (hb hby at_100) (by decide) (pcT := 107) (by decide) (fun q => ?_) (fun q => ?_)
        · have hc100_548 : (k_ &&& (32 : Int32)) = (0 : Int32) := icT_eq q
          show Go p e below _ (T528.setTop (mkF m 107 #[.val (.int p0), .val (.int q0), .val (.int p1), .val (.int q1), .val (.int qx), .val (.int k_), .val (.int (1 : Int32)), .val (.int aa519), .val (.ref b520), .val (.ref b525), .unset, .unset, .unset] []))
          refine s_iloadN S528 (hb hby at_107) rfl (pc' := 108) rfl ?_
          exact K531 _
        · have hc100_548 : ¬ (k_ &&& (32 : Int32)) = (0 : Int32) := icF_eq q
          show Go p e below _ (T528.setTop (mkF m 103 #[.val (.int p0), .val (.int q0), .val (.int p1), .val (.int q1), .val (.int qx), .val (.int k_), .val (.int (1 : Int32)), .val (.int aa519), .val (.ref b520), .val (.ref b525), .unset, .unset, .unset] []))
          refine s_iloadN S528 (hb hby at_103) rfl (pc' := 104) rfl ?_
          refine s_goto S528 (hb hby at_104) (by decide) (pcT := 108) (by decide) ?_
          exact K531 _
      · have hc87_547 : ¬ (k_ &&& (16 : Int32)) = (0 : Int32) := icF_eq q
        show Go p e below _ (T528.setTop (mkF m 90 #[.val (.int p0), .val (.int q0), .val (.int p1), .val (.int q1), .val (.int qx), .val (.int k_), .val (.int (1 : Int32)), .val (.int aa519), .val (.ref b520), .val (.ref b525), .unset, .unset, .unset] []))
        refine s_iload S528 (hb hby at_90) rfl (pc' := 92) rfl ?_
        refine s_goto S528 (hb hby at_92) (by decide) (pcT := 108) (by decide) ?_
        exact K531 _
    · have hc74_529 : ¬ (k_ &&& (256 : Int32)) = (0 : Int32) := icF_eq q
      show Go p e below _ (T528.setTop (mkF m 77 #[.val (.int p0), .val (.int q0), .val (.int p1), .val (.int q1), .val (.int qx), .val (.int k_), .val (.int (1 : Int32)), .val (.int aa519), .val (.ref b520), .val (.ref b525), .unset, .unset, .unset] []))
      refine s_aload S528 (hb hby at_77) rfl rfl (pc' := 79) rfl ?_
      show Go p e below _ (T528.setTop (mkF m 79 #[.val (.int p0), .val (.int q0), .val (.int p1), .val (.int q1), .val (.int qx), .val (.int k_), .val (.int (1 : Int32)), .val (.int aa519), .val (.ref b520), .val (.ref b525), .unset, .unset, .unset] [(.ref b520)]))
      refine g_virtual S528 (rmCL1 X S528.old A1 (by decide) (by decide)) (fun _ q => nomatch q) (w158 hw) (w159 hw) (w161 hw) (w160 hw) (w2 hw) (w162 hw) (by decide) (fun _ h => notFace_of_selects h) (hb hby at_79) (by rw [hml]; rfl) b520 A1.1 [] (lenOf pd6 rfl) rfl rfl (Nat.le_of_ble_eq_true rfl) (Nat.le_of_ble_eq_true rfl) (Nat.le_of_ble_eq_true rfl) (Nat.le_of_ble_eq_true rfl) ?_
      intro v549 T549 V549 h549 S549 C549 q549
      obtain ⟨rfl, u9, ku9, E9, Fb9, Fn9, V9⟩ := q549
      have sf550 := C549.safe A1.2.2.2.2.2.1.2.2.2.2.lt sfA
      show Go p e below _ (T549.setTop (mkF m 82 #[.val (.int p0), .val (.int q0), .val (.int p1), .val (.int q1), .val (.int qx), .val (.int k_), .val (.int (1 : Int32)), .val (.int aa519), .val (.ref b520), .val (.ref b525), .unset, .unset, .unset] []))
      have K552 : ∀ qp551 : Int32, Go p e below (Fini Z EL1 n0 s room_1 (fun v h' => v = some (.int 1) ∧ True)) (T549.setTop (mkF m 108 #[.val (.int p0), .val (.int q0), .val (.int p1), .val (.int q1), .val (.int qx), .val (.int k_), .val (.int (1 : Int32)), .val (.int aa519), .val (.ref b520), .val (.ref b525), .unset, .unset, .unset] [(.int qp551)])) := by
        intro qp551
        show Go p e below _ (T549.setTop (mkF m 108 #[.val (.int p0), .val (.int q0), .val (.int p1), .val (.int q1), .val (.int qx), .val (.int k_), .val (.int (1 : Int32)), .val (.int aa519), .val (.ref b520), .val (.ref b525), .unset, .unset, .unset] [(.int qp551)]))
        refine s_istore S549 (hb hby at_108) (L' := #[.val (.int p0), .val (.int q0), .val (.int p1), .val (.int q1), .val (.int qx), .val (.int k_), .val (.int (1 : Int32)), .val (.int aa519), .val (.ref b520), .val (.ref b525), .val (.int qp551), .unset, .unset]) rfl (pc' := 110) rfl ?_
        have K554 : ∀ qq553 : Int32, Go p e below (Fini Z EL1 n0 s room_1 (fun v h' => v = some (.int 1) ∧ True)) (T549.setTop (mkF m 137 #[.val (.int p0), .val (.int q0), .val (.int p1), .val (.int q1), .val (.int qx), .val (.int k_), .val (.int (1 : Int32)), .val (.int aa519), .val (.ref b520), .val (.ref b525), .val (.int qp551), .unset, .unset] [(.int qq553)])) := by
          intro qq553
          show Go p e below _ (T549.setTop (mkF m 137 #[.val (.int p0), .val (.int q0), .val (.int p1), .val (.int q1), .val (.int qx), .val (.int k_), .val (.int (1 : Int32)), .val (.int aa519), .val (.ref b520), .val (.ref b525), .val (.int qp551), .unset, .unset] [(.int qq553)]))
          refine s_istore S549 (hb hby at_137) (L' := #[.val (.int p0), .val (.int q0), .val (.int p1), .val (.int q1), .val (.int qx), .val (.int k_), .val (.int (1 : Int32)), .val (.int aa519), .val (.ref b520), .val (.ref b525), .val (.int qp551), .val (.int qq553), .unset]) rfl (pc' := 139) rfl ?_
          rcases own_and3s k_ aa519 eaa519 with rfl | rfl | rfl | rfl
          · skip
            show Go p e below _ (T549.setTop (mkF m 139 #[.val (.int p0), .val (.int q0), .val (.int p1), .val (.int q1), .val (.int qx), .val (.int k_), .val (.int (1 : Int32)), .val (.int (0 : Int32)), .val (.ref b520), .val (.ref b525), .val (.int qp551), .val (.int qq553), .unset] []))
            refine s_iconst S549 (hb hby at_139) (v := (0 : Int32)) rfl (pc' := 140) rfl ?_
            refine s_istore S549 (hb hby at_140) (L' := #[.val (.int p0), .val (.int q0), .val (.int p1), .val (.int q1), .val (.int qx), .val (.int k_), .val (.int (1 : Int32)), .val (.int (0 : Int32)), .val (.ref b520), .val (.ref b525), .val (.int qp551), .val (.int qq553), .val (.int (0 : Int32))]) rfl (pc' := 142) rfl ?_
            refine s_iload S549 (hb hby at_142) rfl (pc' := 144) rfl ?_
            refine s_ifN S549 (hb hby at_144) (by decide) (pc' := 147) rfl ?_
            refine s_iload S549 (hb hby at_147) rfl (pc' := 149) rfl ?_
            refine s_iconst S549 (hb hby at_149) (v := (1 : Int32)) rfl (pc' := 150) rfl ?_
            refine s_icmpN S549 (hb hby at_150) (by decide) (pc' := 153) rfl ?_
            refine s_iload S549 (hb hby at_153) rfl (pc' := 155) rfl ?_
            refine s_iloadN S549 (hb hby at_155) rfl (pc' := 156) rfl ?_
            refine g_icmp S549 (hb hby at_156) (by decide) (pcT := 168) (by decide) (fun q => ?_) (fun q => ?_)
            · have hc156_555 : ¬ qp551 = p0 := icT_ne q
              show Go p e below _ (T549.setTop (mkF m 168 #[.val (.int p0), .val (.int q0), .val (.int p1), .val (.int q1), .val (.int qx), .val (.int k_), .val (.int (1 : Int32)), .val (.int (0 : Int32)), .val (.ref b520), .val (.ref b525), .val (.int qp551), .val (.int qq553), .val (.int (0 : Int32))] []))
              refine s_iload S549 (hb hby at_168) rfl (pc' := 170) rfl ?_
              refine s_iconst S549 (hb hby at_170) (v := (1 : Int32)) rfl (pc' := 171) rfl ?_
              refine s_icmpY S549 (hb hby at_171) (by decide) (by decide) (pcT := 195) (by decide) ?_
              refine s_aload S549 (hb hby at_195) rfl rfl (pc' := 197) rfl ?_
              refine s_iload S549 (hb hby at_197) rfl (pc' := 199) rfl ?_
              refine s_iload S549 (hb hby at_199) rfl (pc' := 201) rfl ?_
              refine s_iload S549 (hb hby at_201) rfl (pc' := 203) rfl ?_
              show Go p e below _ (T549.setTop (mkF m 203 #[.val (.int p0), .val (.int q0), .val (.int p1), .val (.int q1), .val (.int qx), .val (.int k_), .val (.int (1 : Int32)), .val (.int (0 : Int32)), .val (.ref b520), .val (.ref b525), .val (.int qp551), .val (.int qq553), .val (.int (0 : Int32))] [(.int qq553), (.int qp551), (.int (0 : Int32)), (.ref b520)]))
              refine g_virtual S549 (rmIA101 X S549.old E9 Fb9 Fn9 V9) (fun _ q => nomatch q) (w35 hw) (w36 hw) (w38 hw) (w37 hw) (w2 hw) (w39 hw) (by decide) (fun _ h => notFace_of_selects h) (hb hby at_203) (by rw [hml]; rfl) b520 E9 [(.int (0 : Int32)), (.int qp551), (.int qq553)] (lenOf pd18 rfl) rfl rfl (Nat.le_of_ble_eq_true rfl) (Nat.le_of_ble_eq_true rfl) (Nat.le_of_ble_eq_true rfl) (Nat.le_of_ble_eq_true rfl) ?_
              intro v557 T557 V557 h557 S557 C557 q557
              obtain ⟨g556, rfl, hg556, rfl⟩ := q557
              obtain rfl : g556 = 0 := hg556.elim (fun q => absurd q.2.1.symm hc156_555) (fun q => q.1)
              show Go p e below _ (T557.setTop (mkF m 206 #[.val (.int p0), .val (.int q0), .val (.int p1), .val (.int q1), .val (.int qx), .val (.int k_), .val (.int (1 : Int32)), .val (.int (0 : Int32)), .val (.ref b520), .val (.ref b525), .val (.int qp551), .val (.int qq553), .val (.int (0 : Int32))] [(.int (0 : Int32))]))
              refine s_iload S557 (hb hby at_206) rfl (pc' := 208) rfl ?_
              refine s_icmpN S557 (hb hby at_208) (by decide) (pc' := 211) rfl ?_
              refine s_iconst S557 (hb hby at_211) (v := (1 : Int32)) rfl (pc' := 212) rfl ?_
              refine s_goto S557 (hb hby at_212) (by decide) (pcT := 216) (by decide) ?_
              exact g_iretN S557 (hb hby at_216) hret (by simp) ⟨rfl, trivial⟩
            · have hc156_555 : qp551 = p0 := icF_ne q
              show Go p e below _ (T549.setTop (mkF m 159 #[.val (.int p0), .val (.int q0), .val (.int p1), .val (.int q1), .val (.int qx), .val (.int k_), .val (.int (1 : Int32)), .val (.int (0 : Int32)), .val (.ref b520), .val (.ref b525), .val (.int qp551), .val (.int qq553), .val (.int (0 : Int32))] []))
              refine s_iload S549 (hb hby at_159) rfl (pc' := 161) rfl ?_
              refine s_iloadN S549 (hb hby at_161) rfl (pc' := 162) rfl ?_
              refine g_icmp S549 (hb hby at_162) (by decide) (pcT := 168) (by decide) (fun q => ?_) (fun q => ?_)
              · have hc162_558 : ¬ qq553 = q0 := icT_ne q
                show Go p e below _ (T549.setTop (mkF m 168 #[.val (.int p0), .val (.int q0), .val (.int p1), .val (.int q1), .val (.int qx), .val (.int k_), .val (.int (1 : Int32)), .val (.int (0 : Int32)), .val (.ref b520), .val (.ref b525), .val (.int qp551), .val (.int qq553), .val (.int (0 : Int32))] []))
                refine s_iload S549 (hb hby at_168) rfl (pc' := 170) rfl ?_
                refine s_iconst S549 (hb hby at_170) (v := (1 : Int32)) rfl (pc' := 171) rfl ?_
                refine s_icmpY S549 (hb hby at_171) (by decide) (by decide) (pcT := 195) (by decide) ?_
                refine s_aload S549 (hb hby at_195) rfl rfl (pc' := 197) rfl ?_
                refine s_iload S549 (hb hby at_197) rfl (pc' := 199) rfl ?_
                refine s_iload S549 (hb hby at_199) rfl (pc' := 201) rfl ?_
                refine s_iload S549 (hb hby at_201) rfl (pc' := 203) rfl ?_
                show Go p e below _ (T549.setTop (mkF m 203 #[.val (.int p0), .val (.int q0), .val (.int p1), .val (.int q1), .val (.int qx), .val (.int k_), .val (.int (1 : Int32)), .val (.int (0 : Int32)), .val (.ref b520), .val (.ref b525), .val (.int qp551), .val (.int qq553), .val (.int (0 : Int32))] [(.int qq553), (.int qp551), (.int (0 : Int32)), (.ref b520)]))
                refine g_virtual S549 (rmIA101 X S549.old E9 Fb9 Fn9 V9) (fun _ q => nomatch q) (w35 hw) (w36 hw) (w38 hw) (w37 hw) (w2 hw) (w39 hw) (by decide) (fun _ h => notFace_of_selects h) (hb hby at_203) (by rw [hml]; rfl) b520 E9 [(.int (0 : Int32)), (.int qp551), (.int qq553)] (lenOf pd18 rfl) rfl rfl (Nat.le_of_ble_eq_true rfl) (Nat.le_of_ble_eq_true rfl) (Nat.le_of_ble_eq_true rfl) (Nat.le_of_ble_eq_true rfl) ?_
                intro v560 T560 V560 h560 S560 C560 q560
                obtain ⟨g559, rfl, hg559, rfl⟩ := q560
                obtain rfl : g559 = 0 := hg559.elim (fun q => absurd q.2.2.symm hc162_558) (fun q => q.1)
                show Go p e below _ (T560.setTop (mkF m 206 #[.val (.int p0), .val (.int q0), .val (.int p1), .val (.int q1), .val (.int qx), .val (.int k_), .val (.int (1 : Int32)), .val (.int (0 : Int32)), .val (.ref b520), .val (.ref b525), .val (.int qp551), .val (.int qq553), .val (.int (0 : Int32))] [(.int (0 : Int32))]))
                refine s_iload S560 (hb hby at_206) rfl (pc' := 208) rfl ?_
                refine s_icmpN S560 (hb hby at_208) (by decide) (pc' := 211) rfl ?_
                refine s_iconst S560 (hb hby at_211) (v := (1 : Int32)) rfl (pc' := 212) rfl ?_
                refine s_goto S560 (hb hby at_212) (by decide) (pcT := 216) (by decide) ?_
                exact g_iretN S560 (hb hby at_216) hret (by simp) ⟨rfl, trivial⟩
              · have hc162_558 : qq553 = q0 := icF_ne q
                show Go p e below _ (T549.setTop (mkF m 165 #[.val (.int p0), .val (.int q0), .val (.int p1), .val (.int q1), .val (.int qx), .val (.int k_), .val (.int (1 : Int32)), .val (.int (0 : Int32)), .val (.ref b520), .val (.ref b525), .val (.int qp551), .val (.int qq553), .val (.int (0 : Int32))] []))
                refine s_iconst S549 (hb hby at_165) (v := (1 : Int32)) rfl (pc' := 166) rfl ?_
                refine s_istore S549 (hb hby at_166) (L' := #[.val (.int p0), .val (.int q0), .val (.int p1), .val (.int q1), .val (.int qx), .val (.int k_), .val (.int (1 : Int32)), .val (.int (0 : Int32)), .val (.ref b520), .val (.ref b525), .val (.int qp551), .val (.int qq553), .val (.int (1 : Int32))]) rfl (pc' := 168) rfl ?_
                refine s_iload S549 (hb hby at_168) rfl (pc' := 170) rfl ?_
                refine s_iconst S549 (hb hby at_170) (v := (1 : Int32)) rfl (pc' := 171) rfl ?_
                refine s_icmpY S549 (hb hby at_171) (by decide) (by decide) (pcT := 195) (by decide) ?_
                refine s_aload S549 (hb hby at_195) rfl rfl (pc' := 197) rfl ?_
                refine s_iload S549 (hb hby at_197) rfl (pc' := 199) rfl ?_
                refine s_iload S549 (hb hby at_199) rfl (pc' := 201) rfl ?_
                refine s_iload S549 (hb hby at_201) rfl (pc' := 203) rfl ?_
                show Go p e below _ (T549.setTop (mkF m 203 #[.val (.int p0), .val (.int q0), .val (.int p1), .val (.int q1), .val (.int qx), .val (.int k_), .val (.int (1 : Int32)), .val (.int (0 : Int32)), .val (.ref b520), .val (.ref b525), .val (.int qp551), .val (.int qq553), .val (.int (1 : Int32))] [(.int qq553), (.int qp551), (.int (0 : Int32)), (.ref b520)]))
                refine g_virtual S549 (rmIA101 X S549.old E9 Fb9 Fn9 V9) (fun _ q => nomatch q) (w35 hw) (w36 hw) (w38 hw) (w37 hw) (w2 hw) (w39 hw) (by decide) (fun _ h => notFace_of_selects h) (hb hby at_203) (by rw [hml]; rfl) b520 E9 [(.int (0 : Int32)), (.int qp551), (.int qq553)] (lenOf pd18 rfl) rfl rfl (Nat.le_of_ble_eq_true rfl) (Nat.le_of_ble_eq_true rfl) (Nat.le_of_ble_eq_true rfl) (Nat.le_of_ble_eq_true rfl) ?_
                intro v562 T562 V562 h562 S562 C562 q562
                obtain ⟨g561, rfl, hg561, rfl⟩ := q562
                obtain rfl : g561 = 1 := hg561.elim (fun q => q.1) (fun q => absurd ⟨hc156_555.symm, hc162_558.symm⟩ q.2)
                show Go p e below _ (T562.setTop (mkF m 206 #[.val (.int p0), .val (.int q0), .val (.int p1), .val (.int q1), .val (.int qx), .val (.int k_), .val (.int (1 : Int32)), .val (.int (0 : Int32)), .val (.ref b520), .val (.ref b525), .val (.int qp551), .val (.int qq553), .val (.int (1 : Int32))] [(.int (1 : Int32))]))
                refine s_iload S562 (hb hby at_206) rfl (pc' := 208) rfl ?_
                refine s_icmpN S562 (hb hby at_208) (by decide) (pc' := 211) rfl ?_
                refine s_iconst S562 (hb hby at_211) (v := (1 : Int32)) rfl (pc' := 212) rfl ?_
                refine s_goto S562 (hb hby at_212) (by decide) (pcT := 216) (by decide) ?_
                exact g_iretN S562 (hb hby at_216) hret (by simp) ⟨rfl, trivial⟩
          · skip
            show Go p e below _ (T549.setTop (mkF m 139 #[.val (.int p0), .val (.int q0), .val (.int p1), .val (.int q1), .val (.int qx), .val (.int k_), .val (.int (1 : Int32)), .val (.int (1 : Int32)), .val (.ref b520), .val (.ref b525), .val (.int qp551), .val (.int qq553), .unset] []))
            refine s_iconst S549 (hb hby at_139) (v := (0 : Int32)) rfl (pc' := 140) rfl ?_
            refine s_istore S549 (hb hby at_140) (L' := #[.val (.int p0), .val (.int q0), .val (.int p1), .val (.int q1), .val (.int qx), .val (.int k_), .val (.int (1 : Int32)), .val (.int (1 : Int32)), .val (.ref b520), .val (.ref b525), .val (.int qp551), .val (.int qq553), .val (.int (0 : Int32))]) rfl (pc' := 142) rfl ?_
            refine s_iload S549 (hb hby at_142) rfl (pc' := 144) rfl ?_
            refine s_ifY S549 (hb hby at_144) (by decide) (by decide) (pcT := 168) (by decide) ?_
            refine s_iload S549 (hb hby at_168) rfl (pc' := 170) rfl ?_
            refine s_iconst S549 (hb hby at_170) (v := (1 : Int32)) rfl (pc' := 171) rfl ?_
            refine s_icmpN S549 (hb hby at_171) (by decide) (pc' := 174) rfl ?_
            refine s_iload S549 (hb hby at_174) rfl (pc' := 176) rfl ?_
            refine s_iconst S549 (hb hby at_176) (v := (2 : Int32)) rfl (pc' := 177) rfl ?_
            refine s_icmpY S549 (hb hby at_177) (by decide) (by decide) (pcT := 195) (by decide) ?_
            refine s_aload S549 (hb hby at_195) rfl rfl (pc' := 197) rfl ?_
            refine s_iload S549 (hb hby at_197) rfl (pc' := 199) rfl ?_
            refine s_iload S549 (hb hby at_199) rfl (pc' := 201) rfl ?_
            refine s_iload S549 (hb hby at_201) rfl (pc' := 203) rfl ?_
            show Go p e below _ (T549.setTop (mkF m 203 #[.val (.int p0), .val (.int q0), .val (.int p1), .val (.int q1), .val (.int qx), .val (.int k_), .val (.int (1 : Int32)), .val (.int (1 : Int32)), .val (.ref b520), .val (.ref b525), .val (.int qp551), .val (.int qq553), .val (.int (0 : Int32))] [(.int qq553), (.int qp551), (.int (1 : Int32)), (.ref b520)]))
            refine g_virtual S549 (rmIA111 X S549.old E9 Fb9 Fn9 V9) (fun _ q => nomatch q) (w35 hw) (w36 hw) (w38 hw) (w37 hw) (w2 hw) (w39 hw) (by decide) (fun _ h => notFace_of_selects h) (hb hby at_203) (by rw [hml]; rfl) b520 E9 [(.int (1 : Int32)), (.int qp551), (.int qq553)] (lenOf pd18 rfl) rfl rfl (Nat.le_of_ble_eq_true rfl) (Nat.le_of_ble_eq_true rfl) (Nat.le_of_ble_eq_true rfl) (Nat.le_of_ble_eq_true rfl) ?_
            intro v563 T563 V563 h563 S563 C563 q563
            obtain ⟨rfl, rfl⟩ := q563
            show Go p e below _ (T563.setTop (mkF m 206 #[.val (.int p0), .val (.int q0), .val (.int p1), .val (.int q1), .val (.int qx), .val (.int k_), .val (.int (1 : Int32)), .val (.int (1 : Int32)), .val (.ref b520), .val (.ref b525), .val (.int qp551), .val (.int qq553), .val (.int (0 : Int32))] [(.int (0 : Int32))]))
            refine s_iload S563 (hb hby at_206) rfl (pc' := 208) rfl ?_
            refine s_icmpN S563 (hb hby at_208) (by decide) (pc' := 211) rfl ?_
            refine s_iconst S563 (hb hby at_211) (v := (1 : Int32)) rfl (pc' := 212) rfl ?_
            refine s_goto S563 (hb hby at_212) (by decide) (pcT := 216) (by decide) ?_
            exact g_iretN S563 (hb hby at_216) hret (by simp) ⟨rfl, trivial⟩
          · skip
            show Go p e below _ (T549.setTop (mkF m 139 #[.val (.int p0), .val (.int q0), .val (.int p1), .val (.int q1), .val (.int qx), .val (.int k_), .val (.int (1 : Int32)), .val (.int (2 : Int32)), .val (.ref b520), .val (.ref b525), .val (.int qp551), .val (.int qq553), .unset] []))
            refine s_iconst S549 (hb hby at_139) (v := (0 : Int32)) rfl (pc' := 140) rfl ?_
            refine s_istore S549 (hb hby at_140) (L' := #[.val (.int p0), .val (.int q0), .val (.int p1), .val (.int q1), .val (.int qx), .val (.int k_), .val (.int (1 : Int32)), .val (.int (2 : Int32)), .val (.ref b520), .val (.ref b525), .val (.int qp551), .val (.int qq553), .val (.int (0 : Int32))]) rfl (pc' := 142) rfl ?_
            refine s_iload S549 (hb hby at_142) rfl (pc' := 144) rfl ?_
            refine s_ifY S549 (hb hby at_144) (by decide) (by decide) (pcT := 168) (by decide) ?_
            refine s_iload S549 (hb hby at_168) rfl (pc' := 170) rfl ?_
            refine s_iconst S549 (hb hby at_170) (v := (1 : Int32)) rfl (pc' := 171) rfl ?_
            refine s_icmpY S549 (hb hby at_171) (by decide) (by decide) (pcT := 195) (by decide) ?_
            refine s_aload S549 (hb hby at_195) rfl rfl (pc' := 197) rfl ?_
            refine s_iload S549 (hb hby at_197) rfl (pc' := 199) rfl ?_
            refine s_iload S549 (hb hby at_199) rfl (pc' := 201) rfl ?_
            refine s_iload S549 (hb hby at_201) rfl (pc' := 203) rfl ?_
            show Go p e below _ (T549.setTop (mkF m 203 #[.val (.int p0), .val (.int q0), .val (.int p1), .val (.int q1), .val (.int qx), .val (.int k_), .val (.int (1 : Int32)), .val (.int (2 : Int32)), .val (.ref b520), .val (.ref b525), .val (.int qp551), .val (.int qq553), .val (.int (0 : Int32))] [(.int qq553), (.int qp551), (.int (2 : Int32)), (.ref b520)]))
            refine g_virtual S549 (rmIA121 X S549.old E9 Fb9 Fn9 V9) (fun _ q => nomatch q) (w35 hw) (w36 hw) (w38 hw) (w37 hw) (w2 hw) (w39 hw) (by decide) (fun _ h => notFace_of_selects h) (hb hby at_203) (by rw [hml]; rfl) b520 E9 [(.int (2 : Int32)), (.int qp551), (.int qq553)] (lenOf pd18 rfl) rfl rfl (Nat.le_of_ble_eq_true rfl) (Nat.le_of_ble_eq_true rfl) (Nat.le_of_ble_eq_true rfl) (Nat.le_of_ble_eq_true rfl) ?_
            intro v564 T564 V564 h564 S564 C564 q564
            obtain ⟨rfl, rfl⟩ := q564
            show Go p e below _ (T564.setTop (mkF m 206 #[.val (.int p0), .val (.int q0), .val (.int p1), .val (.int q1), .val (.int qx), .val (.int k_), .val (.int (1 : Int32)), .val (.int (2 : Int32)), .val (.ref b520), .val (.ref b525), .val (.int qp551), .val (.int qq553), .val (.int (0 : Int32))] [(.int (0 : Int32))]))
            refine s_iload S564 (hb hby at_206) rfl (pc' := 208) rfl ?_
            refine s_icmpN S564 (hb hby at_208) (by decide) (pc' := 211) rfl ?_
            refine s_iconst S564 (hb hby at_211) (v := (1 : Int32)) rfl (pc' := 212) rfl ?_
            refine s_goto S564 (hb hby at_212) (by decide) (pcT := 216) (by decide) ?_
            exact g_iretN S564 (hb hby at_216) hret (by simp) ⟨rfl, trivial⟩
          · skip
            show Go p e below _ (T549.setTop (mkF m 139 #[.val (.int p0), .val (.int q0), .val (.int p1), .val (.int q1), .val (.int qx), .val (.int k_), .val (.int (1 : Int32)), .val (.int (3 : Int32)), .val (.ref b520), .val (.ref b525), .val (.int qp551), .val (.int qq553), .unset] []))
            refine s_iconst S549 (hb hby at_139) (v := (0 : Int32)) rfl (pc' := 140) rfl ?_
            refine s_istore S549 (hb hby at_140) (L' := #[.val (.int p0), .val (.int q0), .val (.int p1), .val (.int q1), .val (.int qx), .val (.int k_), .val (.int (1 : Int32)), .val (.int (3 : Int32)), .val (.ref b520), .val (.ref b525), .val (.int qp551), .val (.int qq553), .val (.int (0 : Int32))]) rfl (pc' := 142) rfl ?_
            refine s_iload S549 (hb hby at_142) rfl (pc' := 144) rfl ?_
            refine s_ifY S549 (hb hby at_144) (by decide) (by decide) (pcT := 168) (by decide) ?_
            refine s_iload S549 (hb hby at_168) rfl (pc' := 170) rfl ?_
            refine s_iconst S549 (hb hby at_170) (v := (1 : Int32)) rfl (pc' := 171) rfl ?_
            refine s_icmpY S549 (hb hby at_171) (by decide) (by decide) (pcT := 195) (by decide) ?_
            refine s_aload S549 (hb hby at_195) rfl rfl (pc' := 197) rfl ?_
            refine s_iload S549 (hb hby at_197) rfl (pc' := 199) rfl ?_
            refine s_iload S549 (hb hby at_199) rfl (pc' := 201) rfl ?_
            refine s_iload S549 (hb hby at_201) rfl (pc' := 203) rfl ?_
            show Go p e below _ (T549.setTop (mkF m 203 #[.val (.int p0), .val (.int q0), .val (.int p1), .val (.int q1), .val (.int qx), .val (.int k_), .val (.int (1 : Int32)), .val (.int (3 : Int32)), .val (.ref b520), .val (.ref b525), .val (.int qp551), .val (.int qq553), .val (.int (0 : Int32))] [(.int qq553), (.int qp551), (.int (3 : Int32)), (.ref b520)]))
            refine g_virtual S549 (rmIA131 X S549.old E9 Fb9 Fn9 V9) (fun _ q => nomatch q) (w35 hw) (w36 hw) (w38 hw) (w37 hw) (w2 hw) (w39 hw) (by decide) (fun _ h => notFace_of_selects h) (hb hby at_203) (by rw [hml]; rfl) b520 E9 [(.int (3 : Int32)), (.int qp551), (.int qq553)] (lenOf pd18 rfl) rfl rfl (Nat.le_of_ble_eq_true rfl) (Nat.le_of_ble_eq_true rfl) (Nat.le_of_ble_eq_true rfl) (Nat.le_of_ble_eq_true rfl) ?_
            intro v565 T565 V565 h565 S565 C565 q565
            obtain ⟨rfl, rfl⟩ := q565
            show Go p e below _ (T565.setTop (mkF m 206 #[.val (.int p0), .val (.int q0), .val (.int p1), .val (.int q1), .val (.int qx), .val (.int k_), .val (.int (1 : Int32)), .val (.int (3 : Int32)), .val (.ref b520), .val (.ref b525), .val (.int qp551), .val (.int qq553), .val (.int (0 : Int32))] [(.int (0 : Int32))]))
            refine s_iload S565 (hb hby at_206) rfl (pc' := 208) rfl ?_
            refine s_icmpN S565 (hb hby at_208) (by decide) (pc' := 211) rfl ?_
            refine s_iconst S565 (hb hby at_211) (v := (1 : Int32)) rfl (pc' := 212) rfl ?_
            refine s_goto S565 (hb hby at_212) (by decide) (pcT := 216) (by decide) ?_
            exact g_iretN S565 (hb hby at_216) hret (by simp) ⟨rfl, trivial⟩
        refine s_iload S549 (hb hby at_110) rfl (pc' := 112) rfl ?_
        refine s_bipush S549 (hb hby at_112) (v := (64 : Int32)) rfl (pc' := 114) rfl ?_
        refine s_iand S549 (hb hby at_114) (z := (k_ &&& (64 : Int32))) rfl (pc' := 115) rfl ?_
        refine g_if S549 (hb hby at_115) (by decide) (pcT := 123) (by decide) (fun q => ?_) (fun q => ?_)
        · have hc115_566 : (k_ &&& (64 : Int32)) = (0 : Int32) := icT_eq q
          show Go p e below _ (T549.setTop (mkF m 123 #[.val (.int p0), .val (.int q0), .val (.int p1), .val (.int q1), .val (.int qx), .val (.int k_), .val (.int (1 : Int32)), .val (.int aa519), .val (.ref b520), .val (.ref b525), .val (.int qp551), .unset, .unset] []))
          refine s_iload S549 (hb hby at_123) rfl (pc' := 125) rfl ?_
          refine s_sipush S549 (hb hby at_125) (v := (128 : Int32)) rfl (pc' := 128) rfl ?_
          refine s_iand S549 (hb hby at_128) (z := (k_ &&& (128 : Int32))) rfl (pc' := 129) rfl ?_
          refine g_if S549 (hb hby at_129) (by decide) (pcT := 136) (by decide) (fun q => ?_) (fun q => ?_)
          · have hc129_567 : (k_ &&& (128 : Int32)) = (0 : Int32) := icT_eq q
            show Go p e below _ (T549.setTop (mkF m 136 #[.val (.int p0), .val (.int q0), .val (.int p1), .val (.int q1), .val (.int qx), .val (.int k_), .val (.int (1 : Int32)), .val (.int aa519), .val (.ref b520), .val (.ref b525), .val (.int qp551), .unset, .unset] []))
            refine s_iloadN S549 (hb hby at_136) rfl (pc' := 137) rfl ?_
            exact K554 _
          · have hc129_567 : ¬ (k_ &&& (128 : Int32)) = (0 : Int32) := icF_eq q
            show Go p e below _ (T549.setTop (mkF m 132 #[.val (.int p0), .val (.int q0), .val (.int p1), .val (.int q1), .val (.int qx), .val (.int k_), .val (.int (1 : Int32)), .val (.int aa519), .val (.ref b520), .val (.ref b525), .val (.int qp551), .unset, .unset] []))
            refine s_iloadN S549 (hb hby at_132) rfl (pc' := 133) rfl ?_
            refine s_goto S549 (hb hby at_133) (by decide) (pcT := 137) (by decide) ?_
            exact K554 _
        · have hc115_566 : ¬ (k_ &&& (64 : Int32)) = (0 : Int32) := icF_eq q
          show Go p e below _ (T549.setTop (mkF m 118 #[.val (.int p0), .val (.int q0), .val (.int p1), .val (.int q1), .val (.int qx), .val (.int k_), .val (.int (1 : Int32)), .val (.int aa519), .val (.ref b520), .val (.ref b525), .val (.int qp551), .unset, .unset] []))
          refine s_iload S549 (hb hby at_118) rfl (pc' := 120) rfl ?_
          refine s_goto S549 (hb hby at_120) (by decide) (pcT := 137) (by decide) ?_
          exact K554 _
      refine s_iload S549 (hb hby at_82) rfl (pc' := 84) rfl ?_
      refine s_bipush S549 (hb hby at_84) (v := (16 : Int32)) rfl (pc' := 86) rfl ?_
      refine s_iand S549 (hb hby at_86) (z := (k_ &&& (16 : Int32))) rfl (pc' := 87) rfl ?_
      refine g_if S549 (hb hby at_87) (by decide) (pcT := 95) (by decide) (fun q => ?_) (fun q => ?_)
      · have hc87_568 : (k_ &&& (16 : Int32)) = (0 : Int32) := icT_eq q
        show Go p e below _ (T549.setTop (mkF m 95 #[.val (.int p0), .val (.int q0), .val (.int p1), .val (.int q1), .val (.int qx), .val (.int k_), .val (.int (1 : Int32)), .val (.int aa519), .val (.ref b520), .val (.ref b525), .unset, .unset, .unset] []))
        refine s_iload S549 (hb hby at_95) rfl (pc' := 97) rfl ?_
        refine s_bipush S549 (hb hby at_97) (v := (32 : Int32)) rfl (pc' := 99) rfl ?_
        refine s_iand S549 (hb hby at_99) (z := (k_ &&& (32 : Int32))) rfl (pc' := 100) rfl ?_
        refine g_if S549 (hb hby at_100) (by decide) (pcT := 107) (by decide) (fun q => ?_) (fun q => ?_)
        · have hc100_569 : (k_ &&& (32 : Int32)) = (0 : Int32) := icT_eq q
          show Go p e below _ (T549.setTop (mkF m 107 #[.val (.int p0), .val (.int q0), .val (.int p1), .val (.int q1), .val (.int qx), .val (.int k_), .val (.int (1 : Int32)), .val (.int aa519), .val (.ref b520), .val (.ref b525), .unset, .unset, .unset] []))
          refine s_iloadN S549 (hb hby at_107) rfl (pc' := 108) rfl ?_
          exact K552 _
        · have hc100_569 : ¬ (k_ &&& (32 : Int32)) = (0 : Int32) := icF_eq q
          show Go p e below _ (T549.setTop (mkF m 103 #[.val (.int p0), .val (.int q0), .val (.int p1), .val (.int q1), .val (.int qx), .val (.int k_), .val (.int (1 : Int32)), .val (.int aa519), .val (.ref b520), .val (.ref b525), .unset, .unset, .unset] []))
          refine s_iloadN S549 (hb hby at_103) rfl (pc' := 104) rfl ?_
          refine s_goto S549 (hb hby at_104) (by decide) (pcT := 108) (by decide) ?_
          exact K552 _
      · have hc87_568 : ¬ (k_ &&& (16 : Int32)) = (0 : Int32) := icF_eq q
        show Go p e below _ (T549.setTop (mkF m 90 #[.val (.int p0), .val (.int q0), .val (.int p1), .val (.int q1), .val (.int qx), .val (.int k_), .val (.int (1 : Int32)), .val (.int aa519), .val (.ref b520), .val (.ref b525), .unset, .unset, .unset] []))
        refine s_iload S549 (hb hby at_90) rfl (pc' := 92) rfl ?_
        refine s_goto S549 (hb hby at_92) (by decide) (pcT := 108) (by decide) ?_
        exact K552 _
  · skip
    show Go p e below _ (T0.setTop (mkF m 8 #[.val (.int p0), .val (.int q0), .val (.int p1), .val (.int q1), .val (.int qx), .val (.int k_), .val (.int (2 : Int32)), .unset, .unset, .unset, .unset, .unset, .unset] []))
    refine s_iload S0 (hb hby at_8) rfl (pc' := 10) rfl ?_
    refine s_iconst S0 (hb hby at_10) (v := (2 : Int32)) rfl (pc' := 11) rfl ?_
    refine s_iushr S0 (hb hby at_11) (z := ((k_.toUInt32 >>> ((2 : Int32) &&& 31).toUInt32).toInt32)) rfl (pc' := 12) rfl ?_
    refine s_iconst S0 (hb hby at_12) (v := (3 : Int32)) rfl (pc' := 13) rfl ?_
    refine s_iand S0 (hb hby at_13) (z := (((k_.toUInt32 >>> ((2 : Int32) &&& 31).toUInt32).toInt32) &&& (3 : Int32))) rfl (pc' := 14) rfl ?_
    generalize eaa570 : (((k_.toUInt32 >>> ((2 : Int32) &&& 31).toUInt32).toInt32) &&& (3 : Int32)) = aa570
    refine s_istore S0 (hb hby at_14) (L' := #[.val (.int p0), .val (.int q0), .val (.int p1), .val (.int q1), .val (.int qx), .val (.int k_), .val (.int (2 : Int32)), .val (.int aa570), .unset, .unset, .unset, .unset, .unset]) rfl (pc' := 16) rfl ?_
    refine g_new S0 (w0 hw) (w1 hw) (w2 hw) (hb hby at_16) (Nat.le_of_ble_eq_true rfl) (Nat.le_of_ble_eq_true rfl) ?_
    intro T571 h571 b571 S571 E571 fr571 lt571 na571 sf571 A571 D571
    have F572 : Fld Z h571 b571 "com/example/nodewarden/nodewarden/core/Asides" "text" "Ljava/lang/StringBuilder;" .null := D571 (Or.inr (w30 hw)) (ty := (.object "java/lang/StringBuilder")) (by decide)
    have F573 : Fld Z h571 b571 "com/example/nodewarden/nodewarden/core/Asides" "table" "[I" .null := D571 (Or.inl (w33 hw)) (ty := (.array .int)) (by decide)
    have F574 : Fld Z h571 b571 "com/example/nodewarden/nodewarden/core/Asides" "count" "I" (.int (0 : Int32)) := D571 (Or.inl (w41 hw)) (ty := .int) (by decide)
    show Go p e below _ (T571.setTop (mkF m 19 #[.val (.int p0), .val (.int q0), .val (.int p1), .val (.int q1), .val (.int qx), .val (.int k_), .val (.int (2 : Int32)), .val (.int aa570), .unset, .unset, .unset, .unset, .unset] [(.ref b571)]))
    refine s_dup S571 (hb hby at_19) rfl (pc' := 20) rfl ?_
    show Go p e below _ (T571.setTop (mkF m 20 #[.val (.int p0), .val (.int q0), .val (.int p1), .val (.int q1), .val (.int qx), .val (.int k_), .val (.int (2 : Int32)), .val (.int aa570), .unset, .unset, .unset, .unset, .unset] [(.ref b571), (.ref b571)]))
    refine g_special S571 (rmIN X na571 S571.old A571 F572 F573 F574) (fun _ q => nomatch q) rfl (w3 hw) (w4 hw) (w2 hw) (w5 hw) (by decide) (hb hby at_20) (by rw [hml]; rfl) b571 [] (lenOf pd6 rfl) rfl rfl (Nat.le_of_ble_eq_true rfl) (Nat.le_of_ble_eq_true rfl) (Nat.le_of_ble_eq_true rfl) (Nat.le_of_ble_eq_true rfl) ?_
    intro v575 T575 V575 h575 S575 C575 q575
    obtain ⟨rfl, sb, tb, t, kb, kt, K0, A0, sf0_, Et0⟩ := q575
    show Go p e below _ (T575.setTop (mkF m 23 #[.val (.int p0), .val (.int q0), .val (.int p1), .val (.int q1), .val (.int qx), .val (.int k_), .val (.int (2 : Int32)), .val (.int aa570), .unset, .unset, .unset, .unset, .unset] [(.ref b571)]))
    refine s_astore S575 (hb hby at_23) rfl (L' := #[.val (.int p0), .val (.int q0), .val (.int p1), .val (.int q1), .val (.int qx), .val (.int k_), .val (.int (2 : Int32)), .val (.int aa570), .val (.ref b571), .unset, .unset, .unset, .unset]) rfl (pc' := 25) rfl ?_
    refine s_iconst S575 (hb hby at_25) (v := (0 : Int32)) rfl (pc' := 26) rfl ?_
    refine g_newarr (aty := .char) S575 (w34 hw) (hb hby at_26) (by decide) (cap := 0) (by decide) (by decide) (Nat.le_of_ble_eq_true rfl) (Nat.le_of_ble_eq_true rfl) ?_
    intro T576 h576 b576 kc576 S576 E576 fr576 lt576 na576 sf576 A576
    have sf577 := Safe.ext E576 S575.chv sf0_
    have V576 : Arv Z h576 b576 kc576 .char (0 : Int32) [] (.int (0 : Int32)) := A576 0
    show Go p e below _ (T576.setTop (mkF m 28 #[.val (.int p0), .val (.int q0), .val (.int p1), .val (.int q1), .val (.int qx), .val (.int k_), .val (.int (2 : Int32)), .val (.int aa570), .val (.ref b571), .unset, .unset, .unset, .unset] [(.ref b576)]))
    refine s_astore S576 (hb hby at_28) rfl (L' := #[.val (.int p0), .val (.int q0), .val (.int p1), .val (.int q1), .val (.int qx), .val (.int k_), .val (.int (2 : Int32)), .val (.int aa570), .val (.ref b571), .val (.ref b576), .unset, .unset, .unset]) rfl (pc' := 30) rfl ?_
    refine s_iload S576 (hb hby at_30) rfl (pc' := 32) rfl ?_
    refine s_iconst S576 (hb hby at_32) (v := (1 : Int32)) rfl (pc' := 33) rfl ?_
    refine s_icmpN S576 (hb hby at_33) (by decide) (pc' := 36) rfl ?_
    refine s_aload S576 (hb hby at_36) rfl rfl (pc' := 38) rfl ?_
    refine s_iloadN S576 (hb hby at_38) rfl (pc' := 39) rfl ?_
    refine s_iloadN S576 (hb hby at_39) rfl (pc' := 40) rfl ?_
    refine s_iload S576 (hb hby at_40) rfl (pc' := 42) rfl ?_
    refine s_aload S576 (hb hby at_42) rfl rfl (pc' := 44) rfl ?_
    refine s_iconst S576 (hb hby at_44) (v := (0 : Int32)) rfl (pc' := 45) rfl ?_
    refine s_iconst S576 (hb hby at_45) (v := (0 : Int32)) rfl (pc' := 46) rfl ?_
    have A578 := A0.ext E576
    show Go p e below _ (T576.setTop (mkF m 46 #[.val (.int p0), .val (.int q0), .val (.int p1), .val (.int q1), .val (.int qx), .val (.int k_), .val (.int (2 : Int32)), .val (.int aa570), .val (.ref b571), .val (.ref b576), .unset, .unset, .unset] [(.int (0 : Int32)), (.int (0 : Int32)), (.ref b576), (.int qx), (.int q0), (.int p0), (.ref b571)]))
    refine g_virtual S576 (rmAC0 X p0 q0 qx S576.old A578 V576) (fun _ q => nomatch q) (w42 hw) (w43 hw) (w45 hw) (w44 hw) (w2 hw) (w46 hw) (by decide) (fun _ h => notFace_of_selects h) (hb hby at_46) (by rw [hml]; rfl) b571 A578.1 [(.int p0), (.int q0), (.int qx), (.ref b576), (.int (0 : Int32)), (.int (0 : Int32))] (lenOf pd19 rfl) rfl rfl (Nat.le_of_ble_eq_true rfl) (Nat.le_of_ble_eq_true rfl) (Nat.le_of_ble_eq_true rfl) (Nat.le_of_ble_eq_true rfl) ?_
    intro v579 T579 V579 h579 S579 C579 q579
    obtain ⟨rfl, t1, kt1, A1, V1⟩ := q579
    have sfA := C579.safe (Nat.lt_of_lt_of_le A0.2.2.2.2.2.1.2.2.2.2.lt (Nat.le_trans (Nat.le_refl _) E576.1)) sf577
    show Go p e below _ (T579.setTop (mkF m 49 #[.val (.int p0), .val (.int q0), .val (.int p1), .val (.int q1), .val (.int qx), .val (.int k_), .val (.int (2 : Int32)), .val (.int aa570), .val (.ref b571), .val (.ref b576), .unset, .unset, .unset] []))
    refine s_iload S579 (hb hby at_49) rfl (pc' := 51) rfl ?_
    refine s_iconst S579 (hb hby at_51) (v := (2 : Int32)) rfl (pc' := 52) rfl ?_
    refine s_icmpN S579 (hb hby at_52) (by decide) (pc' := 55) rfl ?_
    refine s_aload S579 (hb hby at_55) rfl rfl (pc' := 57) rfl ?_
    refine s_iloadN S579 (hb hby at_57) rfl (pc' := 58) rfl ?_
    refine s_iloadN S579 (hb hby at_58) rfl (pc' := 59) rfl ?_
    refine s_iload S579 (hb hby at_59) rfl (pc' := 61) rfl ?_
    show Go p e below _ (T579.setTop (mkF m 61 #[.val (.int p0), .val (.int q0), .val (.int p1), .val (.int q1), .val (.int qx), .val (.int k_), .val (.int (2 : Int32)), .val (.int aa570), .val (.ref b571), .val (.ref b576), .unset, .unset, .unset] [(.int k_), (.int q1), (.int p1), (.ref b571)]))
    refine g_ldcS S579 (w108 hw) (sAtoms hw) (by decide) (vs := []) (z := (0 : Int32)) ⟨by decide +kernel, by decide +kernel⟩ (by decide) rfl (hb hby at_61) (b := 0) (by decide +kernel) (by decide) (Nat.le_of_ble_eq_true rfl) (Nat.le_of_ble_eq_true rfl) ?_
    intro b580 T580 V580 h580 t580 kt580 S580 E580 C580 f580a f580b f580c f580d f580e
    have sf581 := C580.safe A1.2.2.2.2.2.1.2.2.2.2.lt sfA
    have F580 : LS Z h580 b580 t580 kt580 (0 : Int32) [] := ⟨f580a, f580c, f580b, f580d⟩
    have ne580 : t580 ≠ tb := (f580e tb sf581).2.symm
    show Go p e below _ (T580.setTop (mkF m 63 #[.val (.int p0), .val (.int q0), .val (.int p1), .val (.int q1), .val (.int qx), .val (.int k_), .val (.int (2 : Int32)), .val (.int aa570), .val (.ref b571), .val (.ref b576), .unset, .unset, .unset] [(.ref b580), (.int k_), (.int q1), (.int p1), (.ref b571)]))
    show Go p e below _ (T580.setTop (mkF m 63 #[.val (.int p0), .val (.int q0), .val (.int p1), .val (.int q1), .val (.int qx), .val (.int k_), .val (.int (2 : Int32)), .val (.int aa570), .val (.ref b571), .val (.ref b576), .unset, .unset, .unset] [(.ref b580), (.int k_), (.int q1), (.int p1), (.ref b571)]))
    refine g_ldcS S580 (w108 hw) (sAtoms hw) (by decide) (vs := []) (z := (0 : Int32)) ⟨by decide +kernel, by decide +kernel⟩ (by decide) rfl (hb hby at_63) (b := 0) (by decide +kernel) (by decide) (Nat.le_of_ble_eq_true rfl) (Nat.le_of_ble_eq_true rfl) ?_
    intro b582 T582 V582 h582 t582 kt582 S582 E582 C582 f582a f582b f582c f582d f582e
    have sf583 := C582.safe (Nat.lt_of_lt_of_le A1.2.2.2.2.2.1.2.2.2.2.lt (Nat.le_trans (Nat.le_refl _) E580.1)) sf581
    have F582 : LS Z h582 b582 t582 kt582 (0 : Int32) [] := ⟨f582a, f582c, f582b, f582d⟩
    have ne582 : t582 ≠ tb := (f582e tb sf583).2.symm
    show Go p e below _ (T582.setTop (mkF m 65 #[.val (.int p0), .val (.int q0), .val (.int p1), .val (.int q1), .val (.int qx), .val (.int k_), .val (.int (2 : Int32)), .val (.int aa570), .val (.ref b571), .val (.ref b576), .unset, .unset, .unset] [(.ref b582), (.ref b580), (.int k_), (.int q1), (.int p1), (.ref b571)]))
    have X584 : Ext h579 h582 := ext_trans E580 E582
    have A585 := A1.ext X584
    have F586 := F580.ext E582
    show Go p e below _ (T582.setTop (mkF m 65 #[.val (.int p0), .val (.int q0), .val (.int p1), .val (.int q1), .val (.int qx), .val (.int k_), .val (.int (2 : Int32)), .val (.int aa570), .val (.ref b571), .val (.ref b576), .unset, .unset, .unset] [(.ref b582), (.ref b580), (.int k_), (.int q1), (.int p1), (.ref b571)]))
    refine g_virtual S582 (rmAX1 X p1 q1 k_ S582.old A585 F586 F582 ne582 (by decide) (by decide) (by decide) (by decide) (by decide)) (sf1 (Nat.lt_of_lt_of_le A1.2.2.2.2.2.1.2.2.2.2.lt (Nat.le_trans (Nat.le_trans (Nat.le_refl _) E580.1) E582.1)) sf583) (w114 hw) (w115 hw) (w117 hw) (w116 hw) (w2 hw) (w118 hw) (by decide) (fun _ h => notFace_of_selects h) (hb hby at_65) (by rw [hml]; rfl) b571 A585.1 [(.int p1), (.int q1), (.int k_), (.ref b580), (.ref b582)] (lenOf pd20 rfl) rfl rfl (Nat.le_of_ble_eq_true rfl) (Nat.le_of_ble_eq_true rfl) (Nat.le_of_ble_eq_true rfl) (Nat.le_of_ble_eq_true rfl) ?_
    intro v587 T587 V587 h587 S587 C587 q587
    obtain ⟨rfl, t2, kt2, dd, ee, sc2, bs2, A2, hd2, hs2, hb2⟩ := q587
    show Go p e below _ (T587.setTop (mkF m 68 #[.val (.int p0), .val (.int q0), .val (.int p1), .val (.int q1), .val (.int qx), .val (.int k_), .val (.int (2 : Int32)), .val (.int aa570), .val (.ref b571), .val (.ref b576), .unset, .unset, .unset] []))
    refine s_iload S587 (hb hby at_68) rfl (pc' := 70) rfl ?_
    refine s_sipush S587 (hb hby at_70) (v := (256 : Int32)) rfl (pc' := 73) rfl ?_
    refine s_iand S587 (hb hby at_73) (z := (k_ &&& (256 : Int32))) rfl (pc' := 74) rfl ?_
    refine g_if S587 (hb hby at_74) (by decide) (pcT := 82) (by decide) (fun q => ?_) (fun q => ?_)
    · have hc74_588 : (k_ &&& (256 : Int32)) = (0 : Int32) := icT_eq q
      show Go p e below _ (T587.setTop (mkF m 82 #[.val (.int p0), .val (.int q0), .val (.int p1), .val (.int q1), .val (.int qx), .val (.int k_), .val (.int (2 : Int32)), .val (.int aa570), .val (.ref b571), .val (.ref b576), .unset, .unset, .unset] []))
      obtain ⟨E9, -, Fb9, Fn9, V9, -⟩ := A2
      have K590 : ∀ qp589 : Int32, Go p e below (Fini Z EL1 n0 s room_1 (fun v h' => v = some (.int 1) ∧ True)) (T587.setTop (mkF m 108 #[.val (.int p0), .val (.int q0), .val (.int p1), .val (.int q1), .val (.int qx), .val (.int k_), .val (.int (2 : Int32)), .val (.int aa570), .val (.ref b571), .val (.ref b576), .unset, .unset, .unset] [(.int qp589)])) := by
        intro qp589
        show Go p e below _ (T587.setTop (mkF m 108 #[.val (.int p0), .val (.int q0), .val (.int p1), .val (.int q1), .val (.int qx), .val (.int k_), .val (.int (2 : Int32)), .val (.int aa570), .val (.ref b571), .val (.ref b576), .unset, .unset, .unset] [(.int qp589)]))
        refine s_istore S587 (hb hby at_108) (L' := #[.val (.int p0), .val (.int q0), .val (.int p1), .val (.int q1), .val (.int qx), .val (.int k_), .val (.int (2 : Int32)), .val (.int aa570), .val (.ref b571), .val (.ref b576), .val (.int qp589), .unset, .unset]) rfl (pc' := 110) rfl ?_
        have K592 : ∀ qq591 : Int32, Go p e below (Fini Z EL1 n0 s room_1 (fun v h' => v = some (.int 1) ∧ True)) (T587.setTop (mkF m 137 #[.val (.int p0), .val (.int q0), .val (.int p1), .val (.int q1), .val (.int qx), .val (.int k_), .val (.int (2 : Int32)), .val (.int aa570), .val (.ref b571), .val (.ref b576), .val (.int qp589), .unset, .unset] [(.int qq591)])) := by
          intro qq591
          show Go p e below _ (T587.setTop (mkF m 137 #[.val (.int p0), .val (.int q0), .val (.int p1), .val (.int q1), .val (.int qx), .val (.int k_), .val (.int (2 : Int32)), .val (.int aa570), .val (.ref b571), .val (.ref b576), .val (.int qp589), .unset, .unset] [(.int qq591)]))
          refine s_istore S587 (hb hby at_137) (L' := #[.val (.int p0), .val (.int q0), .val (.int p1), .val (.int q1), .val (.int qx), .val (.int k_), .val (.int (2 : Int32)), .val (.int aa570), .val (.ref b571), .val (.ref b576), .val (.int qp589), .val (.int qq591), .unset]) rfl (pc' := 139) rfl ?_
          rcases own_and3s k_ aa570 eaa570 with rfl | rfl | rfl | rfl
          · skip
            show Go p e below _ (T587.setTop (mkF m 139 #[.val (.int p0), .val (.int q0), .val (.int p1), .val (.int q1), .val (.int qx), .val (.int k_), .val (.int (2 : Int32)), .val (.int (0 : Int32)), .val (.ref b571), .val (.ref b576), .val (.int qp589), .val (.int qq591), .unset] []))
            refine s_iconst S587 (hb hby at_139) (v := (0 : Int32)) rfl (pc' := 140) rfl ?_
            refine s_istore S587 (hb hby at_140) (L' := #[.val (.int p0), .val (.int q0), .val (.int p1), .val (.int q1), .val (.int qx), .val (.int k_), .val (.int (2 : Int32)), .val (.int (0 : Int32)), .val (.ref b571), .val (.ref b576), .val (.int qp589), .val (.int qq591), .val (.int (0 : Int32))]) rfl (pc' := 142) rfl ?_
            refine s_iload S587 (hb hby at_142) rfl (pc' := 144) rfl ?_
            refine s_ifN S587 (hb hby at_144) (by decide) (pc' := 147) rfl ?_
            refine s_iload S587 (hb hby at_147) rfl (pc' := 149) rfl ?_
            refine s_iconst S587 (hb hby at_149) (v := (1 : Int32)) rfl (pc' := 150) rfl ?_
            refine s_icmpN S587 (hb hby at_150) (by decide) (pc' := 153) rfl ?_
            refine s_iload S587 (hb hby at_153) rfl (pc' := 155) rfl ?_
            refine s_iloadN S587 (hb hby at_155) rfl (pc' := 156) rfl ?_
            refine g_icmp S587 (hb hby at_156) (by decide) (pcT := 168) (by decide) (fun q => ?_) (fun q => ?_)
            · have hc156_593 : ¬ qp589 = p0 := icT_ne q
              show Go p e below _ (T587.setTop (mkF m 168 #[.val (.int p0), .val (.int q0), .val (.int p1), .val (.int q1), .val (.int qx), .val (.int k_), .val (.int (2 : Int32)), .val (.int (0 : Int32)), .val (.ref b571), .val (.ref b576), .val (.int qp589), .val (.int qq591), .val (.int (0 : Int32))] []))
              refine s_iload S587 (hb hby at_168) rfl (pc' := 170) rfl ?_
              refine s_iconst S587 (hb hby at_170) (v := (1 : Int32)) rfl (pc' := 171) rfl ?_
              refine s_icmpY S587 (hb hby at_171) (by decide) (by decide) (pcT := 195) (by decide) ?_
              refine s_aload S587 (hb hby at_195) rfl rfl (pc' := 197) rfl ?_
              refine s_iload S587 (hb hby at_197) rfl (pc' := 199) rfl ?_
              refine s_iload S587 (hb hby at_199) rfl (pc' := 201) rfl ?_
              refine s_iload S587 (hb hby at_201) rfl (pc' := 203) rfl ?_
              show Go p e below _ (T587.setTop (mkF m 203 #[.val (.int p0), .val (.int q0), .val (.int p1), .val (.int q1), .val (.int qx), .val (.int k_), .val (.int (2 : Int32)), .val (.int (0 : Int32)), .val (.ref b571), .val (.ref b576), .val (.int qp589), .val (.int qq591), .val (.int (0 : Int32))] [(.int qq591), (.int qp589), (.int (0 : Int32)), (.ref b571)]))
              refine g_virtual S587 (rmIA200 X S587.old E9 Fb9 Fn9 V9) (fun _ q => nomatch q) (w35 hw) (w36 hw) (w38 hw) (w37 hw) (w2 hw) (w39 hw) (by decide) (fun _ h => notFace_of_selects h) (hb hby at_203) (by rw [hml]; rfl) b571 E9 [(.int (0 : Int32)), (.int qp589), (.int qq591)] (lenOf pd18 rfl) rfl rfl (Nat.le_of_ble_eq_true rfl) (Nat.le_of_ble_eq_true rfl) (Nat.le_of_ble_eq_true rfl) (Nat.le_of_ble_eq_true rfl) ?_
              intro v595 T595 V595 h595 S595 C595 q595
              obtain ⟨g594, rfl, hg594, rfl⟩ := q595
              obtain rfl : g594 = 0 := hg594.elim (fun q => absurd q.2.1.symm hc156_593) (fun q => q.1)
              show Go p e below _ (T595.setTop (mkF m 206 #[.val (.int p0), .val (.int q0), .val (.int p1), .val (.int q1), .val (.int qx), .val (.int k_), .val (.int (2 : Int32)), .val (.int (0 : Int32)), .val (.ref b571), .val (.ref b576), .val (.int qp589), .val (.int qq591), .val (.int (0 : Int32))] [(.int (0 : Int32))]))
              refine s_iload S595 (hb hby at_206) rfl (pc' := 208) rfl ?_
              refine s_icmpN S595 (hb hby at_208) (by decide) (pc' := 211) rfl ?_
              refine s_iconst S595 (hb hby at_211) (v := (1 : Int32)) rfl (pc' := 212) rfl ?_
              refine s_goto S595 (hb hby at_212) (by decide) (pcT := 216) (by decide) ?_
              exact g_iretN S595 (hb hby at_216) hret (by simp) ⟨rfl, trivial⟩
            · have hc156_593 : qp589 = p0 := icF_ne q
              show Go p e below _ (T587.setTop (mkF m 159 #[.val (.int p0), .val (.int q0), .val (.int p1), .val (.int q1), .val (.int qx), .val (.int k_), .val (.int (2 : Int32)), .val (.int (0 : Int32)), .val (.ref b571), .val (.ref b576), .val (.int qp589), .val (.int qq591), .val (.int (0 : Int32))] []))
              refine s_iload S587 (hb hby at_159) rfl (pc' := 161) rfl ?_
              refine s_iloadN S587 (hb hby at_161) rfl (pc' := 162) rfl ?_
              refine g_icmp S587 (hb hby at_162) (by decide) (pcT := 168) (by decide) (fun q => ?_) (fun q => ?_)
              · have hc162_596 : ¬ qq591 = q0 := icT_ne q
                show Go p e below _ (T587.setTop (mkF m 168 #[.val (.int p0), .val (.int q0), .val (.int p1), .val (.int q1), .val (.int qx), .val (.int k_), .val (.int (2 : Int32)), .val (.int (0 : Int32)), .val (.ref b571), .val (.ref b576), .val (.int qp589), .val (.int qq591), .val (.int (0 : Int32))] []))
                refine s_iload S587 (hb hby at_168) rfl (pc' := 170) rfl ?_
                refine s_iconst S587 (hb hby at_170) (v := (1 : Int32)) rfl (pc' := 171) rfl ?_
                refine s_icmpY S587 (hb hby at_171) (by decide) (by decide) (pcT := 195) (by decide) ?_
                refine s_aload S587 (hb hby at_195) rfl rfl (pc' := 197) rfl ?_
                refine s_iload S587 (hb hby at_197) rfl (pc' := 199) rfl ?_
                refine s_iload S587 (hb hby at_199) rfl (pc' := 201) rfl ?_
                refine s_iload S587 (hb hby at_201) rfl (pc' := 203) rfl ?_
                show Go p e below _ (T587.setTop (mkF m 203 #[.val (.int p0), .val (.int q0), .val (.int p1), .val (.int q1), .val (.int qx), .val (.int k_), .val (.int (2 : Int32)), .val (.int (0 : Int32)), .val (.ref b571), .val (.ref b576), .val (.int qp589), .val (.int qq591), .val (.int (0 : Int32))] [(.int qq591), (.int qp589), (.int (0 : Int32)), (.ref b571)]))
                refine g_virtual S587 (rmIA200 X S587.old E9 Fb9 Fn9 V9) (fun _ q => nomatch q) (w35 hw) (w36 hw) (w38 hw) (w37 hw) (w2 hw) (w39 hw) (by decide) (fun _ h => notFace_of_selects h) (hb hby at_203) (by rw [hml]; rfl) b571 E9 [(.int (0 : Int32)), (.int qp589), (.int qq591)] (lenOf pd18 rfl) rfl rfl (Nat.le_of_ble_eq_true rfl) (Nat.le_of_ble_eq_true rfl) (Nat.le_of_ble_eq_true rfl) (Nat.le_of_ble_eq_true rfl) ?_
                intro v598 T598 V598 h598 S598 C598 q598
                obtain ⟨g597, rfl, hg597, rfl⟩ := q598
                obtain rfl : g597 = 0 := hg597.elim (fun q => absurd q.2.2.symm hc162_596) (fun q => q.1)
                show Go p e below _ (T598.setTop (mkF m 206 #[.val (.int p0), .val (.int q0), .val (.int p1), .val (.int q1), .val (.int qx), .val (.int k_), .val (.int (2 : Int32)), .val (.int (0 : Int32)), .val (.ref b571), .val (.ref b576), .val (.int qp589), .val (.int qq591), .val (.int (0 : Int32))] [(.int (0 : Int32))]))
                refine s_iload S598 (hb hby at_206) rfl (pc' := 208) rfl ?_
                refine s_icmpN S598 (hb hby at_208) (by decide) (pc' := 211) rfl ?_
                refine s_iconst S598 (hb hby at_211) (v := (1 : Int32)) rfl (pc' := 212) rfl ?_
                refine s_goto S598 (hb hby at_212) (by decide) (pcT := 216) (by decide) ?_
                exact g_iretN S598 (hb hby at_216) hret (by simp) ⟨rfl, trivial⟩
              · have hc162_596 : qq591 = q0 := icF_ne q
                show Go p e below _ (T587.setTop (mkF m 165 #[.val (.int p0), .val (.int q0), .val (.int p1), .val (.int q1), .val (.int qx), .val (.int k_), .val (.int (2 : Int32)), .val (.int (0 : Int32)), .val (.ref b571), .val (.ref b576), .val (.int qp589), .val (.int qq591), .val (.int (0 : Int32))] []))
                refine s_iconst S587 (hb hby at_165) (v := (1 : Int32)) rfl (pc' := 166) rfl ?_
                refine s_istore S587 (hb hby at_166) (L' := #[.val (.int p0), .val (.int q0), .val (.int p1), .val (.int q1), .val (.int qx), .val (.int k_), .val (.int (2 : Int32)), .val (.int (0 : Int32)), .val (.ref b571), .val (.ref b576), .val (.int qp589), .val (.int qq591), .val (.int (1 : Int32))]) rfl (pc' := 168) rfl ?_
                refine s_iload S587 (hb hby at_168) rfl (pc' := 170) rfl ?_
                refine s_iconst S587 (hb hby at_170) (v := (1 : Int32)) rfl (pc' := 171) rfl ?_
                refine s_icmpY S587 (hb hby at_171) (by decide) (by decide) (pcT := 195) (by decide) ?_
                refine s_aload S587 (hb hby at_195) rfl rfl (pc' := 197) rfl ?_
                refine s_iload S587 (hb hby at_197) rfl (pc' := 199) rfl ?_
                refine s_iload S587 (hb hby at_199) rfl (pc' := 201) rfl ?_
                refine s_iload S587 (hb hby at_201) rfl (pc' := 203) rfl ?_
                show Go p e below _ (T587.setTop (mkF m 203 #[.val (.int p0), .val (.int q0), .val (.int p1), .val (.int q1), .val (.int qx), .val (.int k_), .val (.int (2 : Int32)), .val (.int (0 : Int32)), .val (.ref b571), .val (.ref b576), .val (.int qp589), .val (.int qq591), .val (.int (1 : Int32))] [(.int qq591), (.int qp589), (.int (0 : Int32)), (.ref b571)]))
                refine g_virtual S587 (rmIA200 X S587.old E9 Fb9 Fn9 V9) (fun _ q => nomatch q) (w35 hw) (w36 hw) (w38 hw) (w37 hw) (w2 hw) (w39 hw) (by decide) (fun _ h => notFace_of_selects h) (hb hby at_203) (by rw [hml]; rfl) b571 E9 [(.int (0 : Int32)), (.int qp589), (.int qq591)] (lenOf pd18 rfl) rfl rfl (Nat.le_of_ble_eq_true rfl) (Nat.le_of_ble_eq_true rfl) (Nat.le_of_ble_eq_true rfl) (Nat.le_of_ble_eq_true rfl) ?_
                intro v600 T600 V600 h600 S600 C600 q600
                obtain ⟨g599, rfl, hg599, rfl⟩ := q600
                obtain rfl : g599 = 1 := hg599.elim (fun q => q.1) (fun q => absurd ⟨hc156_593.symm, hc162_596.symm⟩ q.2)
                show Go p e below _ (T600.setTop (mkF m 206 #[.val (.int p0), .val (.int q0), .val (.int p1), .val (.int q1), .val (.int qx), .val (.int k_), .val (.int (2 : Int32)), .val (.int (0 : Int32)), .val (.ref b571), .val (.ref b576), .val (.int qp589), .val (.int qq591), .val (.int (1 : Int32))] [(.int (1 : Int32))]))
                refine s_iload S600 (hb hby at_206) rfl (pc' := 208) rfl ?_
                refine s_icmpN S600 (hb hby at_208) (by decide) (pc' := 211) rfl ?_
                refine s_iconst S600 (hb hby at_211) (v := (1 : Int32)) rfl (pc' := 212) rfl ?_
                refine s_goto S600 (hb hby at_212) (by decide) (pcT := 216) (by decide) ?_
                exact g_iretN S600 (hb hby at_216) hret (by simp) ⟨rfl, trivial⟩
          · skip
            show Go p e below _ (T587.setTop (mkF m 139 #[.val (.int p0), .val (.int q0), .val (.int p1), .val (.int q1), .val (.int qx), .val (.int k_), .val (.int (2 : Int32)), .val (.int (1 : Int32)), .val (.ref b571), .val (.ref b576), .val (.int qp589), .val (.int qq591), .unset] []))
            refine s_iconst S587 (hb hby at_139) (v := (0 : Int32)) rfl (pc' := 140) rfl ?_
            refine s_istore S587 (hb hby at_140) (L' := #[.val (.int p0), .val (.int q0), .val (.int p1), .val (.int q1), .val (.int qx), .val (.int k_), .val (.int (2 : Int32)), .val (.int (1 : Int32)), .val (.ref b571), .val (.ref b576), .val (.int qp589), .val (.int qq591), .val (.int (0 : Int32))]) rfl (pc' := 142) rfl ?_
            refine s_iload S587 (hb hby at_142) rfl (pc' := 144) rfl ?_
            refine s_ifY S587 (hb hby at_144) (by decide) (by decide) (pcT := 168) (by decide) ?_
            refine s_iload S587 (hb hby at_168) rfl (pc' := 170) rfl ?_
            refine s_iconst S587 (hb hby at_170) (v := (1 : Int32)) rfl (pc' := 171) rfl ?_
            refine s_icmpN S587 (hb hby at_171) (by decide) (pc' := 174) rfl ?_
            refine s_iload S587 (hb hby at_174) rfl (pc' := 176) rfl ?_
            refine s_iconst S587 (hb hby at_176) (v := (2 : Int32)) rfl (pc' := 177) rfl ?_
            refine s_icmpN S587 (hb hby at_177) (by decide) (pc' := 180) rfl ?_
            refine s_iload S587 (hb hby at_180) rfl (pc' := 182) rfl ?_
            refine s_iloadN S587 (hb hby at_182) rfl (pc' := 183) rfl ?_
            refine g_icmp S587 (hb hby at_183) (by decide) (pcT := 195) (by decide) (fun q => ?_) (fun q => ?_)
            · have hc183_601 : ¬ qp589 = p1 := icT_ne q
              show Go p e below _ (T587.setTop (mkF m 195 #[.val (.int p0), .val (.int q0), .val (.int p1), .val (.int q1), .val (.int qx), .val (.int k_), .val (.int (2 : Int32)), .val (.int (1 : Int32)), .val (.ref b571), .val (.ref b576), .val (.int qp589), .val (.int qq591), .val (.int (0 : Int32))] []))
              refine s_aload S587 (hb hby at_195) rfl rfl (pc' := 197) rfl ?_
              refine s_iload S587 (hb hby at_197) rfl (pc' := 199) rfl ?_
              refine s_iload S587 (hb hby at_199) rfl (pc' := 201) rfl ?_
              refine s_iload S587 (hb hby at_201) rfl (pc' := 203) rfl ?_
              show Go p e below _ (T587.setTop (mkF m 203 #[.val (.int p0), .val (.int q0), .val (.int p1), .val (.int q1), .val (.int qx), .val (.int k_), .val (.int (2 : Int32)), .val (.int (1 : Int32)), .val (.ref b571), .val (.ref b576), .val (.int qp589), .val (.int qq591), .val (.int (0 : Int32))] [(.int qq591), (.int qp589), (.int (1 : Int32)), (.ref b571)]))
              refine g_virtual S587 (rmIA210 X S587.old E9 Fb9 Fn9 V9) (fun _ q => nomatch q) (w35 hw) (w36 hw) (w38 hw) (w37 hw) (w2 hw) (w39 hw) (by decide) (fun _ h => notFace_of_selects h) (hb hby at_203) (by rw [hml]; rfl) b571 E9 [(.int (1 : Int32)), (.int qp589), (.int qq591)] (lenOf pd18 rfl) rfl rfl (Nat.le_of_ble_eq_true rfl) (Nat.le_of_ble_eq_true rfl) (Nat.le_of_ble_eq_true rfl) (Nat.le_of_ble_eq_true rfl) ?_
              intro v603 T603 V603 h603 S603 C603 q603
              obtain ⟨g602, rfl, hg602, rfl⟩ := q603
              obtain rfl : g602 = 0 := hg602.elim (fun q => absurd q.2.1.symm hc183_601) (fun q => q.1)
              show Go p e below _ (T603.setTop (mkF m 206 #[.val (.int p0), .val (.int q0), .val (.int p1), .val (.int q1), .val (.int qx), .val (.int k_), .val (.int (2 : Int32)), .val (.int (1 : Int32)), .val (.ref b571), .val (.ref b576), .val (.int qp589), .val (.int qq591), .val (.int (0 : Int32))] [(.int (0 : Int32))]))
              refine s_iload S603 (hb hby at_206) rfl (pc' := 208) rfl ?_
              refine s_icmpN S603 (hb hby at_208) (by decide) (pc' := 211) rfl ?_
              refine s_iconst S603 (hb hby at_211) (v := (1 : Int32)) rfl (pc' := 212) rfl ?_
              refine s_goto S603 (hb hby at_212) (by decide) (pcT := 216) (by decide) ?_
              exact g_iretN S603 (hb hby at_216) hret (by simp) ⟨rfl, trivial⟩
            · have hc183_601 : qp589 = p1 := icF_ne q
              show Go p e below _ (T587.setTop (mkF m 186 #[.val (.int p0), .val (.int q0), .val (.int p1), .val (.int q1), .val (.int qx), .val (.int k_), .val (.int (2 : Int32)), .val (.int (1 : Int32)), .val (.ref b571), .val (.ref b576), .val (.int qp589), .val (.int qq591), .val (.int (0 : Int32))] []))
              refine s_iload S587 (hb hby at_186) rfl (pc' := 188) rfl ?_
              refine s_iloadN S587 (hb hby at_188) rfl (pc' := 189) rfl ?_
              refine g_icmp S587 (hb hby at_189) (by decide) (pcT := 195) (by decide) (fun q => ?_) (fun q => ?_)
              · have hc189_604 : ¬ qq591 = q1 := icT_ne q
                show Go p e below _ (T587.setTop (mkF m 195 #[.val (.int p0), .val (.int q0), .val (.int p1), .val (.int q1), .val (.int qx), .val (.int k_), .val (.int (2 : Int32)), .val (.int (1 : Int32)), .val (.ref b571), .val (.ref b576), .val (.int qp589), .val (.int qq591), .val (.int (0 : Int32))] []))
                refine s_aload S587 (hb hby at_195) rfl rfl (pc' := 197) rfl ?_
                refine s_iload S587 (hb hby at_197) rfl (pc' := 199) rfl ?_
                refine s_iload S587 (hb hby at_199) rfl (pc' := 201) rfl ?_
                refine s_iload S587 (hb hby at_201) rfl (pc' := 203) rfl ?_
                show Go p e below _ (T587.setTop (mkF m 203 #[.val (.int p0), .val (.int q0), .val (.int p1), .val (.int q1), .val (.int qx), .val (.int k_), .val (.int (2 : Int32)), .val (.int (1 : Int32)), .val (.ref b571), .val (.ref b576), .val (.int qp589), .val (.int qq591), .val (.int (0 : Int32))] [(.int qq591), (.int qp589), (.int (1 : Int32)), (.ref b571)]))
                refine g_virtual S587 (rmIA210 X S587.old E9 Fb9 Fn9 V9) (fun _ q => nomatch q) (w35 hw) (w36 hw) (w38 hw) (w37 hw) (w2 hw) (w39 hw) (by decide) (fun _ h => notFace_of_selects h) (hb hby at_203) (by rw [hml]; rfl) b571 E9 [(.int (1 : Int32)), (.int qp589), (.int qq591)] (lenOf pd18 rfl) rfl rfl (Nat.le_of_ble_eq_true rfl) (Nat.le_of_ble_eq_true rfl) (Nat.le_of_ble_eq_true rfl) (Nat.le_of_ble_eq_true rfl) ?_
                intro v606 T606 V606 h606 S606 C606 q606
                obtain ⟨g605, rfl, hg605, rfl⟩ := q606
                obtain rfl : g605 = 0 := hg605.elim (fun q => absurd q.2.2.symm hc189_604) (fun q => q.1)
                show Go p e below _ (T606.setTop (mkF m 206 #[.val (.int p0), .val (.int q0), .val (.int p1), .val (.int q1), .val (.int qx), .val (.int k_), .val (.int (2 : Int32)), .val (.int (1 : Int32)), .val (.ref b571), .val (.ref b576), .val (.int qp589), .val (.int qq591), .val (.int (0 : Int32))] [(.int (0 : Int32))]))
                refine s_iload S606 (hb hby at_206) rfl (pc' := 208) rfl ?_
                refine s_icmpN S606 (hb hby at_208) (by decide) (pc' := 211) rfl ?_
                refine s_iconst S606 (hb hby at_211) (v := (1 : Int32)) rfl (pc' := 212) rfl ?_
                refine s_goto S606 (hb hby at_212) (by decide) (pcT := 216) (by decide) ?_
                exact g_iretN S606 (hb hby at_216) hret (by simp) ⟨rfl, trivial⟩
              · have hc189_604 : qq591 = q1 := icF_ne q
                show Go p e below _ (T587.setTop (mkF m 192 #[.val (.int p0), .val (.int q0), .val (.int p1), .val (.int q1), .val (.int qx), .val (.int k_), .val (.int (2 : Int32)), .val (.int (1 : Int32)), .val (.ref b571), .val (.ref b576), .val (.int qp589), .val (.int qq591), .val (.int (0 : Int32))] []))
                refine s_iconst S587 (hb hby at_192) (v := (1 : Int32)) rfl (pc' := 193) rfl ?_
                refine s_istore S587 (hb hby at_193) (L' := #[.val (.int p0), .val (.int q0), .val (.int p1), .val (.int q1), .val (.int qx), .val (.int k_), .val (.int (2 : Int32)), .val (.int (1 : Int32)), .val (.ref b571), .val (.ref b576), .val (.int qp589), .val (.int qq591), .val (.int (1 : Int32))]) rfl (pc' := 195) rfl ?_
                refine s_aload S587 (hb hby at_195) rfl rfl (pc' := 197) rfl ?_
                refine s_iload S587 (hb hby at_197) rfl (pc' := 199) rfl ?_
                refine s_iload S587 (hb hby at_199) rfl (pc' := 201) rfl ?_
                refine s_iload S587 (hb hby at_201) rfl (pc' := 203) rfl ?_
                show Go p e below _ (T587.setTop (mkF m 203 #[.val (.int p0), .val (.int q0), .val (.int p1), .val (.int q1), .val (.int qx), .val (.int k_), .val (.int (2 : Int32)), .val (.int (1 : Int32)), .val (.ref b571), .val (.ref b576), .val (.int qp589), .val (.int qq591), .val (.int (1 : Int32))] [(.int qq591), (.int qp589), (.int (1 : Int32)), (.ref b571)]))
                refine g_virtual S587 (rmIA210 X S587.old E9 Fb9 Fn9 V9) (fun _ q => nomatch q) (w35 hw) (w36 hw) (w38 hw) (w37 hw) (w2 hw) (w39 hw) (by decide) (fun _ h => notFace_of_selects h) (hb hby at_203) (by rw [hml]; rfl) b571 E9 [(.int (1 : Int32)), (.int qp589), (.int qq591)] (lenOf pd18 rfl) rfl rfl (Nat.le_of_ble_eq_true rfl) (Nat.le_of_ble_eq_true rfl) (Nat.le_of_ble_eq_true rfl) (Nat.le_of_ble_eq_true rfl) ?_
                intro v608 T608 V608 h608 S608 C608 q608
                obtain ⟨g607, rfl, hg607, rfl⟩ := q608
                obtain rfl : g607 = 1 := hg607.elim (fun q => q.1) (fun q => absurd ⟨hc183_601.symm, hc189_604.symm⟩ q.2)
                show Go p e below _ (T608.setTop (mkF m 206 #[.val (.int p0), .val (.int q0), .val (.int p1), .val (.int q1), .val (.int qx), .val (.int k_), .val (.int (2 : Int32)), .val (.int (1 : Int32)), .val (.ref b571), .val (.ref b576), .val (.int qp589), .val (.int qq591), .val (.int (1 : Int32))] [(.int (1 : Int32))]))
                refine s_iload S608 (hb hby at_206) rfl (pc' := 208) rfl ?_
                refine s_icmpN S608 (hb hby at_208) (by decide) (pc' := 211) rfl ?_
                refine s_iconst S608 (hb hby at_211) (v := (1 : Int32)) rfl (pc' := 212) rfl ?_
                refine s_goto S608 (hb hby at_212) (by decide) (pcT := 216) (by decide) ?_
                exact g_iretN S608 (hb hby at_216) hret (by simp) ⟨rfl, trivial⟩
          · skip
            show Go p e below _ (T587.setTop (mkF m 139 #[.val (.int p0), .val (.int q0), .val (.int p1), .val (.int q1), .val (.int qx), .val (.int k_), .val (.int (2 : Int32)), .val (.int (2 : Int32)), .val (.ref b571), .val (.ref b576), .val (.int qp589), .val (.int qq591), .unset] []))
            refine s_iconst S587 (hb hby at_139) (v := (0 : Int32)) rfl (pc' := 140) rfl ?_
            refine s_istore S587 (hb hby at_140) (L' := #[.val (.int p0), .val (.int q0), .val (.int p1), .val (.int q1), .val (.int qx), .val (.int k_), .val (.int (2 : Int32)), .val (.int (2 : Int32)), .val (.ref b571), .val (.ref b576), .val (.int qp589), .val (.int qq591), .val (.int (0 : Int32))]) rfl (pc' := 142) rfl ?_
            refine s_iload S587 (hb hby at_142) rfl (pc' := 144) rfl ?_
            refine s_ifY S587 (hb hby at_144) (by decide) (by decide) (pcT := 168) (by decide) ?_
            refine s_iload S587 (hb hby at_168) rfl (pc' := 170) rfl ?_
            refine s_iconst S587 (hb hby at_170) (v := (1 : Int32)) rfl (pc' := 171) rfl ?_
            refine s_icmpY S587 (hb hby at_171) (by decide) (by decide) (pcT := 195) (by decide) ?_
            refine s_aload S587 (hb hby at_195) rfl rfl (pc' := 197) rfl ?_
            refine s_iload S587 (hb hby at_197) rfl (pc' := 199) rfl ?_
            refine s_iload S587 (hb hby at_199) rfl (pc' := 201) rfl ?_
            refine s_iload S587 (hb hby at_201) rfl (pc' := 203) rfl ?_
            show Go p e below _ (T587.setTop (mkF m 203 #[.val (.int p0), .val (.int q0), .val (.int p1), .val (.int q1), .val (.int qx), .val (.int k_), .val (.int (2 : Int32)), .val (.int (2 : Int32)), .val (.ref b571), .val (.ref b576), .val (.int qp589), .val (.int qq591), .val (.int (0 : Int32))] [(.int qq591), (.int qp589), (.int (2 : Int32)), (.ref b571)]))
            refine g_virtual S587 (rmIA220 X S587.old E9 Fb9 Fn9 V9) (fun _ q => nomatch q) (w35 hw) (w36 hw) (w38 hw) (w37 hw) (w2 hw) (w39 hw) (by decide) (fun _ h => notFace_of_selects h) (hb hby at_203) (by rw [hml]; rfl) b571 E9 [(.int (2 : Int32)), (.int qp589), (.int qq591)] (lenOf pd18 rfl) rfl rfl (Nat.le_of_ble_eq_true rfl) (Nat.le_of_ble_eq_true rfl) (Nat.le_of_ble_eq_true rfl) (Nat.le_of_ble_eq_true rfl) ?_
            intro v609 T609 V609 h609 S609 C609 q609
            obtain ⟨rfl, rfl⟩ := q609
            show Go p e below _ (T609.setTop (mkF m 206 #[.val (.int p0), .val (.int q0), .val (.int p1), .val (.int q1), .val (.int qx), .val (.int k_), .val (.int (2 : Int32)), .val (.int (2 : Int32)), .val (.ref b571), .val (.ref b576), .val (.int qp589), .val (.int qq591), .val (.int (0 : Int32))] [(.int (0 : Int32))]))
            refine s_iload S609 (hb hby at_206) rfl (pc' := 208) rfl ?_
            refine s_icmpN S609 (hb hby at_208) (by decide) (pc' := 211) rfl ?_
            refine s_iconst S609 (hb hby at_211) (v := (1 : Int32)) rfl (pc' := 212) rfl ?_
            refine s_goto S609 (hb hby at_212) (by decide) (pcT := 216) (by decide) ?_
            exact g_iretN S609 (hb hby at_216) hret (by simp) ⟨rfl, trivial⟩
          · skip
            show Go p e below _ (T587.setTop (mkF m 139 #[.val (.int p0), .val (.int q0), .val (.int p1), .val (.int q1), .val (.int qx), .val (.int k_), .val (.int (2 : Int32)), .val (.int (3 : Int32)), .val (.ref b571), .val (.ref b576), .val (.int qp589), .val (.int qq591), .unset] []))
            refine s_iconst S587 (hb hby at_139) (v := (0 : Int32)) rfl (pc' := 140) rfl ?_
            refine s_istore S587 (hb hby at_140) (L' := #[.val (.int p0), .val (.int q0), .val (.int p1), .val (.int q1), .val (.int qx), .val (.int k_), .val (.int (2 : Int32)), .val (.int (3 : Int32)), .val (.ref b571), .val (.ref b576), .val (.int qp589), .val (.int qq591), .val (.int (0 : Int32))]) rfl (pc' := 142) rfl ?_
            refine s_iload S587 (hb hby at_142) rfl (pc' := 144) rfl ?_
            refine s_ifY S587 (hb hby at_144) (by decide) (by decide) (pcT := 168) (by decide) ?_
            refine s_iload S587 (hb hby at_168) rfl (pc' := 170) rfl ?_
            refine s_iconst S587 (hb hby at_170) (v := (1 : Int32)) rfl (pc' := 171) rfl ?_
            refine s_icmpY S587 (hb hby at_171) (by decide) (by decide) (pcT := 195) (by decide) ?_
            refine s_aload S587 (hb hby at_195) rfl rfl (pc' := 197) rfl ?_
            refine s_iload S587 (hb hby at_197) rfl (pc' := 199) rfl ?_
            refine s_iload S587 (hb hby at_199) rfl (pc' := 201) rfl ?_
            refine s_iload S587 (hb hby at_201) rfl (pc' := 203) rfl ?_
            show Go p e below _ (T587.setTop (mkF m 203 #[.val (.int p0), .val (.int q0), .val (.int p1), .val (.int q1), .val (.int qx), .val (.int k_), .val (.int (2 : Int32)), .val (.int (3 : Int32)), .val (.ref b571), .val (.ref b576), .val (.int qp589), .val (.int qq591), .val (.int (0 : Int32))] [(.int qq591), (.int qp589), (.int (3 : Int32)), (.ref b571)]))
            refine g_virtual S587 (rmIA230 X S587.old E9 Fb9 Fn9 V9) (fun _ q => nomatch q) (w35 hw) (w36 hw) (w38 hw) (w37 hw) (w2 hw) (w39 hw) (by decide) (fun _ h => notFace_of_selects h) (hb hby at_203) (by rw [hml]; rfl) b571 E9 [(.int (3 : Int32)), (.int qp589), (.int qq591)] (lenOf pd18 rfl) rfl rfl (Nat.le_of_ble_eq_true rfl) (Nat.le_of_ble_eq_true rfl) (Nat.le_of_ble_eq_true rfl) (Nat.le_of_ble_eq_true rfl) ?_
            intro v610 T610 V610 h610 S610 C610 q610
            obtain ⟨rfl, rfl⟩ := q610
            show Go p e below _ (T610.setTop (mkF m 206 #[.val (.int p0), .val (.int q0), .val (.int p1), .val (.int q1), .val (.int qx), .val (.int k_), .val (.int (2 : Int32)), .val (.int (3 : Int32)), .val (.ref b571), .val (.ref b576), .val (.int qp589), .val (.int qq591), .val (.int (0 : Int32))] [(.int (0 : Int32))]))
            refine s_iload S610 (hb hby at_206) rfl (pc' := 208) rfl ?_
            refine s_icmpN S610 (hb hby at_208) (by decide) (pc' := 211) rfl ?_
            refine s_iconst S610 (hb hby at_211) (v := (1 : Int32)) rfl (pc' := 212) rfl ?_
            refine s_goto S610 (hb hby at_212) (by decide) (pcT := 216) (by decide) ?_
            exact g_iretN S610 (hb hby at_216) hret (by simp) ⟨rfl, trivial⟩
        refine s_iload S587 (hb hby at_110) rfl (pc' := 112) rfl ?_
        refine s_bipush S587 (hb hby at_112) (v := (64 : Int32)) rfl (pc' := 114) rfl ?_
        refine s_iand S587 (hb hby at_114) (z := (k_ &&& (64 : Int32))) rfl (pc' := 115) rfl ?_
        refine g_if S587 (hb hby at_115) (by decide) (pcT := 123) (by decide) (fun q => ?_) (fun q => ?_)
        · have hc115_611 : (k_ &&& (64 : Int32)) = (0 : Int32) := icT_eq q
          show Go p e below _ (T587.setTop (mkF m 123 #[.val (.int p0), .val (.int q0), .val (.int p1), .val (.int q1), .val (.int qx), .val (.int k_), .val (.int (2 : Int32)), .val (.int aa570), .val (.ref b571), .val (.ref b576), .val (.int qp589), .unset, .unset] []))
          refine s_iload S587 (hb hby at_123) rfl (pc' := 125) rfl ?_
          refine s_sipush S587 (hb hby at_125) (v := (128 : Int32)) rfl (pc' := 128) rfl ?_
          refine s_iand S587 (hb hby at_128) (z := (k_ &&& (128 : Int32))) rfl (pc' := 129) rfl ?_
          refine g_if S587 (hb hby at_129) (by decide) (pcT := 136) (by decide) (fun q => ?_) (fun q => ?_)
          · have hc129_612 : (k_ &&& (128 : Int32)) = (0 : Int32) := icT_eq q
            show Go p e below _ (T587.setTop (mkF m 136 #[.val (.int p0), .val (.int q0), .val (.int p1), .val (.int q1), .val (.int qx), .val (.int k_), .val (.int (2 : Int32)), .val (.int aa570), .val (.ref b571), .val (.ref b576), .val (.int qp589), .unset, .unset] []))
            refine s_iloadN S587 (hb hby at_136) rfl (pc' := 137) rfl ?_
            exact K592 _
          · have hc129_612 : ¬ (k_ &&& (128 : Int32)) = (0 : Int32) := icF_eq q
            show Go p e below _ (T587.setTop (mkF m 132 #[.val (.int p0), .val (.int q0), .val (.int p1), .val (.int q1), .val (.int qx), .val (.int k_), .val (.int (2 : Int32)), .val (.int aa570), .val (.ref b571), .val (.ref b576), .val (.int qp589), .unset, .unset] []))
            refine s_iloadN S587 (hb hby at_132) rfl (pc' := 133) rfl ?_
            refine s_goto S587 (hb hby at_133) (by decide) (pcT := 137) (by decide) ?_
            exact K592 _
        · have hc115_611 : ¬ (k_ &&& (64 : Int32)) = (0 : Int32) := icF_eq q
          show Go p e below _ (T587.setTop (mkF m 118 #[.val (.int p0), .val (.int q0), .val (.int p1), .val (.int q1), .val (.int qx), .val (.int k_), .val (.int (2 : Int32)), .val (.int aa570), .val (.ref b571), .val (.ref b576), .val (.int qp589), .unset, .unset] []))
          refine s_iload S587 (hb hby at_118) rfl (pc' := 120) rfl ?_
          refine s_goto S587 (hb hby at_120) (by decide) (pcT := 137) (by decide) ?_
          exact K592 _
      refine s_iload S587 (hb hby at_82) rfl (pc' := 84) rfl ?_
      refine s_bipush S587 (hb hby at_84) (v := (16 : Int32)) rfl (pc' := 86) rfl ?_
      refine s_iand S587 (hb hby at_86) (z := (k_ &&& (16 : Int32))) rfl (pc' := 87) rfl ?_
      refine g_if S587 (hb hby at_87) (by decide) (pcT := 95) (by decide) (fun q => ?_) (fun q => ?_)
      · have hc87_613 : (k_ &&& (16 : Int32)) = (0 : Int32) := icT_eq q
        show Go p e below _ (T587.setTop (mkF m 95 #[.val (.int p0), .val (.int q0), .val (.int p1), .val (.int q1), .val (.int qx), .val (.int k_), .val (.int (2 : Int32)), .val (.int aa570), .val (.ref b571), .val (.ref b576), .unset, .unset, .unset] []))
        refine s_iload S587 (hb hby at_95) rfl (pc' := 97) rfl ?_
        refine s_bipush S587 (hb hby at_97) (v := (32 : Int32)) rfl (pc' := 99) rfl ?_
        refine s_iand S587 (hb hby at_99) (z := (k_ &&& (32 : Int32))) rfl (pc' := 100) rfl ?_
        refine g_if S587 (hb hby at_100) (by decide) (pcT := 107) (by decide) (fun q => ?_) (fun q => ?_)
        · have hc100_614 : (k_ &&& (32 : Int32)) = (0 : Int32) := icT_eq q
          show Go p e below _ (T587.setTop (mkF m 107 #[.val (.int p0), .val (.int q0), .val (.int p1), .val (.int q1), .val (.int qx), .val (.int k_), .val (.int (2 : Int32)), .val (.int aa570), .val (.ref b571), .val (.ref b576), .unset, .unset, .unset] []))
          refine s_iloadN S587 (hb hby at_107) rfl (pc' := 108) rfl ?_
          exact K590 _
        · have hc100_614 : ¬ (k_ &&& (32 : Int32)) = (0 : Int32) := icF_eq q
          show Go p e below _ (T587.setTop (mkF m 103 #[.val (.int p0), .val (.int q0), .val (.int p1), .val (.int q1), .val (.int qx), .val (.int k_), .val (.int (2 : Int32)), .val (.int aa570), .val (.ref b571), .val (.ref b576), .unset, .unset, .unset] []))
          refine s_iloadN S587 (hb hby at_103) rfl (pc' := 104) rfl ?_
          refine s_goto S587 (hb hby at_104) (by decide) (pcT := 108) (by decide) ?_
          exact K590 _
      · have hc87_613 : ¬ (k_ &&& (16 : Int32)) = (0 : Int32) := icF_eq q
        show Go p e below _ (T587.setTop (mkF m 90 #[.val (.int p0), .val (.int q0), .val (.int p1), .val (.int q1), .val (.int qx), .val (.int k_), .val (.int (2 : Int32)), .val (.int aa570), .val (.ref b571), .val (.ref b576), .unset, .unset, .unset] []))
        refine s_iload S587 (hb hby at_90) rfl (pc' := 92) rfl ?_
        refine s_goto S587 (hb hby at_92) (by decide) (pcT := 108) (by decide) ?_
        exact K590 _
    · have hc74_588 : ¬ (k_ &&& (256 : Int32)) = (0 : Int32) := icF_eq q
      show Go p e below _ (T587.setTop (mkF m 77 #[.val (.int p0), .val (.int q0), .val (.int p1), .val (.int q1), .val (.int qx), .val (.int k_), .val (.int (2 : Int32)), .val (.int aa570), .val (.ref b571), .val (.ref b576), .unset, .unset, .unset] []))
      refine s_aload S587 (hb hby at_77) rfl rfl (pc' := 79) rfl ?_
      show Go p e below _ (T587.setTop (mkF m 79 #[.val (.int p0), .val (.int q0), .val (.int p1), .val (.int q1), .val (.int qx), .val (.int k_), .val (.int (2 : Int32)), .val (.int aa570), .val (.ref b571), .val (.ref b576), .unset, .unset, .unset] [(.ref b571)]))
      refine g_virtual S587 (rmCL2 X S587.old A2 (by rw [hs2]; decide) (by rw [hs2]; decide)) (fun _ q => nomatch q) (w158 hw) (w159 hw) (w161 hw) (w160 hw) (w2 hw) (w162 hw) (by decide) (fun _ h => notFace_of_selects h) (hb hby at_79) (by rw [hml]; rfl) b571 A2.1 [] (lenOf pd6 rfl) rfl rfl (Nat.le_of_ble_eq_true rfl) (Nat.le_of_ble_eq_true rfl) (Nat.le_of_ble_eq_true rfl) (Nat.le_of_ble_eq_true rfl) ?_
      intro v615 T615 V615 h615 S615 C615 q615
      obtain ⟨rfl, u9, ku9, E9, Fb9, Fn9, V9⟩ := q615
      show Go p e below _ (T615.setTop (mkF m 82 #[.val (.int p0), .val (.int q0), .val (.int p1), .val (.int q1), .val (.int qx), .val (.int k_), .val (.int (2 : Int32)), .val (.int aa570), .val (.ref b571), .val (.ref b576), .unset, .unset, .unset] []))
      have K617 : ∀ qp616 : Int32, Go p e below (Fini Z EL1 n0 s room_1 (fun v h' => v = some (.int 1) ∧ True)) (T615.setTop (mkF m 108 #[.val (.int p0), .val (.int q0), .val (.int p1), .val (.int q1), .val (.int qx), .val (.int k_), .val (.int (2 : Int32)), .val (.int aa570), .val (.ref b571), .val (.ref b576), .unset, .unset, .unset] [(.int qp616)])) := by
        intro qp616
        show Go p e below _ (T615.setTop (mkF m 108 #[.val (.int p0), .val (.int q0), .val (.int p1), .val (.int q1), .val (.int qx), .val (.int k_), .val (.int (2 : Int32)), .val (.int aa570), .val (.ref b571), .val (.ref b576), .unset, .unset, .unset] [(.int qp616)]))
        refine s_istore S615 (hb hby at_108) (L' := #[.val (.int p0), .val (.int q0), .val (.int p1), .val (.int q1), .val (.int qx), .val (.int k_), .val (.int (2 : Int32)), .val (.int aa570), .val (.ref b571), .val (.ref b576), .val (.int qp616), .unset, .unset]) rfl (pc' := 110) rfl ?_
        have K619 : ∀ qq618 : Int32, Go p e below (Fini Z EL1 n0 s room_1 (fun v h' => v = some (.int 1) ∧ True)) (T615.setTop (mkF m 137 #[.val (.int p0), .val (.int q0), .val (.int p1), .val (.int q1), .val (.int qx), .val (.int k_), .val (.int (2 : Int32)), .val (.int aa570), .val (.ref b571), .val (.ref b576), .val (.int qp616), .unset, .unset] [(.int qq618)])) := by
          intro qq618
          show Go p e below _ (T615.setTop (mkF m 137 #[.val (.int p0), .val (.int q0), .val (.int p1), .val (.int q1), .val (.int qx), .val (.int k_), .val (.int (2 : Int32)), .val (.int aa570), .val (.ref b571), .val (.ref b576), .val (.int qp616), .unset, .unset] [(.int qq618)]))
          refine s_istore S615 (hb hby at_137) (L' := #[.val (.int p0), .val (.int q0), .val (.int p1), .val (.int q1), .val (.int qx), .val (.int k_), .val (.int (2 : Int32)), .val (.int aa570), .val (.ref b571), .val (.ref b576), .val (.int qp616), .val (.int qq618), .unset]) rfl (pc' := 139) rfl ?_
          rcases own_and3s k_ aa570 eaa570 with rfl | rfl | rfl | rfl
          · skip
            show Go p e below _ (T615.setTop (mkF m 139 #[.val (.int p0), .val (.int q0), .val (.int p1), .val (.int q1), .val (.int qx), .val (.int k_), .val (.int (2 : Int32)), .val (.int (0 : Int32)), .val (.ref b571), .val (.ref b576), .val (.int qp616), .val (.int qq618), .unset] []))
            refine s_iconst S615 (hb hby at_139) (v := (0 : Int32)) rfl (pc' := 140) rfl ?_
            refine s_istore S615 (hb hby at_140) (L' := #[.val (.int p0), .val (.int q0), .val (.int p1), .val (.int q1), .val (.int qx), .val (.int k_), .val (.int (2 : Int32)), .val (.int (0 : Int32)), .val (.ref b571), .val (.ref b576), .val (.int qp616), .val (.int qq618), .val (.int (0 : Int32))]) rfl (pc' := 142) rfl ?_
            refine s_iload S615 (hb hby at_142) rfl (pc' := 144) rfl ?_
            refine s_ifN S615 (hb hby at_144) (by decide) (pc' := 147) rfl ?_
            refine s_iload S615 (hb hby at_147) rfl (pc' := 149) rfl ?_
            refine s_iconst S615 (hb hby at_149) (v := (1 : Int32)) rfl (pc' := 150) rfl ?_
            refine s_icmpN S615 (hb hby at_150) (by decide) (pc' := 153) rfl ?_
            refine s_iload S615 (hb hby at_153) rfl (pc' := 155) rfl ?_
            refine s_iloadN S615 (hb hby at_155) rfl (pc' := 156) rfl ?_
            refine g_icmp S615 (hb hby at_156) (by decide) (pcT := 168) (by decide) (fun q => ?_) (fun q => ?_)
            · have hc156_620 : ¬ qp616 = p0 := icT_ne q
              show Go p e below _ (T615.setTop (mkF m 168 #[.val (.int p0), .val (.int q0), .val (.int p1), .val (.int q1), .val (.int qx), .val (.int k_), .val (.int (2 : Int32)), .val (.int (0 : Int32)), .val (.ref b571), .val (.ref b576), .val (.int qp616), .val (.int qq618), .val (.int (0 : Int32))] []))
              refine s_iload S615 (hb hby at_168) rfl (pc' := 170) rfl ?_
              refine s_iconst S615 (hb hby at_170) (v := (1 : Int32)) rfl (pc' := 171) rfl ?_
              refine s_icmpY S615 (hb hby at_171) (by decide) (by decide) (pcT := 195) (by decide) ?_
              refine s_aload S615 (hb hby at_195) rfl rfl (pc' := 197) rfl ?_
              refine s_iload S615 (hb hby at_197) rfl (pc' := 199) rfl ?_
              refine s_iload S615 (hb hby at_199) rfl (pc' := 201) rfl ?_
              refine s_iload S615 (hb hby at_201) rfl (pc' := 203) rfl ?_
              show Go p e below _ (T615.setTop (mkF m 203 #[.val (.int p0), .val (.int q0), .val (.int p1), .val (.int q1), .val (.int qx), .val (.int k_), .val (.int (2 : Int32)), .val (.int (0 : Int32)), .val (.ref b571), .val (.ref b576), .val (.int qp616), .val (.int qq618), .val (.int (0 : Int32))] [(.int qq618), (.int qp616), (.int (0 : Int32)), (.ref b571)]))
              refine g_virtual S615 (rmIA201 X S615.old E9 Fb9 Fn9 V9) (fun _ q => nomatch q) (w35 hw) (w36 hw) (w38 hw) (w37 hw) (w2 hw) (w39 hw) (by decide) (fun _ h => notFace_of_selects h) (hb hby at_203) (by rw [hml]; rfl) b571 E9 [(.int (0 : Int32)), (.int qp616), (.int qq618)] (lenOf pd18 rfl) rfl rfl (Nat.le_of_ble_eq_true rfl) (Nat.le_of_ble_eq_true rfl) (Nat.le_of_ble_eq_true rfl) (Nat.le_of_ble_eq_true rfl) ?_
              intro v622 T622 V622 h622 S622 C622 q622
              obtain ⟨g621, rfl, hg621, rfl⟩ := q622
              obtain rfl : g621 = 0 := hg621.elim (fun q => absurd q.2.1.symm hc156_620) (fun q => q.1)
              show Go p e below _ (T622.setTop (mkF m 206 #[.val (.int p0), .val (.int q0), .val (.int p1), .val (.int q1), .val (.int qx), .val (.int k_), .val (.int (2 : Int32)), .val (.int (0 : Int32)), .val (.ref b571), .val (.ref b576), .val (.int qp616), .val (.int qq618), .val (.int (0 : Int32))] [(.int (0 : Int32))]))
              refine s_iload S622 (hb hby at_206) rfl (pc' := 208) rfl ?_
              refine s_icmpN S622 (hb hby at_208) (by decide) (pc' := 211) rfl ?_
              refine s_iconst S622 (hb hby at_211) (v := (1 : Int32)) rfl (pc' := 212) rfl ?_
              refine s_goto S622 (hb hby at_212) (by decide) (pcT := 216) (by decide) ?_
              exact g_iretN S622 (hb hby at_216) hret (by simp) ⟨rfl, trivial⟩
            · have hc156_620 : qp616 = p0 := icF_ne q
              show Go p e below _ (T615.setTop (mkF m 159 #[.val (.int p0), .val (.int q0), .val (.int p1), .val (.int q1), .val (.int qx), .val (.int k_), .val (.int (2 : Int32)), .val (.int (0 : Int32)), .val (.ref b571), .val (.ref b576), .val (.int qp616), .val (.int qq618), .val (.int (0 : Int32))] []))
              refine s_iload S615 (hb hby at_159) rfl (pc' := 161) rfl ?_
              refine s_iloadN S615 (hb hby at_161) rfl (pc' := 162) rfl ?_
              refine g_icmp S615 (hb hby at_162) (by decide) (pcT := 168) (by decide) (fun q => ?_) (fun q => ?_)
              · have hc162_623 : ¬ qq618 = q0 := icT_ne q
                show Go p e below _ (T615.setTop (mkF m 168 #[.val (.int p0), .val (.int q0), .val (.int p1), .val (.int q1), .val (.int qx), .val (.int k_), .val (.int (2 : Int32)), .val (.int (0 : Int32)), .val (.ref b571), .val (.ref b576), .val (.int qp616), .val (.int qq618), .val (.int (0 : Int32))] []))
                refine s_iload S615 (hb hby at_168) rfl (pc' := 170) rfl ?_
                refine s_iconst S615 (hb hby at_170) (v := (1 : Int32)) rfl (pc' := 171) rfl ?_
                refine s_icmpY S615 (hb hby at_171) (by decide) (by decide) (pcT := 195) (by decide) ?_
                refine s_aload S615 (hb hby at_195) rfl rfl (pc' := 197) rfl ?_
                refine s_iload S615 (hb hby at_197) rfl (pc' := 199) rfl ?_
                refine s_iload S615 (hb hby at_199) rfl (pc' := 201) rfl ?_
                refine s_iload S615 (hb hby at_201) rfl (pc' := 203) rfl ?_
                show Go p e below _ (T615.setTop (mkF m 203 #[.val (.int p0), .val (.int q0), .val (.int p1), .val (.int q1), .val (.int qx), .val (.int k_), .val (.int (2 : Int32)), .val (.int (0 : Int32)), .val (.ref b571), .val (.ref b576), .val (.int qp616), .val (.int qq618), .val (.int (0 : Int32))] [(.int qq618), (.int qp616), (.int (0 : Int32)), (.ref b571)]))
                refine g_virtual S615 (rmIA201 X S615.old E9 Fb9 Fn9 V9) (fun _ q => nomatch q) (w35 hw) (w36 hw) (w38 hw) (w37 hw) (w2 hw) (w39 hw) (by decide) (fun _ h => notFace_of_selects h) (hb hby at_203) (by rw [hml]; rfl) b571 E9 [(.int (0 : Int32)), (.int qp616), (.int qq618)] (lenOf pd18 rfl) rfl rfl (Nat.le_of_ble_eq_true rfl) (Nat.le_of_ble_eq_true rfl) (Nat.le_of_ble_eq_true rfl) (Nat.le_of_ble_eq_true rfl) ?_
                intro v625 T625 V625 h625 S625 C625 q625
                obtain ⟨g624, rfl, hg624, rfl⟩ := q625
                obtain rfl : g624 = 0 := hg624.elim (fun q => absurd q.2.2.symm hc162_623) (fun q => q.1)
                show Go p e below _ (T625.setTop (mkF m 206 #[.val (.int p0), .val (.int q0), .val (.int p1), .val (.int q1), .val (.int qx), .val (.int k_), .val (.int (2 : Int32)), .val (.int (0 : Int32)), .val (.ref b571), .val (.ref b576), .val (.int qp616), .val (.int qq618), .val (.int (0 : Int32))] [(.int (0 : Int32))]))
                refine s_iload S625 (hb hby at_206) rfl (pc' := 208) rfl ?_
                refine s_icmpN S625 (hb hby at_208) (by decide) (pc' := 211) rfl ?_
                refine s_iconst S625 (hb hby at_211) (v := (1 : Int32)) rfl (pc' := 212) rfl ?_
                refine s_goto S625 (hb hby at_212) (by decide) (pcT := 216) (by decide) ?_
                exact g_iretN S625 (hb hby at_216) hret (by simp) ⟨rfl, trivial⟩
              · have hc162_623 : qq618 = q0 := icF_ne q
                show Go p e below _ (T615.setTop (mkF m 165 #[.val (.int p0), .val (.int q0), .val (.int p1), .val (.int q1), .val (.int qx), .val (.int k_), .val (.int (2 : Int32)), .val (.int (0 : Int32)), .val (.ref b571), .val (.ref b576), .val (.int qp616), .val (.int qq618), .val (.int (0 : Int32))] []))
                refine s_iconst S615 (hb hby at_165) (v := (1 : Int32)) rfl (pc' := 166) rfl ?_
                refine s_istore S615 (hb hby at_166) (L' := #[.val (.int p0), .val (.int q0), .val (.int p1), .val (.int q1), .val (.int qx), .val (.int k_), .val (.int (2 : Int32)), .val (.int (0 : Int32)), .val (.ref b571), .val (.ref b576), .val (.int qp616), .val (.int qq618), .val (.int (1 : Int32))]) rfl (pc' := 168) rfl ?_
                refine s_iload S615 (hb hby at_168) rfl (pc' := 170) rfl ?_
                refine s_iconst S615 (hb hby at_170) (v := (1 : Int32)) rfl (pc' := 171) rfl ?_
                refine s_icmpY S615 (hb hby at_171) (by decide) (by decide) (pcT := 195) (by decide) ?_
                refine s_aload S615 (hb hby at_195) rfl rfl (pc' := 197) rfl ?_
                refine s_iload S615 (hb hby at_197) rfl (pc' := 199) rfl ?_
                refine s_iload S615 (hb hby at_199) rfl (pc' := 201) rfl ?_
                refine s_iload S615 (hb hby at_201) rfl (pc' := 203) rfl ?_
                show Go p e below _ (T615.setTop (mkF m 203 #[.val (.int p0), .val (.int q0), .val (.int p1), .val (.int q1), .val (.int qx), .val (.int k_), .val (.int (2 : Int32)), .val (.int (0 : Int32)), .val (.ref b571), .val (.ref b576), .val (.int qp616), .val (.int qq618), .val (.int (1 : Int32))] [(.int qq618), (.int qp616), (.int (0 : Int32)), (.ref b571)]))
                refine g_virtual S615 (rmIA201 X S615.old E9 Fb9 Fn9 V9) (fun _ q => nomatch q) (w35 hw) (w36 hw) (w38 hw) (w37 hw) (w2 hw) (w39 hw) (by decide) (fun _ h => notFace_of_selects h) (hb hby at_203) (by rw [hml]; rfl) b571 E9 [(.int (0 : Int32)), (.int qp616), (.int qq618)] (lenOf pd18 rfl) rfl rfl (Nat.le_of_ble_eq_true rfl) (Nat.le_of_ble_eq_true rfl) (Nat.le_of_ble_eq_true rfl) (Nat.le_of_ble_eq_true rfl) ?_
                intro v627 T627 V627 h627 S627 C627 q627
                obtain ⟨g626, rfl, hg626, rfl⟩ := q627
                obtain rfl : g626 = 1 := hg626.elim (fun q => q.1) (fun q => absurd ⟨hc156_620.symm, hc162_623.symm⟩ q.2)
                show Go p e below _ (T627.setTop (mkF m 206 #[.val (.int p0), .val (.int q0), .val (.int p1), .val (.int q1), .val (.int qx), .val (.int k_), .val (.int (2 : Int32)), .val (.int (0 : Int32)), .val (.ref b571), .val (.ref b576), .val (.int qp616), .val (.int qq618), .val (.int (1 : Int32))] [(.int (1 : Int32))]))
                refine s_iload S627 (hb hby at_206) rfl (pc' := 208) rfl ?_
                refine s_icmpN S627 (hb hby at_208) (by decide) (pc' := 211) rfl ?_
                refine s_iconst S627 (hb hby at_211) (v := (1 : Int32)) rfl (pc' := 212) rfl ?_
                refine s_goto S627 (hb hby at_212) (by decide) (pcT := 216) (by decide) ?_
                exact g_iretN S627 (hb hby at_216) hret (by simp) ⟨rfl, trivial⟩
          · skip
            show Go p e below _ (T615.setTop (mkF m 139 #[.val (.int p0), .val (.int q0), .val (.int p1), .val (.int q1), .val (.int qx), .val (.int k_), .val (.int (2 : Int32)), .val (.int (1 : Int32)), .val (.ref b571), .val (.ref b576), .val (.int qp616), .val (.int qq618), .unset] []))
            refine s_iconst S615 (hb hby at_139) (v := (0 : Int32)) rfl (pc' := 140) rfl ?_
            refine s_istore S615 (hb hby at_140) (L' := #[.val (.int p0), .val (.int q0), .val (.int p1), .val (.int q1), .val (.int qx), .val (.int k_), .val (.int (2 : Int32)), .val (.int (1 : Int32)), .val (.ref b571), .val (.ref b576), .val (.int qp616), .val (.int qq618), .val (.int (0 : Int32))]) rfl (pc' := 142) rfl ?_
            refine s_iload S615 (hb hby at_142) rfl (pc' := 144) rfl ?_
            refine s_ifY S615 (hb hby at_144) (by decide) (by decide) (pcT := 168) (by decide) ?_
            refine s_iload S615 (hb hby at_168) rfl (pc' := 170) rfl ?_
            refine s_iconst S615 (hb hby at_170) (v := (1 : Int32)) rfl (pc' := 171) rfl ?_
            refine s_icmpN S615 (hb hby at_171) (by decide) (pc' := 174) rfl ?_
            refine s_iload S615 (hb hby at_174) rfl (pc' := 176) rfl ?_
            refine s_iconst S615 (hb hby at_176) (v := (2 : Int32)) rfl (pc' := 177) rfl ?_
            refine s_icmpN S615 (hb hby at_177) (by decide) (pc' := 180) rfl ?_
            refine s_iload S615 (hb hby at_180) rfl (pc' := 182) rfl ?_
            refine s_iloadN S615 (hb hby at_182) rfl (pc' := 183) rfl ?_
            refine g_icmp S615 (hb hby at_183) (by decide) (pcT := 195) (by decide) (fun q => ?_) (fun q => ?_)
            · have hc183_628 : ¬ qp616 = p1 := icT_ne q
              show Go p e below _ (T615.setTop (mkF m 195 #[.val (.int p0), .val (.int q0), .val (.int p1), .val (.int q1), .val (.int qx), .val (.int k_), .val (.int (2 : Int32)), .val (.int (1 : Int32)), .val (.ref b571), .val (.ref b576), .val (.int qp616), .val (.int qq618), .val (.int (0 : Int32))] []))
              refine s_aload S615 (hb hby at_195) rfl rfl (pc' := 197) rfl ?_
              refine s_iload S615 (hb hby at_197) rfl (pc' := 199) rfl ?_
              refine s_iload S615 (hb hby at_199) rfl (pc' := 201) rfl ?_
              refine s_iload S615 (hb hby at_201) rfl (pc' := 203) rfl ?_
              show Go p e below _ (T615.setTop (mkF m 203 #[.val (.int p0), .val (.int q0), .val (.int p1), .val (.int q1), .val (.int qx), .val (.int k_), .val (.int (2 : Int32)), .val (.int (1 : Int32)), .val (.ref b571), .val (.ref b576), .val (.int qp616), .val (.int qq618), .val (.int (0 : Int32))] [(.int qq618), (.int qp616), (.int (1 : Int32)), (.ref b571)]))
              refine g_virtual S615 (rmIA211 X S615.old E9 Fb9 Fn9 V9) (fun _ q => nomatch q) (w35 hw) (w36 hw) (w38 hw) (w37 hw) (w2 hw) (w39 hw) (by decide) (fun _ h => notFace_of_selects h) (hb hby at_203) (by rw [hml]; rfl) b571 E9 [(.int (1 : Int32)), (.int qp616), (.int qq618)] (lenOf pd18 rfl) rfl rfl (Nat.le_of_ble_eq_true rfl) (Nat.le_of_ble_eq_true rfl) (Nat.le_of_ble_eq_true rfl) (Nat.le_of_ble_eq_true rfl) ?_
              intro v630 T630 V630 h630 S630 C630 q630
              obtain ⟨g629, rfl, hg629, rfl⟩ := q630
              obtain rfl : g629 = 0 := hg629.elim (fun q => absurd q.2.1.symm hc183_628) (fun q => q.1)
              show Go p e below _ (T630.setTop (mkF m 206 #[.val (.int p0), .val (.int q0), .val (.int p1), .val (.int q1), .val (.int qx), .val (.int k_), .val (.int (2 : Int32)), .val (.int (1 : Int32)), .val (.ref b571), .val (.ref b576), .val (.int qp616), .val (.int qq618), .val (.int (0 : Int32))] [(.int (0 : Int32))]))
              refine s_iload S630 (hb hby at_206) rfl (pc' := 208) rfl ?_
              refine s_icmpN S630 (hb hby at_208) (by decide) (pc' := 211) rfl ?_
              refine s_iconst S630 (hb hby at_211) (v := (1 : Int32)) rfl (pc' := 212) rfl ?_
              refine s_goto S630 (hb hby at_212) (by decide) (pcT := 216) (by decide) ?_
              exact g_iretN S630 (hb hby at_216) hret (by simp) ⟨rfl, trivial⟩
            · have hc183_628 : qp616 = p1 := icF_ne q
              show Go p e below _ (T615.setTop (mkF m 186 #[.val (.int p0), .val (.int q0), .val (.int p1), .val (.int q1), .val (.int qx), .val (.int k_), .val (.int (2 : Int32)), .val (.int (1 : Int32)), .val (.ref b571), .val (.ref b576), .val (.int qp616), .val (.int qq618), .val (.int (0 : Int32))] []))
              refine s_iload S615 (hb hby at_186) rfl (pc' := 188) rfl ?_
              refine s_iloadN S615 (hb hby at_188) rfl (pc' := 189) rfl ?_
              refine g_icmp S615 (hb hby at_189) (by decide) (pcT := 195) (by decide) (fun q => ?_) (fun q => ?_)
              · have hc189_631 : ¬ qq618 = q1 := icT_ne q
                show Go p e below _ (T615.setTop (mkF m 195 #[.val (.int p0), .val (.int q0), .val (.int p1), .val (.int q1), .val (.int qx), .val (.int k_), .val (.int (2 : Int32)), .val (.int (1 : Int32)), .val (.ref b571), .val (.ref b576), .val (.int qp616), .val (.int qq618), .val (.int (0 : Int32))] []))
                refine s_aload S615 (hb hby at_195) rfl rfl (pc' := 197) rfl ?_
                refine s_iload S615 (hb hby at_197) rfl (pc' := 199) rfl ?_
                refine s_iload S615 (hb hby at_199) rfl (pc' := 201) rfl ?_
                refine s_iload S615 (hb hby at_201) rfl (pc' := 203) rfl ?_
                show Go p e below _ (T615.setTop (mkF m 203 #[.val (.int p0), .val (.int q0), .val (.int p1), .val (.int q1), .val (.int qx), .val (.int k_), .val (.int (2 : Int32)), .val (.int (1 : Int32)), .val (.ref b571), .val (.ref b576), .val (.int qp616), .val (.int qq618), .val (.int (0 : Int32))] [(.int qq618), (.int qp616), (.int (1 : Int32)), (.ref b571)]))
                refine g_virtual S615 (rmIA211 X S615.old E9 Fb9 Fn9 V9) (fun _ q => nomatch q) (w35 hw) (w36 hw) (w38 hw) (w37 hw) (w2 hw) (w39 hw) (by decide) (fun _ h => notFace_of_selects h) (hb hby at_203) (by rw [hml]; rfl) b571 E9 [(.int (1 : Int32)), (.int qp616), (.int qq618)] (lenOf pd18 rfl) rfl rfl (Nat.le_of_ble_eq_true rfl) (Nat.le_of_ble_eq_true rfl) (Nat.le_of_ble_eq_true rfl) (Nat.le_of_ble_eq_true rfl) ?_
                intro v633 T633 V633 h633 S633 C633 q633
                obtain ⟨g632, rfl, hg632, rfl⟩ := q633
                obtain rfl : g632 = 0 := hg632.elim (fun q => absurd q.2.2.symm hc189_631) (fun q => q.1)
                show Go p e below _ (T633.setTop (mkF m 206 #[.val (.int p0), .val (.int q0), .val (.int p1), .val (.int q1), .val (.int qx), .val (.int k_), .val (.int (2 : Int32)), .val (.int (1 : Int32)), .val (.ref b571), .val (.ref b576), .val (.int qp616), .val (.int qq618), .val (.int (0 : Int32))] [(.int (0 : Int32))]))
                refine s_iload S633 (hb hby at_206) rfl (pc' := 208) rfl ?_
                refine s_icmpN S633 (hb hby at_208) (by decide) (pc' := 211) rfl ?_
                refine s_iconst S633 (hb hby at_211) (v := (1 : Int32)) rfl (pc' := 212) rfl ?_
                refine s_goto S633 (hb hby at_212) (by decide) (pcT := 216) (by decide) ?_
                exact g_iretN S633 (hb hby at_216) hret (by simp) ⟨rfl, trivial⟩
              · have hc189_631 : qq618 = q1 := icF_ne q
                show Go p e below _ (T615.setTop (mkF m 192 #[.val (.int p0), .val (.int q0), .val (.int p1), .val (.int q1), .val (.int qx), .val (.int k_), .val (.int (2 : Int32)), .val (.int (1 : Int32)), .val (.ref b571), .val (.ref b576), .val (.int qp616), .val (.int qq618), .val (.int (0 : Int32))] []))
                refine s_iconst S615 (hb hby at_192) (v := (1 : Int32)) rfl (pc' := 193) rfl ?_
                refine s_istore S615 (hb hby at_193) (L' := #[.val (.int p0), .val (.int q0), .val (.int p1), .val (.int q1), .val (.int qx), .val (.int k_), .val (.int (2 : Int32)), .val (.int (1 : Int32)), .val (.ref b571), .val (.ref b576), .val (.int qp616), .val (.int qq618), .val (.int (1 : Int32))]) rfl (pc' := 195) rfl ?_
                refine s_aload S615 (hb hby at_195) rfl rfl (pc' := 197) rfl ?_
                refine s_iload S615 (hb hby at_197) rfl (pc' := 199) rfl ?_
                refine s_iload S615 (hb hby at_199) rfl (pc' := 201) rfl ?_
                refine s_iload S615 (hb hby at_201) rfl (pc' := 203) rfl ?_
                show Go p e below _ (T615.setTop (mkF m 203 #[.val (.int p0), .val (.int q0), .val (.int p1), .val (.int q1), .val (.int qx), .val (.int k_), .val (.int (2 : Int32)), .val (.int (1 : Int32)), .val (.ref b571), .val (.ref b576), .val (.int qp616), .val (.int qq618), .val (.int (1 : Int32))] [(.int qq618), (.int qp616), (.int (1 : Int32)), (.ref b571)]))
                refine g_virtual S615 (rmIA211 X S615.old E9 Fb9 Fn9 V9) (fun _ q => nomatch q) (w35 hw) (w36 hw) (w38 hw) (w37 hw) (w2 hw) (w39 hw) (by decide) (fun _ h => notFace_of_selects h) (hb hby at_203) (by rw [hml]; rfl) b571 E9 [(.int (1 : Int32)), (.int qp616), (.int qq618)] (lenOf pd18 rfl) rfl rfl (Nat.le_of_ble_eq_true rfl) (Nat.le_of_ble_eq_true rfl) (Nat.le_of_ble_eq_true rfl) (Nat.le_of_ble_eq_true rfl) ?_
                intro v635 T635 V635 h635 S635 C635 q635
                obtain ⟨g634, rfl, hg634, rfl⟩ := q635
                obtain rfl : g634 = 1 := hg634.elim (fun q => q.1) (fun q => absurd ⟨hc183_628.symm, hc189_631.symm⟩ q.2)
                show Go p e below _ (T635.setTop (mkF m 206 #[.val (.int p0), .val (.int q0), .val (.int p1), .val (.int q1), .val (.int qx), .val (.int k_), .val (.int (2 : Int32)), .val (.int (1 : Int32)), .val (.ref b571), .val (.ref b576), .val (.int qp616), .val (.int qq618), .val (.int (1 : Int32))] [(.int (1 : Int32))]))
                refine s_iload S635 (hb hby at_206) rfl (pc' := 208) rfl ?_
                refine s_icmpN S635 (hb hby at_208) (by decide) (pc' := 211) rfl ?_
                refine s_iconst S635 (hb hby at_211) (v := (1 : Int32)) rfl (pc' := 212) rfl ?_
                refine s_goto S635 (hb hby at_212) (by decide) (pcT := 216) (by decide) ?_
                exact g_iretN S635 (hb hby at_216) hret (by simp) ⟨rfl, trivial⟩
          · skip
            show Go p e below _ (T615.setTop (mkF m 139 #[.val (.int p0), .val (.int q0), .val (.int p1), .val (.int q1), .val (.int qx), .val (.int k_), .val (.int (2 : Int32)), .val (.int (2 : Int32)), .val (.ref b571), .val (.ref b576), .val (.int qp616), .val (.int qq618), .unset] []))
            refine s_iconst S615 (hb hby at_139) (v := (0 : Int32)) rfl (pc' := 140) rfl ?_
            refine s_istore S615 (hb hby at_140) (L' := #[.val (.int p0), .val (.int q0), .val (.int p1), .val (.int q1), .val (.int qx), .val (.int k_), .val (.int (2 : Int32)), .val (.int (2 : Int32)), .val (.ref b571), .val (.ref b576), .val (.int qp616), .val (.int qq618), .val (.int (0 : Int32))]) rfl (pc' := 142) rfl ?_
            refine s_iload S615 (hb hby at_142) rfl (pc' := 144) rfl ?_
            refine s_ifY S615 (hb hby at_144) (by decide) (by decide) (pcT := 168) (by decide) ?_
            refine s_iload S615 (hb hby at_168) rfl (pc' := 170) rfl ?_
            refine s_iconst S615 (hb hby at_170) (v := (1 : Int32)) rfl (pc' := 171) rfl ?_
            refine s_icmpY S615 (hb hby at_171) (by decide) (by decide) (pcT := 195) (by decide) ?_
            refine s_aload S615 (hb hby at_195) rfl rfl (pc' := 197) rfl ?_
            refine s_iload S615 (hb hby at_197) rfl (pc' := 199) rfl ?_
            refine s_iload S615 (hb hby at_199) rfl (pc' := 201) rfl ?_
            refine s_iload S615 (hb hby at_201) rfl (pc' := 203) rfl ?_
            show Go p e below _ (T615.setTop (mkF m 203 #[.val (.int p0), .val (.int q0), .val (.int p1), .val (.int q1), .val (.int qx), .val (.int k_), .val (.int (2 : Int32)), .val (.int (2 : Int32)), .val (.ref b571), .val (.ref b576), .val (.int qp616), .val (.int qq618), .val (.int (0 : Int32))] [(.int qq618), (.int qp616), (.int (2 : Int32)), (.ref b571)]))
            refine g_virtual S615 (rmIA221 X S615.old E9 Fb9 Fn9 V9) (fun _ q => nomatch q) (w35 hw) (w36 hw) (w38 hw) (w37 hw) (w2 hw) (w39 hw) (by decide) (fun _ h => notFace_of_selects h) (hb hby at_203) (by rw [hml]; rfl) b571 E9 [(.int (2 : Int32)), (.int qp616), (.int qq618)] (lenOf pd18 rfl) rfl rfl (Nat.le_of_ble_eq_true rfl) (Nat.le_of_ble_eq_true rfl) (Nat.le_of_ble_eq_true rfl) (Nat.le_of_ble_eq_true rfl) ?_
            intro v636 T636 V636 h636 S636 C636 q636
            obtain ⟨rfl, rfl⟩ := q636
            show Go p e below _ (T636.setTop (mkF m 206 #[.val (.int p0), .val (.int q0), .val (.int p1), .val (.int q1), .val (.int qx), .val (.int k_), .val (.int (2 : Int32)), .val (.int (2 : Int32)), .val (.ref b571), .val (.ref b576), .val (.int qp616), .val (.int qq618), .val (.int (0 : Int32))] [(.int (0 : Int32))]))
            refine s_iload S636 (hb hby at_206) rfl (pc' := 208) rfl ?_
            refine s_icmpN S636 (hb hby at_208) (by decide) (pc' := 211) rfl ?_
            refine s_iconst S636 (hb hby at_211) (v := (1 : Int32)) rfl (pc' := 212) rfl ?_
            refine s_goto S636 (hb hby at_212) (by decide) (pcT := 216) (by decide) ?_
            exact g_iretN S636 (hb hby at_216) hret (by simp) ⟨rfl, trivial⟩
          · skip
            show Go p e below _ (T615.setTop (mkF m 139 #[.val (.int p0), .val (.int q0), .val (.int p1), .val (.int q1), .val (.int qx), .val (.int k_), .val (.int (2 : Int32)), .val (.int (3 : Int32)), .val (.ref b571), .val (.ref b576), .val (.int qp616), .val (.int qq618), .unset] []))
            refine s_iconst S615 (hb hby at_139) (v := (0 : Int32)) rfl (pc' := 140) rfl ?_
            refine s_istore S615 (hb hby at_140) (L' := #[.val (.int p0), .val (.int q0), .val (.int p1), .val (.int q1), .val (.int qx), .val (.int k_), .val (.int (2 : Int32)), .val (.int (3 : Int32)), .val (.ref b571), .val (.ref b576), .val (.int qp616), .val (.int qq618), .val (.int (0 : Int32))]) rfl (pc' := 142) rfl ?_
            refine s_iload S615 (hb hby at_142) rfl (pc' := 144) rfl ?_
            refine s_ifY S615 (hb hby at_144) (by decide) (by decide) (pcT := 168) (by decide) ?_
            refine s_iload S615 (hb hby at_168) rfl (pc' := 170) rfl ?_
            refine s_iconst S615 (hb hby at_170) (v := (1 : Int32)) rfl (pc' := 171) rfl ?_
            refine s_icmpY S615 (hb hby at_171) (by decide) (by decide) (pcT := 195) (by decide) ?_
            refine s_aload S615 (hb hby at_195) rfl rfl (pc' := 197) rfl ?_
            refine s_iload S615 (hb hby at_197) rfl (pc' := 199) rfl ?_
            refine s_iload S615 (hb hby at_199) rfl (pc' := 201) rfl ?_
            refine s_iload S615 (hb hby at_201) rfl (pc' := 203) rfl ?_
            show Go p e below _ (T615.setTop (mkF m 203 #[.val (.int p0), .val (.int q0), .val (.int p1), .val (.int q1), .val (.int qx), .val (.int k_), .val (.int (2 : Int32)), .val (.int (3 : Int32)), .val (.ref b571), .val (.ref b576), .val (.int qp616), .val (.int qq618), .val (.int (0 : Int32))] [(.int qq618), (.int qp616), (.int (3 : Int32)), (.ref b571)]))
            refine g_virtual S615 (rmIA231 X S615.old E9 Fb9 Fn9 V9) (fun _ q => nomatch q) (w35 hw) (w36 hw) (w38 hw) (w37 hw) (w2 hw) (w39 hw) (by decide) (fun _ h => notFace_of_selects h) (hb hby at_203) (by rw [hml]; rfl) b571 E9 [(.int (3 : Int32)), (.int qp616), (.int qq618)] (lenOf pd18 rfl) rfl rfl (Nat.le_of_ble_eq_true rfl) (Nat.le_of_ble_eq_true rfl) (Nat.le_of_ble_eq_true rfl) (Nat.le_of_ble_eq_true rfl) ?_
            intro v637 T637 V637 h637 S637 C637 q637
            obtain ⟨rfl, rfl⟩ := q637
            show Go p e below _ (T637.setTop (mkF m 206 #[.val (.int p0), .val (.int q0), .val (.int p1), .val (.int q1), .val (.int qx), .val (.int k_), .val (.int (2 : Int32)), .val (.int (3 : Int32)), .val (.ref b571), .val (.ref b576), .val (.int qp616), .val (.int qq618), .val (.int (0 : Int32))] [(.int (0 : Int32))]))
            refine s_iload S637 (hb hby at_206) rfl (pc' := 208) rfl ?_
            refine s_icmpN S637 (hb hby at_208) (by decide) (pc' := 211) rfl ?_
            refine s_iconst S637 (hb hby at_211) (v := (1 : Int32)) rfl (pc' := 212) rfl ?_
            refine s_goto S637 (hb hby at_212) (by decide) (pcT := 216) (by decide) ?_
            exact g_iretN S637 (hb hby at_216) hret (by simp) ⟨rfl, trivial⟩
        refine s_iload S615 (hb hby at_110) rfl (pc' := 112) rfl ?_
        refine s_bipush S615 (hb hby at_112) (v := (64 : Int32)) rfl (pc' := 114) rfl ?_
        refine s_iand S615 (hb hby at_114) (z := (k_ &&& (64 : Int32))) rfl (pc' := 115) rfl ?_
        refine g_if S615 (hb hby at_115) (by decide) (pcT := 123) (by decide) (fun q => ?_) (fun q => ?_)
        · have hc115_638 : (k_ &&& (64 : Int32)) = (0 : Int32) := icT_eq q
          show Go p e below _ (T615.setTop (mkF m 123 #[.val (.int p0), .val (.int q0), .val (.int p1), .val (.int q1), .val (.int qx), .val (.int k_), .val (.int (2 : Int32)), .val (.int aa570), .val (.ref b571), .val (.ref b576), .val (.int qp616), .unset, .unset] []))
          refine s_iload S615 (hb hby at_123) rfl (pc' := 125) rfl ?_
          refine s_sipush S615 (hb hby at_125) (v := (128 : Int32)) rfl (pc' := 128) rfl ?_
          refine s_iand S615 (hb hby at_128) (z := (k_ &&& (128 : Int32))) rfl (pc' := 129) rfl ?_
          refine g_if S615 (hb hby at_129) (by decide) (pcT := 136) (by decide) (fun q => ?_) (fun q => ?_)
          · have hc129_639 : (k_ &&& (128 : Int32)) = (0 : Int32) := icT_eq q
            show Go p e below _ (T615.setTop (mkF m 136 #[.val (.int p0), .val (.int q0), .val (.int p1), .val (.int q1), .val (.int qx), .val (.int k_), .val (.int (2 : Int32)), .val (.int aa570), .val (.ref b571), .val (.ref b576), .val (.int qp616), .unset, .unset] []))
            refine s_iloadN S615 (hb hby at_136) rfl (pc' := 137) rfl ?_
            exact K619 _
          · have hc129_639 : ¬ (k_ &&& (128 : Int32)) = (0 : Int32) := icF_eq q
            show Go p e below _ (T615.setTop (mkF m 132 #[.val (.int p0), .val (.int q0), .val (.int p1), .val (.int q1), .val (.int qx), .val (.int k_), .val (.int (2 : Int32)), .val (.int aa570), .val (.ref b571), .val (.ref b576), .val (.int qp616), .unset, .unset] []))
            refine s_iloadN S615 (hb hby at_132) rfl (pc' := 133) rfl ?_
            refine s_goto S615 (hb hby at_133) (by decide) (pcT := 137) (by decide) ?_
            exact K619 _
        · have hc115_638 : ¬ (k_ &&& (64 : Int32)) = (0 : Int32) := icF_eq q
          show Go p e below _ (T615.setTop (mkF m 118 #[.val (.int p0), .val (.int q0), .val (.int p1), .val (.int q1), .val (.int qx), .val (.int k_), .val (.int (2 : Int32)), .val (.int aa570), .val (.ref b571), .val (.ref b576), .val (.int qp616), .unset, .unset] []))
          refine s_iload S615 (hb hby at_118) rfl (pc' := 120) rfl ?_
          refine s_goto S615 (hb hby at_120) (by decide) (pcT := 137) (by decide) ?_
          exact K619 _
      refine s_iload S615 (hb hby at_82) rfl (pc' := 84) rfl ?_
      refine s_bipush S615 (hb hby at_84) (v := (16 : Int32)) rfl (pc' := 86) rfl ?_
      refine s_iand S615 (hb hby at_86) (z := (k_ &&& (16 : Int32))) rfl (pc' := 87) rfl ?_
      refine g_if S615 (hb hby at_87) (by decide) (pcT := 95) (by decide) (fun q => ?_) (fun q => ?_)
      · have hc87_640 : (k_ &&& (16 : Int32)) = (0 : Int32) := icT_eq q
        show Go p e below _ (T615.setTop (mkF m 95 #[.val (.int p0), .val (.int q0), .val (.int p1), .val (.int q1), .val (.int qx), .val (.int k_), .val (.int (2 : Int32)), .val (.int aa570), .val (.ref b571), .val (.ref b576), .unset, .unset, .unset] []))
        refine s_iload S615 (hb hby at_95) rfl (pc' := 97) rfl ?_
        refine s_bipush S615 (hb hby at_97) (v := (32 : Int32)) rfl (pc' := 99) rfl ?_
        refine s_iand S615 (hb hby at_99) (z := (k_ &&& (32 : Int32))) rfl (pc' := 100) rfl ?_
        refine g_if S615 (hb hby at_100) (by decide) (pcT := 107) (by decide) (fun q => ?_) (fun q => ?_)
        · have hc100_641 : (k_ &&& (32 : Int32)) = (0 : Int32) := icT_eq q
          show Go p e below _ (T615.setTop (mkF m 107 #[.val (.int p0), .val (.int q0), .val (.int p1), .val (.int q1), .val (.int qx), .val (.int k_), .val (.int (2 : Int32)), .val (.int aa570), .val (.ref b571), .val (.ref b576), .unset, .unset, .unset] []))
          refine s_iloadN S615 (hb hby at_107) rfl (pc' := 108) rfl ?_
          exact K617 _
        · have hc100_641 : ¬ (k_ &&& (32 : Int32)) = (0 : Int32) := icF_eq q
          show Go p e below _ (T615.setTop (mkF m 103 #[.val (.int p0), .val (.int q0), .val (.int p1), .val (.int q1), .val (.int qx), .val (.int k_), .val (.int (2 : Int32)), .val (.int aa570), .val (.ref b571), .val (.ref b576), .unset, .unset, .unset] []))
          refine s_iloadN S615 (hb hby at_103) rfl (pc' := 104) rfl ?_
          refine s_goto S615 (hb hby at_104) (by decide) (pcT := 108) (by decide) ?_
          exact K617 _
      · have hc87_640 : ¬ (k_ &&& (16 : Int32)) = (0 : Int32) := icF_eq q
        show Go p e below _ (T615.setTop (mkF m 90 #[.val (.int p0), .val (.int q0), .val (.int p1), .val (.int q1), .val (.int qx), .val (.int k_), .val (.int (2 : Int32)), .val (.int aa570), .val (.ref b571), .val (.ref b576), .unset, .unset, .unset] []))
        refine s_iload S615 (hb hby at_90) rfl (pc' := 92) rfl ?_
        refine s_goto S615 (hb hby at_92) (by decide) (pcT := 108) (by decide) ?_
        exact K617 _
set_option maxRecDepth 65536 in
set_option maxHeartbeats 40000000 in
theorem comes_1 {Post : Tables → Env → Array Value → State → Outcome → State → Prop} (hpost : ∀ tb e args s v u, (limb_1_1.after args s (.returned v) u = true ∧ limb_1_2.after args s (.returned v) u = true) → FramedW s (.returned v) u (Jvm.fieldLocs frame_1_writes args s ++ Jvm.arrayLocs frame_1_arrays args s ++ Jvm.staticLocs frame_1_statics s) 32 1344 → Post tb e args s (.returned v) u) :
    ArmFor flags0 classFile x code maxLocals ret World_1 tables_1 room_1 Calls_1 rest_1 Pre_1 Post := by
  intro l hfl _ _ p e ha hc hk s m args below hf hA hF happ hP
  obtain ⟨hcalls, hrest, hpre⟩ := hP
  obtain ⟨-, -, -, hnamed, -, -, -, hat⟩ := (Spec.applies_iff hf).mp happ
  obtain ⟨hg, hn⟩ := and_e (Cond.before_iff.mp (show (Jvm.Cond.and given_1 narrow_1).before args s = true from hpre))
  obtain ⟨hcount, hgiven⟩ := and_e hg
  obtain ⟨hg0, hr0⟩ := and_e hgiven
  obtain ⟨hg1, hr1⟩ := and_e hr0
  obtain ⟨hg2, hr2⟩ := and_e hr1
  obtain ⟨hg3, hr3⟩ := and_e hr2
  obtain ⟨hg4, hr4⟩ := and_e hr3
  obtain ⟨wa, wb, wc, wd, we, wf, rfl⟩ : ∃ wa wb wc wd we wf : Value, args = #[wa, wb, wc, wd, we, wf] := by
    have hs : args.size = 6 := by simpa [Cond.value, given_1] using hcount
    obtain ⟨L⟩ := args
    match L, hs with
    | [wa, wb, wc, wd, we, wf], _ => exact ⟨wa, wb, wc, wd, we, wf, rfl⟩
  have hw : HW _ s := fun d (hd : d ∈ tables_1) => atoms_spec (ws := Jvm.Cond.code x code maxLocals ret :: tables_1) hat d (List.mem_cons_of_mem _ hd)
  obtain ⟨hsets, hown0⟩ := atoms_of _ (rest_1_c_eq ▸ (show rest_1_c.before _ s = true from hrest))
  obtain ⟨i0, ei0⟩ := is_v hg0
  obtain rfl : wa = (.int i0) := Option.some.inj ei0
  obtain ⟨i1, ei1⟩ := is_v hg1
  obtain rfl : wb = (.int i1) := Option.some.inj ei1
  obtain ⟨i2, ei2⟩ := is_v hg2
  obtain rfl : wc = (.int i2) := Option.some.inj ei2
  obtain ⟨i3, ei3⟩ := is_v hg3
  obtain rfl : wd = (.int i3) := Option.some.inj ei3
  obtain ⟨i4, ei4⟩ := is_v hg4
  obtain rfl : we = (.int i4) := Option.some.inj ei4
  obtain ⟨i5, ei5⟩ := is_v hr4
  obtain rfl : wf = (.int i5) := Option.some.inj ei5
  obtain ⟨z1, ez1⟩ := is_v (Cond.before_iff.mp (hsets _ (List.mem_of_getElem? (i := 1) rfl)))
  have Sz1 : Sta s s.heap "java/lang/String" "COMPACT_STRINGS" "Z" (.int z1) := Sta.start ez1 (Or.inl (hsets _ (List.mem_of_getElem? (i := 0) rfl)))
  obtain ⟨v2, ev2, rv2⟩ := isR_v (Cond.before_iff.mp (hsets _ (List.mem_of_getElem? (i := 8) rfl)))
  have Sv2 : Sta s s.heap "jdk/internal/util/Preconditions" "SIOOBE_FORMATTER" "Ljava/util/function/BiFunction;" v2 := Sta.start ev2 (Or.inl (hsets _ (List.mem_of_getElem? (i := 7) rfl)))
  have cz1 : ¬ (z1 = (0 : Int32)) := gotF (Cond.eq_ints ez1 (Term.int_eval (0))) (not_v (Cond.before_iff.mp (hsets _ (List.mem_of_getElem? (i := 2) rfl))))
  have hEW : EW s _ EL1 := (EW.cons (hw _ (List.mem_of_getElem? (i := 108) rfl)) (by decide +kernel) EW.nil)
  have hCH : CHv s EL1 s.vm s.heap := CHv.start hEW (fun q hq => hcalls.1 q ((by decide : ∀ q ∈ EL1, q ∈ consts_1) q hq)) (hsets _ (List.mem_of_getElem? (i := 2) rfl)) (w24 hw) (w109 hw)
  have hfit : Fit s := fun {y c} hc i hi => by
    obtain ⟨ha, rfl⟩ := Array.getElem?_eq_some_iff.mp hc
    have q := List.all_eq_true.mp ((Array.all_eq_true_iff_forall_mem.mp hF) _ (Array.getElem_mem ha)) i (List.mem_range.mpr hi)
    simpa [Array.getElem?_eq_getElem hi] using q
  obtain ⟨v3, ev3, rv3⟩ := static_fit hfit (w59 hw) (ty := .object "java/util/function/BiFunction") (by decide)
  have Sv3 : Sta s s.heap "jdk/internal/util/Preconditions" "IOOBE_FORMATTER" "Ljava/util/function/BiFunction;" v3 := Sta.start ev3 (Or.inr ⟨(w58 hw), w59 hw⟩)
  have X : Ctx s _ := ⟨hw, hEW, ⟨z1, Sz1, cz1⟩, v3, Sv3, fit_R rv3 rfl⟩
  obtain ⟨n, o, h1, h2, h3, v, L, rfl, ⟨⟨rfl, -⟩, N, -⟩, -, hq⟩ := rmL (l := l) X i0 i1 i2 i3 i4 i5 (Old.start s) tables_1 p e ha hc hk s m _ below hf ((Spec.applies_iff_loose hf).mp happ).1 ⟨rfl, State.Warmed39.refl s, rfl, hCH, fun _ q => nomatch q⟩ trivial
  refine ⟨n, _, h1, h2, h3, hpost _ _ _ _ _ _ ⟨Cond.after_iff.mpr rfl, Cond.after_iff.mpr (eq_i res_at (Term.int_eval (1)) rfl)⟩ ⟨hq.1, hq.2.1, hq.2.2.1, (hq.2.2.2.sift fun y hy => Or.inr (N y hy)).mono (by decide) (by decide)⟩⟩
theorem main_1_1 : Claimed_1_1 := comes_1 fun _ _ _ _ _ _ h hF => ⟨h.1, hF⟩
theorem main_1_2 : Claimed_1_2 := comes_1 fun _ _ _ _ _ _ h hF => ⟨h.2, hF⟩
end Jvm.Pilot.@@N@@
namespace Jvm.Pilot.@@N@@
open Jvm Jvm.ClassFile Sem Op Lib Jvm.Free Jvm.Stand Jvm.Pilot.@@N@@.Jvm.D
/-! MADE BY PROGRAM (witnessworld.py) out of the Statement's table words and the real class files: 25 classes; the members and pool entries that the words name. The judged class is class 1, her method 1. -/
namespace start1
open Jvm.ClassFile
def u (s : String) : CpInfo := .utf8 (stringToUtf16 s)
/-- a pool by its gaps: so many unusable entries, then the entry; so many at the end -/
def gap : Nat → List CpInfo → List CpInfo
  | 0, r => r
  | n + 1, r => .unusable :: gap n r
def poolList (es : List (Nat × CpInfo)) (last : Nat) : List CpInfo := es.foldr (fun e r => gap e.1 (e.2 :: r)) (gap last [])
def pool (es : List (Nat × CpInfo)) (last : Nat) : Array CpInfo := ⟨poolList es last⟩
def fileOf (pool : Array CpInfo) (this : Nat) (attrs : Array Attribute := #[]) (ms : Array MethodInfo := #[]) (fl : Nat := 33) (sup : Nat := 0) (ifs : Array Nat := #[]) (fds : Array FieldInfo := #[]) : ClassFile where
  minorVersion := 0
  majorVersion := 65
  constantPool := pool
  accessFlags := fl
  thisClass := this
  superClass := sup
  interfaces := ifs
  fields := fds
  methods := ms
  attributes := attrs
def plain (name : String) (sup : Option ClassId) : Class where
  name := name
  kind := .ordinary
  loader := none
  accessFlags := 33
  super := sup
  interfaces := #[]
  cf := none
  fields := #[]
  methods := #[]
  instanceTypes := #[]
  staticTypes := #[]
  resolved := #[]
  callSites := []
  init := .initialized
  statics := none
  mirror := none

def pool0 : Array CpInfo := pool [(5, u "<init>"), (0, u "()V"), (1, .class_ 10), (1, u "java/lang/Object"), (85, u "clone"), (0, u "()Ljava/lang/Object;")] 26

def k0c0 : Code := { maxStack := 0, maxLocals := 1, code := object_method_1_code, exceptionTable := #[], attributes := #[] }
def k0m0 : Method := { name := "<init>", desc := "()V", sig := { parameters := [], returnType := none }, accessFlags := 1, code := some k0c0 }
def k0m1 : Method := { name := "clone", desc := "()Ljava/lang/Object;", sig := { parameters := [], returnType := some (.object "java/lang/Object") }, accessFlags := 260, code := none }
/-- java/lang/Object -/
def k0 : Class := { plain "java/lang/Object" none with
  accessFlags := 33
  interfaces := #[]
  cf := some (fileOf pool0 8 #[] #[{ accessFlags := 1, nameIndex := 5, descriptorIndex := 6, attributes := #[] }, { accessFlags := 260, nameIndex := 96, descriptorIndex := 97, attributes := #[] }] 33 0 #[] #[])
  fields := #[]
  methods := #[k0m0, k0m1]
  instanceTypes := #[]
  staticTypes := #[]
  resolved := Array.replicate 124 none
  statics := none }

def pool1 : Array CpInfo := pool [(2, .class_ 4), (0, .nameAndType 5 6), (0, u "java/lang/Object"), (0, u "<init>"), (0, u "()V"), (0, .class_ 8), (0, u "com/example/nodewarden/nodewarden/core/Asides"), (0, .methodref 7 3), (0, .methodref 7 11), (0, .nameAndType 12 13), (0, u "addComment"), (0, u "(III[CII)V"), (0, .string 15), (0, u ""), (0, .methodref 7 17), (0, .nameAndType 18 19), (0, u "addInstruction"), (0, u "(IIILjava/lang/String;Ljava/lang/String;)V"), (0, .methodref 7 21), (0, .nameAndType 22 6), (0, u "close"), (0, .methodref 7 24), (0, .nameAndType 25 26), (0, u "isAt"), (0, u "(III)Z"), (0, .class_ 28), (0, u "com/example/nodewarden/nodewarden/core/AsidesIsAtPinLaw"), (2, u "law"), (0, u "(IIIIII)Z")] 5

def k1m0 : Method := { name := "<init>", desc := "()V", sig := { parameters := [], returnType := none }, accessFlags := 1, code := none }
def k1c1 : Code := { maxStack := 7, maxLocals := 13, code := code, exceptionTable := #[], attributes := #[] }
def k1m1 : Method := { name := "law", desc := "(IIIIII)Z", sig := { parameters := [.int, .int, .int, .int, .int, .int], returnType := some .boolean }, accessFlags := 9, code := some k1c1 }
/-- com/example/nodewarden/nodewarden/core/AsidesIsAtPinLaw -/
def k1 : Class := { plain "com/example/nodewarden/nodewarden/core/AsidesIsAtPinLaw" (some 0) with
  accessFlags := 49
  interfaces := #[]
  cf := some (fileOf pool1 27 #[] #[{ accessFlags := 1, nameIndex := 5, descriptorIndex := 6, attributes := #[] }, { accessFlags := 9, nameIndex := 31, descriptorIndex := 32, attributes := #[] }] 49 2 #[] #[])
  fields := #[]
  methods := #[k1m0, k1m1]
  instanceTypes := #[]
  staticTypes := #[]
  resolved := Array.replicate 38 none
  statics := none }

def pool2 : Array CpInfo := pool [(1, .methodref 2 3), (0, .class_ 4), (0, .nameAndType 5 6), (0, u "java/lang/Object"), (0, u "<init>"), (0, u "()V"), (0, .class_ 8), (0, u "java/lang/StringBuilder"), (0, .methodref 7 3), (0, .fieldref 11 12), (0, .class_ 13), (0, .nameAndType 14 15), (0, u "com/example/nodewarden/nodewarden/core/Asides"), (0, u "text"), (0, u "Ljava/lang/StringBuilder;"), (0, .fieldref 11 17), (0, .nameAndType 18 19), (0, u "table"), (0, u "[I"), (0, .methodref 7 21), (0, .nameAndType 22 23), (0, u "append"), (0, u "([CII)Ljava/lang/StringBuilder;"), (0, .methodref 11 25), (0, .nameAndType 26 27), (0, u "add"), (0, u "(IIII)V"), (0, .methodref 7 29), (0, .nameAndType 22 30), (0, u "(Ljava/lang/String;)Ljava/lang/StringBuilder;"), (0, .methodref 7 32), (0, .nameAndType 33 34), (0, u "length"), (0, u "()I"), (0, .methodref 7 36), (0, .nameAndType 37 6), (0, u "trimToSize"), (0, .fieldref 11 39), (0, .nameAndType 40 41), (0, u "count"), (0, u "I"), (0, .methodref 43 44), (0, .class_ 45), (0, .nameAndType 46 47), (0, u "java/util/Arrays"), (0, u "copyOf"), (0, u "([II)[I"), (8, .methodref 57 58), (0, .class_ 59), (0, .nameAndType 60 61), (0, u "java/lang/Math"), (0, u "max"), (0, u "(II)I"), (3, u "NONE"), (0, u "Lcom/example/nodewarden/nodewarden/core/Asides;"), (0, u "DOCUMENT"), (2, u "BEFORE_DOCTYPE"), (1, u "BEFORE_ROOT"), (1, u "AFTER_ROOT"), (1, u "FIELDS"), (1, u "PARENT"), (0, u "PIECE"), (0, u "OFFSET"), (0, u "DATA"), (1, u "END"), (3, u "addComment"), (0, u "(III[CII)V"), (0, u "addInstruction"), (0, u "(IIILjava/lang/String;Ljava/lang/String;)V"), (0, u "close"), (0, u "isAt"), (0, u "(III)Z")] 13

def k2c0 : Code := { maxStack := 3, maxLocals := 1, code := prog_3_method_1_code, exceptionTable := #[], attributes := #[] }
def k2m0 : Method := { name := "<init>", desc := "()V", sig := { parameters := [], returnType := none }, accessFlags := 0, code := some k2c0 }
def k2c1 : Code := { maxStack := 5, maxLocals := 7, code := prog_3_method_2_code, exceptionTable := #[], attributes := #[] }
def k2m1 : Method := { name := "addComment", desc := "(III[CII)V", sig := { parameters := [.int, .int, .int, (.array .char), .int, .int], returnType := none }, accessFlags := 0, code := some k2c1 }
def k2c2 : Code := { maxStack := 5, maxLocals := 7, code := prog_3_method_3_code, exceptionTable := #[], attributes := #[] }
def k2m2 : Method := { name := "addInstruction", desc := "(IIILjava/lang/String;Ljava/lang/String;)V", sig := { parameters := [.int, .int, .int, (.object "java/lang/String"), (.object "java/lang/String")], returnType := none }, accessFlags := 0, code := some k2c2 }
def k2c3 : Code := { maxStack := 4, maxLocals := 1, code := prog_3_method_4_code, exceptionTable := #[], attributes := #[] }
def k2m3 : Method := { name := "close", desc := "()V", sig := { parameters := [], returnType := none }, accessFlags := 0, code := some k2c3 }
def k2c4 : Code := { maxStack := 3, maxLocals := 4, code := prog_3_method_5_code, exceptionTable := #[], attributes := #[] }
def k2m4 : Method := { name := "isAt", desc := "(III)Z", sig := { parameters := [.int, .int, .int], returnType := some .boolean }, accessFlags := 0, code := some k2c4 }
def k2c5 : Code := { maxStack := 5, maxLocals := 6, code := prog_3_method_13_code, exceptionTable := #[], attributes := #[] }
def k2m5 : Method := { name := "add", desc := "(IIII)V", sig := { parameters := [.int, .int, .int, .int], returnType := none }, accessFlags := 2, code := some k2c5 }
/-- com/example/nodewarden/nodewarden/core/Asides -/
def k2 : Class := { plain "com/example/nodewarden/nodewarden/core/Asides" (some 0) with
  accessFlags := 32
  interfaces := #[]
  cf := some (fileOf pool2 11 #[] #[{ accessFlags := 0, nameIndex := 5, descriptorIndex := 6, attributes := #[] }, { accessFlags := 0, nameIndex := 87, descriptorIndex := 88, attributes := #[] }, { accessFlags := 0, nameIndex := 89, descriptorIndex := 90, attributes := #[] }, { accessFlags := 0, nameIndex := 91, descriptorIndex := 6, attributes := #[] }, { accessFlags := 0, nameIndex := 92, descriptorIndex := 93, attributes := #[] }, { accessFlags := 2, nameIndex := 26, descriptorIndex := 27, attributes := #[] }] 32 2 #[] #[{ accessFlags := 24, nameIndex := 67, descriptorIndex := 41, attributes := #[] }, { accessFlags := 24, nameIndex := 70, descriptorIndex := 41, attributes := #[] }, { accessFlags := 24, nameIndex := 72, descriptorIndex := 41, attributes := #[] }, { accessFlags := 24, nameIndex := 74, descriptorIndex := 41, attributes := #[] }, { accessFlags := 24, nameIndex := 65, descriptorIndex := 66, attributes := #[] }, { accessFlags := 26, nameIndex := 76, descriptorIndex := 41, attributes := #[] }, { accessFlags := 26, nameIndex := 78, descriptorIndex := 41, attributes := #[] }, { accessFlags := 26, nameIndex := 79, descriptorIndex := 41, attributes := #[] }, { accessFlags := 26, nameIndex := 80, descriptorIndex := 41, attributes := #[] }, { accessFlags := 26, nameIndex := 81, descriptorIndex := 41, attributes := #[] }, { accessFlags := 26, nameIndex := 83, descriptorIndex := 41, attributes := #[] }, { accessFlags := 18, nameIndex := 14, descriptorIndex := 15, attributes := #[] }, { accessFlags := 2, nameIndex := 18, descriptorIndex := 19, attributes := #[] }, { accessFlags := 2, nameIndex := 40, descriptorIndex := 41, attributes := #[] }])
  fields := #[{ name := "DOCUMENT", type := .int, accessFlags := 24, slot := 0, constantValue := 0 }, { name := "BEFORE_DOCTYPE", type := .int, accessFlags := 24, slot := 1, constantValue := 0 }, { name := "BEFORE_ROOT", type := .int, accessFlags := 24, slot := 2, constantValue := 0 }, { name := "AFTER_ROOT", type := .int, accessFlags := 24, slot := 3, constantValue := 0 }, { name := "NONE", type := (.object "com/example/nodewarden/nodewarden/core/Asides"), accessFlags := 24, slot := 4, constantValue := 0 }, { name := "FIELDS", type := .int, accessFlags := 26, slot := 5, constantValue := 0 }, { name := "PARENT", type := .int, accessFlags := 26, slot := 6, constantValue := 0 }, { name := "PIECE", type := .int, accessFlags := 26, slot := 7, constantValue := 0 }, { name := "OFFSET", type := .int, accessFlags := 26, slot := 8, constantValue := 0 }, { name := "DATA", type := .int, accessFlags := 26, slot := 9, constantValue := 0 }, { name := "END", type := .int, accessFlags := 26, slot := 10, constantValue := 0 }, { name := "text", type := (.object "java/lang/StringBuilder"), accessFlags := 18, slot := 0, constantValue := 0 }, { name := "table", type := (.array .int), accessFlags := 2, slot := 1, constantValue := 0 }, { name := "count", type := .int, accessFlags := 2, slot := 2, constantValue := 0 }]
  methods := #[k2m0, k2m1, k2m2, k2m3, k2m4, k2m5]
  instanceTypes := #[(.object "java/lang/StringBuilder"), (.array .int), .int]
  staticTypes := #[.int, .int, .int, .int, (.object "com/example/nodewarden/nodewarden/core/Asides"), .int, .int, .int, .int, .int, .int]
  resolved := Array.replicate 107 none
  statics := none }

def pool3 : Array CpInfo := pool [(1, .class_ 2), (0, u "java/lang/Appendable"), (0, .class_ 4), (0, u "java/lang/Object")] 9

/-- java/lang/Appendable -/
def k3 : Class := { plain "java/lang/Appendable" (some 0) with
  accessFlags := 1537
  interfaces := #[]
  cf := some (fileOf pool3 1 #[] #[] 1537 3 #[] #[])
  fields := #[]
  methods := #[]
  instanceTypes := #[]
  staticTypes := #[]
  resolved := Array.replicate 14 none
  statics := none }

def pool4 : Array CpInfo := pool [(2, .class_ 4), (1, u "java/lang/CharSequence"), (42, .class_ 48), (0, u "java/lang/CharSequence$1CodePointIterator"), (10, .class_ 60), (0, u "java/lang/CharSequence$1CharIterator"), (5, .class_ 67), (0, u "java/lang/Object")] 63

/-- java/lang/CharSequence -/
def k4 : Class := { plain "java/lang/CharSequence" (some 0) with
  accessFlags := 1537
  interfaces := #[]
  cf := some (fileOf pool4 2 #[.nestMembers #[47, 59]] #[] 1537 66 #[] #[])
  fields := #[]
  methods := #[]
  instanceTypes := #[]
  staticTypes := #[]
  resolved := Array.replicate 131 none
  statics := none }

def pool5 : Array CpInfo := pool [(1, .class_ 2), (0, u "java/lang/String"), (0, .methodref 4 5), (0, .class_ 6), (0, .nameAndType 7 8), (0, u "java/lang/Object"), (0, u "<init>"), (0, u "()V"), (1, .class_ 12), (1, u "java/lang/AbstractStringBuilder"), (0, u "EMPTYVALUE"), (0, u "[B"), (0, .fieldref 10 16), (0, .nameAndType 17 14), (0, u "value"), (0, .fieldref 1 19), (0, .nameAndType 20 21), (0, u "COMPACT_STRINGS"), (0, u "Z"), (0, .fieldref 10 23), (0, .nameAndType 24 25), (0, u "coder"), (0, u "B"), (6, .methodref 1 33), (0, .nameAndType 34 35), (0, u "length"), (0, u "()I"), (4, .methodref 1 41), (0, .nameAndType 24 42), (0, u "()B"), (2, u "append"), (0, u "(Ljava/lang/String;)Ljava/lang/AbstractStringBuilder;"), (1, .class_ 49), (0, u "java/lang/CharSequence"), (19, u "(Ljava/lang/String;)V"), (5, u "maybeLatin1"), (3, .fieldref 10 80), (0, .nameAndType 81 82), (0, u "count"), (0, u "I"), (0, .methodref 10 84), (0, .nameAndType 85 86), (0, u "isLatin1"), (0, u "()Z"), (13, .methodref 10 101), (0, .nameAndType 102 103), (0, u "ensureCapacityInternal"), (0, u "(I)V"), (4, .methodref 109 110), (0, .class_ 111), (0, .nameAndType 112 113), (0, u "java/util/Arrays"), (0, u "copyOf"), (0, u "([BI)[B"), (47, .methodref 162 163), (0, .class_ 164), (0, .nameAndType 165 166), (0, u "jdk/internal/util/Preconditions"), (0, u "checkFromToIndex"), (0, u "(IIILjava/util/function/BiFunction;)I"), (15, u "Ljava/util/function/BiFunction;"), (0, .fieldref 162 184), (0, .nameAndType 185 182), (0, u "IOOBE_FORMATTER"), (22, .methodref 10 209), (0, .nameAndType 210 211), (0, u "putStringAt"), (0, u "(ILjava/lang/String;)V"), (5, u "inflateIfNeededFor"), (2, .nameAndType 221 222), (0, u "getBytes"), (0, u "([BIB)V"), (11, u "appendChars"), (4, .methodref 10 240), (0, .nameAndType 234 241), (0, u "([CII)V"), (155, .methodref 10 398), (0, .nameAndType 217 69), (0, .methodref 1 220), (44, .class_ 445), (0, u "java/lang/Appendable"), (29, u "trimToSize"), (30, u "([CII)Ljava/lang/AbstractStringBuilder;")] 102

def k5m0 : Method := { name := "<init>", desc := "()V", sig := { parameters := [], returnType := none }, accessFlags := 0, code := none }
def k5c1 : Code := { maxStack := 2, maxLocals := 2, code := jdk_68_method_2_code, exceptionTable := #[], attributes := #[] }
def k5m1 : Method := { name := "<init>", desc := "(I)V", sig := { parameters := [.int], returnType := none }, accessFlags := 0, code := some k5c1 }
def k5c2 : Code := { maxStack := 1, maxLocals := 1, code := jdk_68_method_6_code, exceptionTable := #[], attributes := #[] }
def k5m2 : Method := { name := "length", desc := "()I", sig := { parameters := [], returnType := some .int }, accessFlags := 1, code := some k5c2 }
def k5c3 : Code := { maxStack := 4, maxLocals := 3, code := jdk_68_method_9_code, exceptionTable := #[], attributes := #[] }
def k5m3 : Method := { name := "ensureCapacityInternal", desc := "(I)V", sig := { parameters := [.int], returnType := none }, accessFlags := 2, code := some k5c3 }
def k5c4 : Code := { maxStack := 3, maxLocals := 2, code := jdk_68_method_12_code, exceptionTable := #[], attributes := #[] }
def k5m4 : Method := { name := "trimToSize", desc := "()V", sig := { parameters := [], returnType := none }, accessFlags := 1, code := some k5c4 }
def k5c5 : Code := { maxStack := 3, maxLocals := 3, code := jdk_68_method_22_code, exceptionTable := #[], attributes := #[] }
def k5m5 : Method := { name := "append", desc := "(Ljava/lang/String;)Ljava/lang/AbstractStringBuilder;", sig := { parameters := [(.object "java/lang/String")], returnType := some (.object "java/lang/AbstractStringBuilder") }, accessFlags := 1, code := some k5c5 }
def k5c6 : Code := { maxStack := 4, maxLocals := 5, code := jdk_68_method_29_code, exceptionTable := #[], attributes := #[] }
def k5m6 : Method := { name := "append", desc := "([CII)Ljava/lang/AbstractStringBuilder;", sig := { parameters := [(.array .char), .int, .int], returnType := some (.object "java/lang/AbstractStringBuilder") }, accessFlags := 1, code := some k5c6 }
def k5c7 : Code := { maxStack := 1, maxLocals := 1, code := jdk_68_method_68_code, exceptionTable := #[], attributes := #[] }
def k5m7 : Method := { name := "isLatin1", desc := "()Z", sig := { parameters := [], returnType := some .boolean }, accessFlags := 16, code := some k5c7 }
def k5c8 : Code := { maxStack := 2, maxLocals := 2, code := jdk_68_method_71_code, exceptionTable := #[], attributes := #[] }
def k5m8 : Method := { name := "inflateIfNeededFor", desc := "(Ljava/lang/String;)V", sig := { parameters := [(.object "java/lang/String")], returnType := none }, accessFlags := 2, code := some k5c8 }
def k5c9 : Code := { maxStack := 4, maxLocals := 3, code := jdk_68_method_73_code, exceptionTable := #[], attributes := #[] }
def k5m9 : Method := { name := "putStringAt", desc := "(ILjava/lang/String;)V", sig := { parameters := [.int, (.object "java/lang/String")], returnType := none }, accessFlags := 2, code := some k5c9 }
def k5c10 : Code := { maxStack := 5, maxLocals := 9, code := jdk_68_method_74_code, exceptionTable := #[], attributes := #[] }
def k5m10 : Method := { name := "appendChars", desc := "([CII)V", sig := { parameters := [(.array .char), .int, .int], returnType := none }, accessFlags := 18, code := some k5c10 }
/-- java/lang/AbstractStringBuilder -/
def k5 : Class := { plain "java/lang/AbstractStringBuilder" (some 0) with
  accessFlags := 1056
  interfaces := #[3, 4]
  cf := some (fileOf pool5 10 #[] #[{ accessFlags := 0, nameIndex := 7, descriptorIndex := 8, attributes := #[] }, { accessFlags := 0, nameIndex := 7, descriptorIndex := 103, attributes := #[] }, { accessFlags := 1, nameIndex := 34, descriptorIndex := 35, attributes := #[] }, { accessFlags := 2, nameIndex := 102, descriptorIndex := 103, attributes := #[] }, { accessFlags := 1, nameIndex := 475, descriptorIndex := 8, attributes := #[] }, { accessFlags := 1, nameIndex := 45, descriptorIndex := 46, attributes := #[] }, { accessFlags := 1, nameIndex := 45, descriptorIndex := 506, attributes := #[] }, { accessFlags := 16, nameIndex := 85, descriptorIndex := 86, attributes := #[] }, { accessFlags := 2, nameIndex := 217, descriptorIndex := 69, attributes := #[] }, { accessFlags := 2, nameIndex := 210, descriptorIndex := 211, attributes := #[] }, { accessFlags := 18, nameIndex := 234, descriptorIndex := 241, attributes := #[] }] 1056 4 #[444, 48] #[{ accessFlags := 0, nameIndex := 17, descriptorIndex := 14, attributes := #[] }, { accessFlags := 0, nameIndex := 24, descriptorIndex := 25, attributes := #[] }, { accessFlags := 0, nameIndex := 75, descriptorIndex := 21, attributes := #[] }, { accessFlags := 0, nameIndex := 81, descriptorIndex := 82, attributes := #[] }, { accessFlags := 26, nameIndex := 13, descriptorIndex := 14, attributes := #[] }])
  fields := #[{ name := "value", type := (.array .byte), accessFlags := 0, slot := 0, constantValue := 0 }, { name := "coder", type := .byte, accessFlags := 0, slot := 1, constantValue := 0 }, { name := "maybeLatin1", type := .boolean, accessFlags := 0, slot := 2, constantValue := 0 }, { name := "count", type := .int, accessFlags := 0, slot := 3, constantValue := 0 }, { name := "EMPTYVALUE", type := (.array .byte), accessFlags := 26, slot := 0, constantValue := 0 }]
  methods := #[k5m0, k5m1, k5m2, k5m3, k5m4, k5m5, k5m6, k5m7, k5m8, k5m9, k5m10]
  instanceTypes := #[(.array .byte), .byte, .boolean, .int]
  staticTypes := #[(.array .byte)]
  resolved := Array.replicate 609 none
  statics := none }

def pool6 : Array CpInfo := pool [(1, .class_ 2), (0, u "java/io/Serializable"), (0, .class_ 4), (0, u "java/lang/Object")] 2

/-- java/io/Serializable -/
def k6 : Class := { plain "java/io/Serializable" (some 0) with
  accessFlags := 1537
  interfaces := #[]
  cf := some (fileOf pool6 1 #[] #[] 1537 3 #[] #[])
  fields := #[]
  methods := #[]
  instanceTypes := #[]
  staticTypes := #[]
  resolved := Array.replicate 7 none
  statics := none }

def pool7 : Array CpInfo := pool [(1, .class_ 2), (0, u "java/lang/Comparable"), (0, .class_ 4), (0, u "java/lang/Object")] 7

/-- java/lang/Comparable -/
def k7 : Class := { plain "java/lang/Comparable" (some 0) with
  accessFlags := 1537
  interfaces := #[]
  cf := some (fileOf pool7 1 #[] #[] 1537 3 #[] #[])
  fields := #[]
  methods := #[]
  instanceTypes := #[]
  staticTypes := #[]
  resolved := Array.replicate 12 none
  statics := none }

def pool8 : Array CpInfo := pool [(1, .methodref 2 3), (0, .class_ 4), (0, .nameAndType 5 6), (0, u "java/lang/AbstractStringBuilder"), (0, u "<init>"), (0, u "(I)V"), (17, .class_ 26), (1, u "java/lang/StringBuilder"), (0, u "append"), (0, u "(Ljava/lang/String;)Ljava/lang/StringBuilder;"), (0, .methodref 2 30), (0, .nameAndType 27 31), (0, u "(Ljava/lang/String;)Ljava/lang/AbstractStringBuilder;"), (12, .methodref 2 45), (0, .nameAndType 27 46), (0, u "([CII)Ljava/lang/AbstractStringBuilder;"), (98, u "()V"), (10, u "()I"), (135, u "([CII)Ljava/lang/StringBuilder;"), (43, .methodref 2 337), (0, .nameAndType 338 145), (0, u "trimToSize"), (4, .methodref 2 344), (0, .nameAndType 345 156), (0, u "length"), (3, .class_ 350), (0, u "java/lang/Appendable"), (0, .class_ 352), (0, u "java/io/Serializable"), (0, .class_ 354), (0, u "java/lang/Comparable"), (0, .class_ 356), (0, u "java/lang/CharSequence"), (0, u "serialVersionUID"), (0, u "J")] 63

def k8c0 : Code := { maxStack := 2, maxLocals := 1, code := jdk_67_method_1_code, exceptionTable := #[], attributes := #[] }
def k8m0 : Method := { name := "<init>", desc := "()V", sig := { parameters := [], returnType := none }, accessFlags := 1, code := some k8c0 }
def k8c1 : Code := { maxStack := 2, maxLocals := 2, code := jdk_67_method_7_code, exceptionTable := #[], attributes := #[] }
def k8m1 : Method := { name := "append", desc := "(Ljava/lang/String;)Ljava/lang/StringBuilder;", sig := { parameters := [(.object "java/lang/String")], returnType := some (.object "java/lang/StringBuilder") }, accessFlags := 1, code := some k8c1 }
def k8c2 : Code := { maxStack := 4, maxLocals := 4, code := jdk_67_method_12_code, exceptionTable := #[], attributes := #[] }
def k8m2 : Method := { name := "append", desc := "([CII)Ljava/lang/StringBuilder;", sig := { parameters := [(.array .char), .int, .int], returnType := some (.object "java/lang/StringBuilder") }, accessFlags := 1, code := some k8c2 }
def k8c3 : Code := { maxStack := 1, maxLocals := 1, code := jdk_67_method_90_code, exceptionTable := #[], attributes := #[] }
def k8m3 : Method := { name := "trimToSize", desc := "()V", sig := { parameters := [], returnType := none }, accessFlags := 4161, code := some k8c3 }
def k8c4 : Code := { maxStack := 1, maxLocals := 1, code := jdk_67_method_93_code, exceptionTable := #[], attributes := #[] }
def k8m4 : Method := { name := "length", desc := "()I", sig := { parameters := [], returnType := some .int }, accessFlags := 4161, code := some k8c4 }
/-- java/lang/StringBuilder -/
def k8 : Class := { plain "java/lang/StringBuilder" (some 5) with
  accessFlags := 49
  interfaces := #[3, 6, 7, 4]
  cf := some (fileOf pool8 24 #[] #[{ accessFlags := 1, nameIndex := 5, descriptorIndex := 145, attributes := #[] }, { accessFlags := 1, nameIndex := 27, descriptorIndex := 28, attributes := #[] }, { accessFlags := 1, nameIndex := 27, descriptorIndex := 292, attributes := #[] }, { accessFlags := 4161, nameIndex := 338, descriptorIndex := 145, attributes := #[] }, { accessFlags := 4161, nameIndex := 345, descriptorIndex := 156, attributes := #[] }] 49 2 #[349, 351, 353, 355] #[{ accessFlags := 24, nameIndex := 357, descriptorIndex := 358, attributes := #[] }])
  fields := #[{ name := "serialVersionUID", type := .long, accessFlags := 24, slot := 0, constantValue := 0 }]
  methods := #[k8m0, k8m1, k8m2, k8m3, k8m4]
  instanceTypes := #[(.array .byte), .byte, .boolean, .int]
  staticTypes := #[.long]
  resolved := Array.replicate 422 none
  statics := none }

def pool9 : Array CpInfo := pool [(1, .class_ 2), (0, u "java/lang/constant/Constable"), (0, .class_ 4), (0, u "java/lang/Object")] 6

/-- java/lang/constant/Constable -/
def k9 : Class := { plain "java/lang/constant/Constable" (some 0) with
  accessFlags := 1537
  interfaces := #[]
  cf := some (fileOf pool9 1 #[] #[] 1537 3 #[] #[])
  fields := #[]
  methods := #[]
  instanceTypes := #[]
  staticTypes := #[]
  resolved := Array.replicate 11 none
  statics := none }

def pool10 : Array CpInfo := pool [(1, .class_ 2), (0, u "java/lang/constant/ConstantDesc"), (0, .class_ 4), (0, u "java/lang/Object")] 32

/-- java/lang/constant/ConstantDesc -/
def k10 : Class := { plain "java/lang/constant/ConstantDesc" (some 0) with
  accessFlags := 1537
  interfaces := #[]
  cf := some (fileOf pool10 1 #[] #[] 1537 3 #[] #[])
  fields := #[]
  methods := #[]
  instanceTypes := #[]
  staticTypes := #[]
  resolved := Array.replicate 37 none
  statics := none }

def pool11 : Array CpInfo := pool [(2, .class_ 4), (1, u "java/lang/Object"), (0, u "<init>"), (0, u "()V"), (2, .fieldref 10 11), (0, .class_ 12), (0, .nameAndType 13 14), (0, u "java/lang/String"), (0, u "value"), (0, u "[B"), (0, .fieldref 10 16), (0, .nameAndType 17 18), (0, u "coder"), (0, u "B"), (2, u "hash"), (0, u "I"), (2, u "hashIsZero"), (0, u "Z"), (11, .fieldref 10 39), (0, .nameAndType 40 26), (0, u "COMPACT_STRINGS"), (152, .class_ 195), (1, u "java/lang/System"), (16, .methodref 193 213), (0, .nameAndType 214 215), (0, u "arraycopy"), (0, u "(Ljava/lang/Object;ILjava/lang/Object;II)V"), (118, u "()I"), (0, .methodref 10 336), (0, .nameAndType 17 337), (0, u "()B"), (169, u "length"), (24, u "getBytes"), (42, .class_ 576), (0, u "java/lang/CharSequence"), (22, u "CASE_INSENSITIVE_ORDER"), (0, u "Ljava/util/Comparator;"), (220, u "([BIB)V"), (279, u "serialPersistentFields"), (0, u "[Ljava/io/ObjectStreamField;"), (0, .class_ 1104), (0, u "java/lang/String$CaseInsensitiveComparator"), (1, .class_ 1107), (0, u "java/io/Serializable"), (0, .class_ 1109), (0, u "java/lang/Comparable"), (0, .class_ 1111), (0, u "java/lang/constant/Constable"), (0, .class_ 1113), (0, u "java/lang/constant/ConstantDesc"), (2, u "serialVersionUID"), (0, u "J"), (3, u "REPL"), (0, u "C"), (2, u "LATIN1"), (1, u "UTF16")] 323

def k11m0 : Method := { name := "<init>", desc := "()V", sig := { parameters := [], returnType := none }, accessFlags := 1, code := none }
def k11c1 : Code := { maxStack := 2, maxLocals := 1, code := jdk_42_method_54_code, exceptionTable := #[], attributes := #[] }
def k11m1 : Method := { name := "length", desc := "()I", sig := { parameters := [], returnType := some .int }, accessFlags := 1, code := some k11c1 }
def k11c2 : Code := { maxStack := 5, maxLocals := 4, code := jdk_42_method_147_code, exceptionTable := #[], attributes := #[] }
def k11m2 : Method := { name := "getBytes", desc := "([BIB)V", sig := { parameters := [(.array .byte), .int, .byte], returnType := none }, accessFlags := 0, code := some k11c2 }
def k11c3 : Code := { maxStack := 1, maxLocals := 1, code := jdk_42_method_152_code, exceptionTable := #[], attributes := #[] }
def k11m3 : Method := { name := "coder", desc := "()B", sig := { parameters := [], returnType := some .byte }, accessFlags := 0, code := some k11c3 }
/-- java/lang/String -/
def k11 : Class := { plain "java/lang/String" (some 0) with
  accessFlags := 49
  interfaces := #[6, 7, 4, 9, 10]
  cf := some (fileOf pool11 10 #[.nestMembers #[1103]] #[{ accessFlags := 1, nameIndex := 5, descriptorIndex := 6, attributes := #[] }, { accessFlags := 1, nameIndex := 507, descriptorIndex := 334, attributes := #[] }, { accessFlags := 0, nameIndex := 532, descriptorIndex := 821, attributes := #[] }, { accessFlags := 0, nameIndex := 17, descriptorIndex := 337, attributes := #[] }] 49 2 #[1106, 1108, 575, 1110, 1112] #[{ accessFlags := 18, nameIndex := 13, descriptorIndex := 14, attributes := #[] }, { accessFlags := 18, nameIndex := 17, descriptorIndex := 18, attributes := #[] }, { accessFlags := 2, nameIndex := 21, descriptorIndex := 22, attributes := #[] }, { accessFlags := 2, nameIndex := 25, descriptorIndex := 26, attributes := #[] }, { accessFlags := 26, nameIndex := 1116, descriptorIndex := 1117, attributes := #[] }, { accessFlags := 24, nameIndex := 40, descriptorIndex := 26, attributes := #[] }, { accessFlags := 26, nameIndex := 1101, descriptorIndex := 1102, attributes := #[] }, { accessFlags := 26, nameIndex := 1121, descriptorIndex := 1122, attributes := #[] }, { accessFlags := 25, nameIndex := 599, descriptorIndex := 600, attributes := #[] }, { accessFlags := 24, nameIndex := 1125, descriptorIndex := 18, attributes := #[] }, { accessFlags := 24, nameIndex := 1127, descriptorIndex := 18, attributes := #[] }])
  fields := #[{ name := "value", type := (.array .byte), accessFlags := 18, slot := 0, constantValue := 0 }, { name := "coder", type := .byte, accessFlags := 18, slot := 1, constantValue := 0 }, { name := "hash", type := .int, accessFlags := 2, slot := 2, constantValue := 0 }, { name := "hashIsZero", type := .boolean, accessFlags := 2, slot := 3, constantValue := 0 }, { name := "serialVersionUID", type := .long, accessFlags := 26, slot := 0, constantValue := 0 }, { name := "COMPACT_STRINGS", type := .boolean, accessFlags := 24, slot := 1, constantValue := 0 }, { name := "serialPersistentFields", type := (.array (.object "java/io/ObjectStreamField")), accessFlags := 26, slot := 2, constantValue := 0 }, { name := "REPL", type := .char, accessFlags := 26, slot := 3, constantValue := 0 }, { name := "CASE_INSENSITIVE_ORDER", type := (.object "java/util/Comparator"), accessFlags := 25, slot := 4, constantValue := 0 }, { name := "LATIN1", type := .byte, accessFlags := 24, slot := 5, constantValue := 0 }, { name := "UTF16", type := .byte, accessFlags := 24, slot := 6, constantValue := 0 }]
  methods := #[k11m0, k11m1, k11m2, k11m3]
  instanceTypes := #[(.array .byte), .byte, .int, .boolean]
  staticTypes := #[.long, .boolean, (.array (.object "java/io/ObjectStreamField")), .char, (.object "java/util/Comparator"), .byte, .byte]
  resolved := Array.replicate 1451 none
  statics := some 0 }

def pool12 : Array CpInfo := pool [(2, .class_ 4), (1, u "java/lang/Object"), (0, u "<init>"), (0, u "()V"), (17, .class_ 26), (1, u "jdk/internal/util/Preconditions"), (20, u "checkFromToIndex"), (7, .class_ 56), (0, u "jdk/internal/util/Preconditions$4"), (57, .class_ 115), (0, u "jdk/internal/util/Preconditions$1"), (7, u "SIOOBE_FORMATTER"), (0, u "Ljava/util/function/BiFunction;"), (0, .class_ 126), (0, u "jdk/internal/util/Preconditions$2"), (3, u "AIOOBE_FORMATTER"), (0, .class_ 132), (0, u "jdk/internal/util/Preconditions$3"), (3, u "IOOBE_FORMATTER"), (46, u "(IIILjava/util/function/BiFunction;)I")] 10

def k12m0 : Method := { name := "<init>", desc := "()V", sig := { parameters := [], returnType := none }, accessFlags := 1, code := none }
def k12c1 : Code := { maxStack := 4, maxLocals := 4, code := jdk_41_method_12_code, exceptionTable := #[], attributes := #[] }
def k12m1 : Method := { name := "checkFromToIndex", desc := "(IIILjava/util/function/BiFunction;)I", sig := { parameters := [.int, .int, .int, (.object "java/util/function/BiFunction")], returnType := some .int }, accessFlags := 9, code := some k12c1 }
/-- jdk/internal/util/Preconditions -/
def k12 : Class := { plain "jdk/internal/util/Preconditions" (some 0) with
  accessFlags := 33
  interfaces := #[]
  cf := some (fileOf pool12 24 #[.nestMembers #[55, 131, 125, 114]] #[{ accessFlags := 1, nameIndex := 5, descriptorIndex := 6, attributes := #[] }, { accessFlags := 9, nameIndex := 47, descriptorIndex := 183, attributes := #[] }] 33 2 #[] #[{ accessFlags := 25, nameIndex := 123, descriptorIndex := 124, attributes := #[] }, { accessFlags := 25, nameIndex := 130, descriptorIndex := 124, attributes := #[] }, { accessFlags := 25, nameIndex := 136, descriptorIndex := 124, attributes := #[] }])
  fields := #[{ name := "SIOOBE_FORMATTER", type := (.object "java/util/function/BiFunction"), accessFlags := 25, slot := 0, constantValue := 0 }, { name := "AIOOBE_FORMATTER", type := (.object "java/util/function/BiFunction"), accessFlags := 25, slot := 1, constantValue := 0 }, { name := "IOOBE_FORMATTER", type := (.object "java/util/function/BiFunction"), accessFlags := 25, slot := 2, constantValue := 0 }]
  methods := #[k12m0, k12m1]
  instanceTypes := #[]
  staticTypes := #[(.object "java/util/function/BiFunction"), (.object "java/util/function/BiFunction"), (.object "java/util/function/BiFunction")]
  resolved := Array.replicate 194 none
  statics := some 1 }

def pool13 : Array CpInfo := pool [(1, .class_ 2), (0, u "java/lang/Math"), (1, .class_ 6), (1, u "java/lang/Object"), (0, u "<init>"), (0, u "()V"), (89, .class_ 100), (1, u "java/lang/Math$RandomNumberGeneratorHolder"), (71, u "negativeZeroFloatBits"), (0, u "J"), (2, u "negativeZeroDoubleBits"), (21, u "max"), (2, u "min"), (43, u "$assertionsDisabled"), (0, u "Z"), (88, u "(II)I"), (2, u "twoToTheDoubleScaleDown"), (0, u "D"), (4, u "twoToTheDoubleScaleUp"), (9, u "E"), (3, u "PI"), (2, u "TAU"), (2, u "DEGREES_TO_RADIANS"), (0, u "RADIANS_TO_DEGREES")] 94

def k13m0 : Method := { name := "<init>", desc := "()V", sig := { parameters := [], returnType := none }, accessFlags := 2, code := none }
def k13c1 : Code := { maxStack := 2, maxLocals := 2, code := jdk_29_method_65_code, exceptionTable := #[], attributes := #[] }
def k13m1 : Method := { name := "max", desc := "(II)I", sig := { parameters := [.int, .int], returnType := some .int }, accessFlags := 9, code := some k13c1 }
def k13c2 : Code := { maxStack := 2, maxLocals := 2, code := jdk_29_method_69_code, exceptionTable := #[], attributes := #[] }
def k13m2 : Method := { name := "min", desc := "(II)I", sig := { parameters := [.int, .int], returnType := some .int }, accessFlags := 9, code := some k13c2 }
/-- java/lang/Math -/
def k13 : Class := { plain "java/lang/Math" (some 0) with
  accessFlags := 49
  interfaces := #[]
  cf := some (fileOf pool13 1 #[.nestMembers #[98]] #[{ accessFlags := 2, nameIndex := 7, descriptorIndex := 8, attributes := #[] }, { accessFlags := 9, nameIndex := 198, descriptorIndex := 335, attributes := #[] }, { accessFlags := 9, nameIndex := 201, descriptorIndex := 335, attributes := #[] }] 49 4 #[] #[{ accessFlags := 25, nameIndex := 354, descriptorIndex := 339, attributes := #[] }, { accessFlags := 25, nameIndex := 358, descriptorIndex := 339, attributes := #[] }, { accessFlags := 25, nameIndex := 361, descriptorIndex := 339, attributes := #[] }, { accessFlags := 26, nameIndex := 364, descriptorIndex := 339, attributes := #[] }, { accessFlags := 26, nameIndex := 365, descriptorIndex := 339, attributes := #[] }, { accessFlags := 26, nameIndex := 172, descriptorIndex := 173, attributes := #[] }, { accessFlags := 26, nameIndex := 176, descriptorIndex := 173, attributes := #[] }, { accessFlags := 8, nameIndex := 344, descriptorIndex := 339, attributes := #[] }, { accessFlags := 8, nameIndex := 338, descriptorIndex := 339, attributes := #[] }, { accessFlags := 4120, nameIndex := 245, descriptorIndex := 246, attributes := #[] }])
  fields := #[{ name := "E", type := .double, accessFlags := 25, slot := 0, constantValue := 0 }, { name := "PI", type := .double, accessFlags := 25, slot := 1, constantValue := 0 }, { name := "TAU", type := .double, accessFlags := 25, slot := 2, constantValue := 0 }, { name := "DEGREES_TO_RADIANS", type := .double, accessFlags := 26, slot := 3, constantValue := 0 }, { name := "RADIANS_TO_DEGREES", type := .double, accessFlags := 26, slot := 4, constantValue := 0 }, { name := "negativeZeroFloatBits", type := .long, accessFlags := 26, slot := 5, constantValue := 0 }, { name := "negativeZeroDoubleBits", type := .long, accessFlags := 26, slot := 6, constantValue := 0 }, { name := "twoToTheDoubleScaleUp", type := .double, accessFlags := 8, slot := 7, constantValue := 0 }, { name := "twoToTheDoubleScaleDown", type := .double, accessFlags := 8, slot := 8, constantValue := 0 }, { name := "$assertionsDisabled", type := .boolean, accessFlags := 4120, slot := 9, constantValue := 0 }]
  methods := #[k13m0, k13m1, k13m2]
  instanceTypes := #[]
  staticTypes := #[.double, .double, .double, .double, .double, .long, .long, .double, .double, .boolean]
  resolved := Array.replicate 460 none
  statics := none }

def pool14 : Array CpInfo := pool [(2, .class_ 4), (1, u "java/lang/Object"), (0, u "<init>"), (0, u "()V"), (7, .class_ 16), (1, u "java/util/Arrays"), (57, .class_ 76), (1, u "java/util/Arrays$NaturalOrder"), (32, u "()Ljava/lang/Object;"), (3, .class_ 115), (1, u "java/util/Arrays$LegacyMergeSort"), (1, u "Z"), (10, .nameAndType 129 109), (0, u "clone"), (20, .methodref 151 152), (0, .class_ 153), (0, .nameAndType 154 155), (0, u "java/lang/System"), (0, u "arraycopy"), (0, u "(Ljava/lang/Object;ILjava/lang/Object;II)V"), (146, u "copyOf"), (1, .methodref 305 306), (0, .class_ 307), (0, .nameAndType 308 309), (0, u "java/lang/Math"), (0, u "min"), (0, u "(II)I"), (6, .methodref 317 128), (0, .class_ 318), (0, u "[I"), (56, .class_ 376), (0, u "java/util/Arrays$ArrayList"), (68, u "$assertionsDisabled"), (269, u "MIN_ARRAY_SORT_GRAN"), (0, u "I"), (2, u "INSERTIONSORT_THRESHOLD"), (149, u "([BI)[B"), (1, u "([II)[I"), (103, .class_ 976), (0, u "java/util/Arrays$ArrayItr")] 52

def k14m0 : Method := { name := "<init>", desc := "()V", sig := { parameters := [], returnType := none }, accessFlags := 2, code := none }
def k14c1 : Code := { maxStack := 6, maxLocals := 3, code := jdk_65_method_121_code, exceptionTable := #[], attributes := #[] }
def k14m1 : Method := { name := "copyOf", desc := "([BI)[B", sig := { parameters := [(.array .byte), .int], returnType := some (.array .byte) }, accessFlags := 9, code := some k14c1 }
def k14c2 : Code := { maxStack := 6, maxLocals := 3, code := jdk_65_method_123_code, exceptionTable := #[], attributes := #[] }
def k14m2 : Method := { name := "copyOf", desc := "([II)[I", sig := { parameters := [(.array .int), .int], returnType := some (.array .int) }, accessFlags := 9, code := some k14c2 }
/-- java/util/Arrays -/
def k14 : Class := { plain "java/util/Arrays" (some 0) with
  accessFlags := 49
  interfaces := #[]
  cf := some (fileOf pool14 14 #[.nestMembers #[975, 375, 113, 74]] #[{ accessFlags := 2, nameIndex := 5, descriptorIndex := 6, attributes := #[] }, { accessFlags := 9, nameIndex := 302, descriptorIndex := 869, attributes := #[] }, { accessFlags := 9, nameIndex := 302, descriptorIndex := 871, attributes := #[] }] 49 2 #[] #[{ accessFlags := 26, nameIndex := 715, descriptorIndex := 716, attributes := #[] }, { accessFlags := 26, nameIndex := 719, descriptorIndex := 716, attributes := #[] }, { accessFlags := 4120, nameIndex := 445, descriptorIndex := 117, attributes := #[] }])
  fields := #[{ name := "MIN_ARRAY_SORT_GRAN", type := .int, accessFlags := 26, slot := 0, constantValue := 0 }, { name := "INSERTIONSORT_THRESHOLD", type := .int, accessFlags := 26, slot := 1, constantValue := 0 }, { name := "$assertionsDisabled", type := .boolean, accessFlags := 4120, slot := 2, constantValue := 0 }]
  methods := #[k14m0, k14m1, k14m2]
  instanceTypes := #[]
  staticTypes := #[.int, .int, .boolean]
  resolved := Array.replicate 1029 none
  statics := none }

def pool15 : Array CpInfo := pool [(2, .class_ 4), (1, u "java/lang/Object"), (0, u "<init>"), (0, u "()V"), (1, .class_ 10), (1, u "java/lang/System"), (0, u "allowSecurityManager"), (0, u "I"), (16, u "cons"), (0, u "Ljava/io/Console;"), (77, .class_ 110), (1, u "java/lang/System$CallersHolder"), (43, u "initialErrStream"), (0, u "Ljava/io/PrintStream;"), (19, u "security"), (0, u "Ljava/lang/SecurityManager;"), (31, .class_ 209), (0, u "java/lang/System$1"), (7, u "props"), (0, u "Ljava/util/Properties;"), (2, u "lineSeparator"), (0, u "Ljava/lang/String;"), (96, .class_ 321), (1, u "java/lang/System$LoggerFinder"), (5, .class_ 328), (0, u "java/lang/System$Logger"), (67, u "err"), (2, u "out"), (91, u "notSupportedJnuEncoding"), (15, u "in"), (17, u "initialIn"), (0, u "Ljava/io/InputStream;"), (35, u "bootLayer"), (0, u "Ljava/lang/ModuleLayer;"), (99, .class_ 664), (0, u "java/lang/System$2"), (9, u "NEVER"), (2, u "MAYBE"), (49, u "arraycopy"), (0, u "(Ljava/lang/Object;ILjava/lang/Object;II)V"), (72, .class_ 802), (0, u "java/lang/System$Logger$Level")] 31

def k15m0 : Method := { name := "<init>", desc := "()V", sig := { parameters := [], returnType := none }, accessFlags := 2, code := none }
def k15m1 : Method := { name := "arraycopy", desc := "(Ljava/lang/Object;ILjava/lang/Object;II)V", sig := { parameters := [(.object "java/lang/Object"), .int, (.object "java/lang/Object"), .int, .int], returnType := none }, accessFlags := 265, code := none }
/-- java/lang/System -/
def k15 : Class := { plain "java/lang/System" (some 0) with
  accessFlags := 49
  interfaces := #[]
  cf := some (fileOf pool15 8 #[.nestMembers #[319, 327, 801, 108, 663, 208]] #[{ accessFlags := 2, nameIndex := 5, descriptorIndex := 6, attributes := #[] }, { accessFlags := 265, nameIndex := 727, descriptorIndex := 728, attributes := #[] }] 49 2 #[] #[{ accessFlags := 25, nameIndex := 507, descriptorIndex := 526, attributes := #[] }, { accessFlags := 25, nameIndex := 399, descriptorIndex := 155, attributes := #[] }, { accessFlags := 25, nameIndex := 396, descriptorIndex := 155, attributes := #[] }, { accessFlags := 10, nameIndex := 525, descriptorIndex := 526, attributes := #[] }, { accessFlags := 26, nameIndex := 674, descriptorIndex := 12, attributes := #[] }, { accessFlags := 26, nameIndex := 677, descriptorIndex := 12, attributes := #[] }, { accessFlags := 10, nameIndex := 11, descriptorIndex := 12, attributes := #[] }, { accessFlags := 74, nameIndex := 175, descriptorIndex := 176, attributes := #[] }, { accessFlags := 10, nameIndex := 491, descriptorIndex := 222, attributes := #[] }, { accessFlags := 74, nameIndex := 29, descriptorIndex := 30, attributes := #[] }, { accessFlags := 74, nameIndex := 154, descriptorIndex := 155, attributes := #[] }, { accessFlags := 10, nameIndex := 217, descriptorIndex := 218, attributes := #[] }, { accessFlags := 10, nameIndex := 221, descriptorIndex := 222, attributes := #[] }, { accessFlags := 8, nameIndex := 562, descriptorIndex := 563, attributes := #[] }])
  fields := #[{ name := "in", type := (.object "java/io/InputStream"), accessFlags := 25, slot := 0, constantValue := 0 }, { name := "out", type := (.object "java/io/PrintStream"), accessFlags := 25, slot := 1, constantValue := 0 }, { name := "err", type := (.object "java/io/PrintStream"), accessFlags := 25, slot := 2, constantValue := 0 }, { name := "initialIn", type := (.object "java/io/InputStream"), accessFlags := 10, slot := 3, constantValue := 0 }, { name := "NEVER", type := .int, accessFlags := 26, slot := 4, constantValue := 0 }, { name := "MAYBE", type := .int, accessFlags := 26, slot := 5, constantValue := 0 }, { name := "allowSecurityManager", type := .int, accessFlags := 10, slot := 6, constantValue := 0 }, { name := "security", type := (.object "java/lang/SecurityManager"), accessFlags := 74, slot := 7, constantValue := 0 }, { name := "notSupportedJnuEncoding", type := (.object "java/lang/String"), accessFlags := 10, slot := 8, constantValue := 0 }, { name := "cons", type := (.object "java/io/Console"), accessFlags := 74, slot := 9, constantValue := 0 }, { name := "initialErrStream", type := (.object "java/io/PrintStream"), accessFlags := 74, slot := 10, constantValue := 0 }, { name := "props", type := (.object "java/util/Properties"), accessFlags := 10, slot := 11, constantValue := 0 }, { name := "lineSeparator", type := (.object "java/lang/String"), accessFlags := 10, slot := 12, constantValue := 0 }, { name := "bootLayer", type := (.object "java/lang/ModuleLayer"), accessFlags := 8, slot := 13, constantValue := 0 }]
  methods := #[k15m0, k15m1]
  instanceTypes := #[]
  staticTypes := #[(.object "java/io/InputStream"), (.object "java/io/PrintStream"), (.object "java/io/PrintStream"), (.object "java/io/InputStream"), .int, .int, .int, (.object "java/lang/SecurityManager"), (.object "java/lang/String"), (.object "java/io/Console"), (.object "java/io/PrintStream"), (.object "java/util/Properties"), (.object "java/lang/String"), (.object "java/lang/ModuleLayer")]
  resolved := Array.replicate 834 none
  statics := none }

def pool16 : Array CpInfo := pool [(1, .class_ 2), (0, u "java/lang/Cloneable"), (0, .class_ 4), (0, u "java/lang/Object")] 2

/-- java/lang/Cloneable -/
def k16 : Class := { plain "java/lang/Cloneable" (some 0) with
  accessFlags := 1537
  interfaces := #[]
  cf := some (fileOf pool16 1 #[] #[] 1537 3 #[] #[])
  fields := #[]
  methods := #[]
  instanceTypes := #[]
  staticTypes := #[]
  resolved := Array.replicate 7 none
  statics := none }

def pool17 : Array CpInfo := pool [(4, .class_ 6), (1, u "java/lang/Object"), (0, u "<init>"), (0, u "()V"), (5, .class_ 16), (1, u "java/lang/StringLatin1"), (104, u "$assertionsDisabled"), (0, u "Z"), (98, .class_ 223), (1, u "java/lang/StringLatin1$LinesSpliterator"), (166, .class_ 391), (0, u "java/lang/StringLatin1$CharsSpliterator")] 3

def k17m0 : Method := { name := "<init>", desc := "()V", sig := { parameters := [], returnType := none }, accessFlags := 0, code := none }
/-- java/lang/StringLatin1 -/
def k17 : Class := { plain "java/lang/StringLatin1" (some 0) with
  accessFlags := 48
  interfaces := #[]
  cf := some (fileOf pool17 14 #[.nestMembers #[390, 221]] #[{ accessFlags := 0, nameIndex := 7, descriptorIndex := 8, attributes := #[] }] 48 4 #[] #[{ accessFlags := 4120, nameIndex := 121, descriptorIndex := 122, attributes := #[] }])
  fields := #[{ name := "$assertionsDisabled", type := .boolean, accessFlags := 4120, slot := 0, constantValue := 0 }]
  methods := #[k17m0]
  instanceTypes := #[]
  staticTypes := #[.boolean]
  resolved := Array.replicate 395 none
  statics := none }

def pool18 : Array CpInfo := pool [(9, u "<init>"), (6, .class_ 18), (1, u "java/lang/Object"), (0, u "()V"), (1, .class_ 23), (1, u "jdk/internal/util/ArraysSupport"), (0, u "LOG2_ARRAY_LONG_INDEX_SCALE"), (0, u "I"), (2, u "U"), (0, u "Ljdk/internal/misc/Unsafe;"), (8, u "BIG_ENDIAN"), (0, u "Z"), (8, u "LOG2_BYTE_BIT_SIZE"), (4, u "LOG2_ARRAY_INT_INDEX_SCALE"), (54, u "JLA"), (0, u "Ljdk/internal/access/JavaLangAccess;"), (11, u "LOG2_ARRAY_BOOLEAN_INDEX_SCALE"), (9, u "LOG2_ARRAY_BYTE_INDEX_SCALE"), (5, u "LOG2_ARRAY_CHAR_INDEX_SCALE"), (5, u "LOG2_ARRAY_SHORT_INDEX_SCALE"), (18, u "LOG2_ARRAY_FLOAT_INDEX_SCALE"), (24, u "LOG2_ARRAY_DOUBLE_INDEX_SCALE"), (89, u "T_BOOLEAN"), (2, u "T_CHAR"), (1, u "T_FLOAT"), (1, u "T_DOUBLE"), (1, u "T_BYTE"), (1, u "T_SHORT"), (1, u "T_INT"), (1, u "T_LONG"), (1, u "SOFT_MAX_ARRAY_LENGTH")] 83

def k18m0 : Method := { name := "<init>", desc := "()V", sig := { parameters := [], returnType := none }, accessFlags := 2, code := none }
/-- jdk/internal/util/ArraysSupport -/
def k18 : Class := { plain "jdk/internal/util/ArraysSupport" (some 0) with
  accessFlags := 33
  interfaces := #[]
  cf := some (fileOf pool18 21 #[] #[{ accessFlags := 2, nameIndex := 9, descriptorIndex := 19, attributes := #[] }] 33 16 #[] #[{ accessFlags := 24, nameIndex := 28, descriptorIndex := 29, attributes := #[] }, { accessFlags := 26, nameIndex := 38, descriptorIndex := 39, attributes := #[] }, { accessFlags := 25, nameIndex := 121, descriptorIndex := 25, attributes := #[] }, { accessFlags := 25, nameIndex := 131, descriptorIndex := 25, attributes := #[] }, { accessFlags := 25, nameIndex := 137, descriptorIndex := 25, attributes := #[] }, { accessFlags := 25, nameIndex := 143, descriptorIndex := 25, attributes := #[] }, { accessFlags := 25, nameIndex := 53, descriptorIndex := 25, attributes := #[] }, { accessFlags := 25, nameIndex := 24, descriptorIndex := 25, attributes := #[] }, { accessFlags := 25, nameIndex := 162, descriptorIndex := 25, attributes := #[] }, { accessFlags := 25, nameIndex := 187, descriptorIndex := 25, attributes := #[] }, { accessFlags := 26, nameIndex := 48, descriptorIndex := 25, attributes := #[] }, { accessFlags := 25, nameIndex := 277, descriptorIndex := 25, attributes := #[] }, { accessFlags := 25, nameIndex := 280, descriptorIndex := 25, attributes := #[] }, { accessFlags := 25, nameIndex := 282, descriptorIndex := 25, attributes := #[] }, { accessFlags := 25, nameIndex := 284, descriptorIndex := 25, attributes := #[] }, { accessFlags := 25, nameIndex := 286, descriptorIndex := 25, attributes := #[] }, { accessFlags := 25, nameIndex := 288, descriptorIndex := 25, attributes := #[] }, { accessFlags := 25, nameIndex := 290, descriptorIndex := 25, attributes := #[] }, { accessFlags := 25, nameIndex := 292, descriptorIndex := 25, attributes := #[] }, { accessFlags := 26, nameIndex := 108, descriptorIndex := 109, attributes := #[] }, { accessFlags := 25, nameIndex := 294, descriptorIndex := 25, attributes := #[] }])
  fields := #[{ name := "U", type := (.object "jdk/internal/misc/Unsafe"), accessFlags := 24, slot := 0, constantValue := 0 }, { name := "BIG_ENDIAN", type := .boolean, accessFlags := 26, slot := 1, constantValue := 0 }, { name := "LOG2_ARRAY_BOOLEAN_INDEX_SCALE", type := .int, accessFlags := 25, slot := 2, constantValue := 0 }, { name := "LOG2_ARRAY_BYTE_INDEX_SCALE", type := .int, accessFlags := 25, slot := 3, constantValue := 0 }, { name := "LOG2_ARRAY_CHAR_INDEX_SCALE", type := .int, accessFlags := 25, slot := 4, constantValue := 0 }, { name := "LOG2_ARRAY_SHORT_INDEX_SCALE", type := .int, accessFlags := 25, slot := 5, constantValue := 0 }, { name := "LOG2_ARRAY_INT_INDEX_SCALE", type := .int, accessFlags := 25, slot := 6, constantValue := 0 }, { name := "LOG2_ARRAY_LONG_INDEX_SCALE", type := .int, accessFlags := 25, slot := 7, constantValue := 0 }, { name := "LOG2_ARRAY_FLOAT_INDEX_SCALE", type := .int, accessFlags := 25, slot := 8, constantValue := 0 }, { name := "LOG2_ARRAY_DOUBLE_INDEX_SCALE", type := .int, accessFlags := 25, slot := 9, constantValue := 0 }, { name := "LOG2_BYTE_BIT_SIZE", type := .int, accessFlags := 26, slot := 10, constantValue := 0 }, { name := "T_BOOLEAN", type := .int, accessFlags := 25, slot := 11, constantValue := 0 }, { name := "T_CHAR", type := .int, accessFlags := 25, slot := 12, constantValue := 0 }, { name := "T_FLOAT", type := .int, accessFlags := 25, slot := 13, constantValue := 0 }, { name := "T_DOUBLE", type := .int, accessFlags := 25, slot := 14, constantValue := 0 }, { name := "T_BYTE", type := .int, accessFlags := 25, slot := 15, constantValue := 0 }, { name := "T_SHORT", type := .int, accessFlags := 25, slot := 16, constantValue := 0 }, { name := "T_INT", type := .int, accessFlags := 25, slot := 17, constantValue := 0 }, { name := "T_LONG", type := .int, accessFlags := 25, slot := 18, constantValue := 0 }, { name := "JLA", type := (.object "jdk/internal/access/JavaLangAccess"), accessFlags := 26, slot := 19, constantValue := 0 }, { name := "SOFT_MAX_ARRAY_LENGTH", type := .int, accessFlags := 25, slot := 20, constantValue := 0 }]
  methods := #[k18m0]
  instanceTypes := #[]
  staticTypes := #[(.object "jdk/internal/misc/Unsafe"), .boolean, .int, .int, .int, .int, .int, .int, .int, .int, .int, .int, .int, .int, .int, .int, .int, .int, .int, (.object "jdk/internal/access/JavaLangAccess"), .int]
  resolved := Array.replicate 378 none
  statics := none }

/-- the primitive byte -/
def k19 : Class := { plain "byte" none with kind := .primitive 'B', accessFlags := 0x411 }
/-- [B -/
def k20 : Class := { plain "[B" (some 0) with kind := .array 19 .byte, interfaces := #[16, 6], accessFlags := 1041 }

/-- the primitive char -/
def k21 : Class := { plain "char" none with kind := .primitive 'C', accessFlags := 0x411 }
/-- [C -/
def k22 : Class := { plain "[C" (some 0) with kind := .array 21 .char, interfaces := #[16, 6], accessFlags := 1041 }

/-- the primitive int -/
def k23 : Class := { plain "int" none with kind := .primitive 'I', accessFlags := 0x411 }
/-- [I -/
def k24 : Class := { plain "[I" (some 0) with kind := .array 23 .int, interfaces := #[16, 6], accessFlags := 1041 }

def heap : Heap := #[{ cls := 11, slots := #[.long 0, .int 1, .null, .int 0, .null, .int 0, .int 0], vm := .statics 11 },
  { cls := 12, slots := #[.null, .null, .null], vm := .statics 12 }]
def classes : Array Class := #[k0, k1, k2, k3, k4, k5, k6, k7, k8, k9, k10, k11, k12, k13, k14, k15, k16, k17, k18, k19, k20, k21, k22, k23, k24]
def interned : List (Array UInt16 × Addr) := []
def slotsUsed : Nat := 10
def theMethod : MethodId := ⟨1, 1⟩
def args0 : Array Value := #[.int 0, .int 0, .int 0, .int 0, .int 0, .int 0]
def aboutOver (below : List Frame) : State where
  vm := { classes := classes, interned := interned.toArray }
  heap := heap
  slotsUsed := slotsUsed
  threads := #[{ frames := .invoking theMethod args0 :: below }]
def below0 : List Frame := [.native { method := ⟨0, 0⟩, args := #[] }]
def about1 : State := aboutOver below0
def p0 : Program := .bare "" "" ""
def e0 : Env := launch0.env 0 0 0
theorem w_frames : about1.frames = Frame.invoking theMethod args0 :: below0 := rfl
set_option maxRecDepth 65536 in
theorem w_args : argsFit about1.vm theMethod args0 = true := by decide +kernel
set_option maxRecDepth 65536 in
theorem w_heap : heapFits about1 = true := by decide +kernel
set_option maxRecDepth 65536 in
theorem w_runnable : about1.curStatus? = some .runnable := by decide +kernel
set_option maxRecDepth 65536 in
theorem w_alone : about1.alone = true := by decide +kernel
set_option maxRecDepth 65536 in
theorem w_named : about1.methodNamed? x = some theMethod := by decide +kernel
set_option maxRecDepth 65536 in
theorem w_hears : about1.hears theMethod below0 = true := by decide +kernel
set_option maxRecDepth 65536 in
theorem w_ripe : about1.ripe theMethod args0 below0 = true := by decide +kernel
theorem w_running : about1.status = .running := rfl
set_option maxRecDepth 65536 in
theorem w_room : about1.hasRoom e0.platform room_1 = true :=
  launch0.hasRoom_least _ room_1 (by decide +kernel) (by decide +kernel) (by decide +kernel) (by decide +kernel) (by decide +kernel) (by decide +kernel)
theorem allAtoms_all (ts : List Jvm.Cond) (a : Array Jvm.Value) (st : Jvm.State) : (allAtoms ts).before a st = ts.all (fun c => c.before a st) := by
  induction ts with
  | nil => rfl
  | cons c t ih =>
    show (Jvm.Cond.and c (allAtoms t)).before a st = _
    rw [Jvm.Cond.before_and, ih, List.all_cons]
def words1 : List Jvm.Cond := Jvm.Cond.code x code maxLocals ret :: tables_1
/-- a 'code' word, met by the world's own term for the bytes: nothing is compared byte by byte -/
theorem code_word {y : MethodName} {bytes : ByteArray} {mx : Nat} {rt : Option FieldType} {a : Array Value} {s : State} {m : MethodId} {meth : Method} {c : Code} (h1 : s.methodNamed? y = some m) (h2 : s.vm.method? m = some meth) (h3 : meth.code = some c) (h4 : c.code = bytes)
    (h5 : (c.maxLocals == mx && c.exceptionTable.isEmpty && decide (c.maxStack ≤ mostOperands) && decide (meth.sig.returnType = rt) && !meth.locks && decide (parseMethodDescriptor y.desc = some meth.sig)) = true) : (Jvm.Cond.code y bytes mx rt).before a s = true := by
  simp only [Bool.and_eq_true, beq_iff_eq, Bool.not_eq_true', decide_eq_true_eq] at h5
  obtain ⟨⟨⟨⟨⟨g1, g2⟩, g3⟩, g4⟩, g5⟩, g6⟩ := h5
  simp [Cond.before, Cond.holds, Cond.value, h1, h2, h3, h4, g1, g2, g3, g4, g5, g6]
def isCode : Jvm.Cond → Bool
  | .code _ _ _ _ => true
  | _ => false
theorem all_split {L : List Jvm.Cond} {P : Jvm.Cond → Bool} (h1 : L.all (fun c => isCode c || P c) = true) (h2 : ∀ c ∈ L.filter isCode, P c = true) : L.all P = true := by
  refine List.all_eq_true.mpr fun c hc => ?_
  have h := List.all_eq_true.mp h1 c hc
  rcases Bool.eq_false_or_eq_true (isCode c) with hi | hi
  · exact h2 c (List.mem_filter.mpr ⟨hc, hi⟩)
  · simpa [hi] using h
set_option maxRecDepth 65536 in
theorem w_c0 : (Jvm.Cond.code x code maxLocals ret).before args0 about1 = true := code_word (m := ⟨1, 1⟩) (meth := k1m1) (c := k1c1) (by decide +kernel) rfl rfl rfl (by decide +kernel)
set_option maxRecDepth 65536 in
theorem w_c1 : (Jvm.Cond.code ({ cls := "com/example/nodewarden/nodewarden/core/Asides", name := "<init>", desc := "()V" } : Jvm.MethodName) prog_3_method_1_code (1 : Nat) (Option.none : Option Jvm.ClassFile.FieldType)).before args0 about1 = true := code_word (m := ⟨2, 0⟩) (meth := k2m0) (c := k2c0) (by decide +kernel) rfl rfl rfl (by decide +kernel)
set_option maxRecDepth 65536 in
theorem w_c2 : (Jvm.Cond.code ({ cls := "java/lang/Object", name := "<init>", desc := "()V" } : Jvm.MethodName) object_method_1_code (1 : Nat) (Option.none : Option Jvm.ClassFile.FieldType)).before args0 about1 = true := code_word (m := ⟨0, 0⟩) (meth := k0m0) (c := k0c0) (by decide +kernel) rfl rfl rfl (by decide +kernel)
set_option maxRecDepth 65536 in
theorem w_c3 : (Jvm.Cond.code ({ cls := "java/lang/StringBuilder", name := "<init>", desc := "()V" } : Jvm.MethodName) jdk_67_method_1_code (1 : Nat) (Option.none : Option Jvm.ClassFile.FieldType)).before args0 about1 = true := code_word (m := ⟨8, 0⟩) (meth := k8m0) (c := k8c0) (by decide +kernel) rfl rfl rfl (by decide +kernel)
set_option maxRecDepth 65536 in
theorem w_c4 : (Jvm.Cond.code ({ cls := "java/lang/AbstractStringBuilder", name := "<init>", desc := "(I)V" } : Jvm.MethodName) jdk_68_method_2_code (2 : Nat) (Option.none : Option Jvm.ClassFile.FieldType)).before args0 about1 = true := code_word (m := ⟨5, 1⟩) (meth := k5m1) (c := k5c1) (by decide +kernel) rfl rfl rfl (by decide +kernel)
set_option maxRecDepth 65536 in
theorem w_c5 : (Jvm.Cond.code ({ cls := "com/example/nodewarden/nodewarden/core/Asides", name := "isAt", desc := "(III)Z" } : Jvm.MethodName) prog_3_method_5_code (4 : Nat) (Option.some Jvm.ClassFile.FieldType.boolean)).before args0 about1 = true := code_word (m := ⟨2, 4⟩) (meth := k2m4) (c := k2c4) (by decide +kernel) rfl rfl rfl (by decide +kernel)
set_option maxRecDepth 65536 in
theorem w_c6 : (Jvm.Cond.code ({ cls := "com/example/nodewarden/nodewarden/core/Asides", name := "addComment", desc := "(III[CII)V" } : Jvm.MethodName) prog_3_method_2_code (7 : Nat) (Option.none : Option Jvm.ClassFile.FieldType)).before args0 about1 = true := code_word (m := ⟨2, 1⟩) (meth := k2m1) (c := k2c1) (by decide +kernel) rfl rfl rfl (by decide +kernel)
set_option maxRecDepth 65536 in
theorem w_c7 : (Jvm.Cond.code ({ cls := "java/lang/StringBuilder", name := "append", desc := "([CII)Ljava/lang/StringBuilder;" } : Jvm.MethodName) jdk_67_method_12_code (4 : Nat) (Option.some (Jvm.ClassFile.FieldType.object "java/lang/StringBuilder"))).before args0 about1 = true := code_word (m := ⟨8, 2⟩) (meth := k8m2) (c := k8c2) (by decide +kernel) rfl rfl rfl (by decide +kernel)
set_option maxRecDepth 65536 in
theorem w_c8 : (Jvm.Cond.code ({ cls := "java/lang/AbstractStringBuilder", name := "append", desc := "([CII)Ljava/lang/AbstractStringBuilder;" } : Jvm.MethodName) jdk_68_method_29_code (5 : Nat) (Option.some (Jvm.ClassFile.FieldType.object "java/lang/AbstractStringBuilder"))).before args0 about1 = true := code_word (m := ⟨5, 6⟩) (meth := k5m6) (c := k5c6) (by decide +kernel) rfl rfl rfl (by decide +kernel)
set_option maxRecDepth 65536 in
theorem w_c9 : (Jvm.Cond.code ({ cls := "jdk/internal/util/Preconditions", name := "checkFromToIndex", desc := "(IIILjava/util/function/BiFunction;)I" } : Jvm.MethodName) jdk_41_method_12_code (4 : Nat) (Option.some Jvm.ClassFile.FieldType.int)).before args0 about1 = true := code_word (m := ⟨12, 1⟩) (meth := k12m1) (c := k12c1) (by decide +kernel) rfl rfl rfl (by decide +kernel)
set_option maxRecDepth 65536 in
theorem w_c10 : (Jvm.Cond.code ({ cls := "java/lang/AbstractStringBuilder", name := "ensureCapacityInternal", desc := "(I)V" } : Jvm.MethodName) jdk_68_method_9_code (3 : Nat) (Option.none : Option Jvm.ClassFile.FieldType)).before args0 about1 = true := code_word (m := ⟨5, 3⟩) (meth := k5m3) (c := k5c3) (by decide +kernel) rfl rfl rfl (by decide +kernel)
set_option maxRecDepth 65536 in
theorem w_c11 : (Jvm.Cond.code ({ cls := "java/lang/AbstractStringBuilder", name := "appendChars", desc := "([CII)V" } : Jvm.MethodName) jdk_68_method_74_code (9 : Nat) (Option.none : Option Jvm.ClassFile.FieldType)).before args0 about1 = true := code_word (m := ⟨5, 10⟩) (meth := k5m10) (c := k5c10) (by decide +kernel) rfl rfl rfl (by decide +kernel)
set_option maxRecDepth 65536 in
theorem w_c12 : (Jvm.Cond.code ({ cls := "java/lang/AbstractStringBuilder", name := "isLatin1", desc := "()Z" } : Jvm.MethodName) jdk_68_method_68_code (1 : Nat) (Option.some Jvm.ClassFile.FieldType.boolean)).before args0 about1 = true := code_word (m := ⟨5, 7⟩) (meth := k5m7) (c := k5c7) (by decide +kernel) rfl rfl rfl (by decide +kernel)
set_option maxRecDepth 65536 in
theorem w_c13 : (Jvm.Cond.code ({ cls := "com/example/nodewarden/nodewarden/core/Asides", name := "add", desc := "(IIII)V" } : Jvm.MethodName) prog_3_method_13_code (6 : Nat) (Option.none : Option Jvm.ClassFile.FieldType)).before args0 about1 = true := code_word (m := ⟨2, 5⟩) (meth := k2m5) (c := k2c5) (by decide +kernel) rfl rfl rfl (by decide +kernel)
set_option maxRecDepth 65536 in
theorem w_c14 : (Jvm.Cond.code ({ cls := "java/lang/Math", name := "max", desc := "(II)I" } : Jvm.MethodName) jdk_29_method_65_code (2 : Nat) (Option.some Jvm.ClassFile.FieldType.int)).before args0 about1 = true := code_word (m := ⟨13, 1⟩) (meth := k13m1) (c := k13c1) (by decide +kernel) rfl rfl rfl (by decide +kernel)
set_option maxRecDepth 65536 in
theorem w_c15 : (Jvm.Cond.code ({ cls := "java/util/Arrays", name := "copyOf", desc := "([II)[I" } : Jvm.MethodName) jdk_65_method_123_code (3 : Nat) (Option.some (Jvm.ClassFile.FieldType.array Jvm.ClassFile.FieldType.int))).before args0 about1 = true := code_word (m := ⟨14, 2⟩) (meth := k14m2) (c := k14c2) (by decide +kernel) rfl rfl rfl (by decide +kernel)
set_option maxRecDepth 65536 in
theorem w_c16 : (Jvm.Cond.code ({ cls := "java/lang/Math", name := "min", desc := "(II)I" } : Jvm.MethodName) jdk_29_method_69_code (2 : Nat) (Option.some Jvm.ClassFile.FieldType.int)).before args0 about1 = true := code_word (m := ⟨13, 2⟩) (meth := k13m2) (c := k13c2) (by decide +kernel) rfl rfl rfl (by decide +kernel)
set_option maxRecDepth 65536 in
theorem w_c17 : (Jvm.Cond.code ({ cls := "java/lang/StringBuilder", name := "length", desc := "()I" } : Jvm.MethodName) jdk_67_method_93_code (1 : Nat) (Option.some Jvm.ClassFile.FieldType.int)).before args0 about1 = true := code_word (m := ⟨8, 4⟩) (meth := k8m4) (c := k8c4) (by decide +kernel) rfl rfl rfl (by decide +kernel)
set_option maxRecDepth 65536 in
theorem w_c18 : (Jvm.Cond.code ({ cls := "java/lang/AbstractStringBuilder", name := "length", desc := "()I" } : Jvm.MethodName) jdk_68_method_6_code (1 : Nat) (Option.some Jvm.ClassFile.FieldType.int)).before args0 about1 = true := code_word (m := ⟨5, 2⟩) (meth := k5m2) (c := k5c2) (by decide +kernel) rfl rfl rfl (by decide +kernel)
set_option maxRecDepth 65536 in
theorem w_c19 : (Jvm.Cond.code ({ cls := "com/example/nodewarden/nodewarden/core/Asides", name := "addInstruction", desc := "(IIILjava/lang/String;Ljava/lang/String;)V" } : Jvm.MethodName) prog_3_method_3_code (7 : Nat) (Option.none : Option Jvm.ClassFile.FieldType)).before args0 about1 = true := code_word (m := ⟨2, 2⟩) (meth := k2m2) (c := k2c2) (by decide +kernel) rfl rfl rfl (by decide +kernel)
set_option maxRecDepth 65536 in
theorem w_c20 : (Jvm.Cond.code ({ cls := "java/lang/StringBuilder", name := "append", desc := "(Ljava/lang/String;)Ljava/lang/StringBuilder;" } : Jvm.MethodName) jdk_67_method_7_code (2 : Nat) (Option.some (Jvm.ClassFile.FieldType.object "java/lang/StringBuilder"))).before args0 about1 = true := code_word (m := ⟨8, 1⟩) (meth := k8m1) (c := k8c1) (by decide +kernel) rfl rfl rfl (by decide +kernel)
set_option maxRecDepth 65536 in
theorem w_c21 : (Jvm.Cond.code ({ cls := "java/lang/AbstractStringBuilder", name := "append", desc := "(Ljava/lang/String;)Ljava/lang/AbstractStringBuilder;" } : Jvm.MethodName) jdk_68_method_22_code (3 : Nat) (Option.some (Jvm.ClassFile.FieldType.object "java/lang/AbstractStringBuilder"))).before args0 about1 = true := code_word (m := ⟨5, 5⟩) (meth := k5m5) (c := k5c5) (by decide +kernel) rfl rfl rfl (by decide +kernel)
set_option maxRecDepth 65536 in
theorem w_c22 : (Jvm.Cond.code ({ cls := "java/lang/String", name := "length", desc := "()I" } : Jvm.MethodName) jdk_42_method_54_code (1 : Nat) (Option.some Jvm.ClassFile.FieldType.int)).before args0 about1 = true := code_word (m := ⟨11, 1⟩) (meth := k11m1) (c := k11c1) (by decide +kernel) rfl rfl rfl (by decide +kernel)
set_option maxRecDepth 65536 in
theorem w_c23 : (Jvm.Cond.code ({ cls := "java/lang/String", name := "coder", desc := "()B" } : Jvm.MethodName) jdk_42_method_152_code (1 : Nat) (Option.some Jvm.ClassFile.FieldType.byte)).before args0 about1 = true := code_word (m := ⟨11, 3⟩) (meth := k11m3) (c := k11c3) (by decide +kernel) rfl rfl rfl (by decide +kernel)
set_option maxRecDepth 65536 in
theorem w_c24 : (Jvm.Cond.code ({ cls := "java/lang/AbstractStringBuilder", name := "putStringAt", desc := "(ILjava/lang/String;)V" } : Jvm.MethodName) jdk_68_method_73_code (3 : Nat) (Option.none : Option Jvm.ClassFile.FieldType)).before args0 about1 = true := code_word (m := ⟨5, 9⟩) (meth := k5m9) (c := k5c9) (by decide +kernel) rfl rfl rfl (by decide +kernel)
set_option maxRecDepth 65536 in
theorem w_c25 : (Jvm.Cond.code ({ cls := "java/lang/AbstractStringBuilder", name := "inflateIfNeededFor", desc := "(Ljava/lang/String;)V" } : Jvm.MethodName) jdk_68_method_71_code (2 : Nat) (Option.none : Option Jvm.ClassFile.FieldType)).before args0 about1 = true := code_word (m := ⟨5, 8⟩) (meth := k5m8) (c := k5c8) (by decide +kernel) rfl rfl rfl (by decide +kernel)
set_option maxRecDepth 65536 in
theorem w_c26 : (Jvm.Cond.code ({ cls := "java/lang/String", name := "getBytes", desc := "([BIB)V" } : Jvm.MethodName) jdk_42_method_147_code (4 : Nat) (Option.none : Option Jvm.ClassFile.FieldType)).before args0 about1 = true := code_word (m := ⟨11, 2⟩) (meth := k11m2) (c := k11c2) (by decide +kernel) rfl rfl rfl (by decide +kernel)
set_option maxRecDepth 65536 in
theorem w_c27 : (Jvm.Cond.code ({ cls := "com/example/nodewarden/nodewarden/core/Asides", name := "close", desc := "()V" } : Jvm.MethodName) prog_3_method_4_code (1 : Nat) (Option.none : Option Jvm.ClassFile.FieldType)).before args0 about1 = true := code_word (m := ⟨2, 3⟩) (meth := k2m3) (c := k2c3) (by decide +kernel) rfl rfl rfl (by decide +kernel)
set_option maxRecDepth 65536 in
theorem w_c28 : (Jvm.Cond.code ({ cls := "java/lang/StringBuilder", name := "trimToSize", desc := "()V" } : Jvm.MethodName) jdk_67_method_90_code (1 : Nat) (Option.none : Option Jvm.ClassFile.FieldType)).before args0 about1 = true := code_word (m := ⟨8, 3⟩) (meth := k8m3) (c := k8c3) (by decide +kernel) rfl rfl rfl (by decide +kernel)
set_option maxRecDepth 65536 in
theorem w_c29 : (Jvm.Cond.code ({ cls := "java/lang/AbstractStringBuilder", name := "trimToSize", desc := "()V" } : Jvm.MethodName) jdk_68_method_12_code (2 : Nat) (Option.none : Option Jvm.ClassFile.FieldType)).before args0 about1 = true := code_word (m := ⟨5, 4⟩) (meth := k5m4) (c := k5c4) (by decide +kernel) rfl rfl rfl (by decide +kernel)
set_option maxRecDepth 65536 in
theorem w_c30 : (Jvm.Cond.code ({ cls := "java/util/Arrays", name := "copyOf", desc := "([BI)[B" } : Jvm.MethodName) jdk_65_method_121_code (3 : Nat) (Option.some (Jvm.ClassFile.FieldType.array Jvm.ClassFile.FieldType.byte))).before args0 about1 = true := code_word (m := ⟨14, 1⟩) (meth := k14m1) (c := k14c1) (by decide +kernel) rfl rfl rfl (by decide +kernel)
def codes1 : List Jvm.Cond := [Jvm.Cond.code x code maxLocals ret, Jvm.Cond.code ({ cls := "com/example/nodewarden/nodewarden/core/Asides", name := "<init>", desc := "()V" } : Jvm.MethodName) prog_3_method_1_code (1 : Nat) (Option.none : Option Jvm.ClassFile.FieldType), Jvm.Cond.code ({ cls := "java/lang/Object", name := "<init>", desc := "()V" } : Jvm.MethodName) object_method_1_code (1 : Nat) (Option.none : Option Jvm.ClassFile.FieldType), Jvm.Cond.code ({ cls := "java/lang/StringBuilder", name := "<init>", desc := "()V" } : Jvm.MethodName) jdk_67_method_1_code (1 : Nat) (Option.none : Option Jvm.ClassFile.FieldType), Jvm.Cond.code ({ cls := "java/lang/AbstractStringBuilder", name := "<init>", desc := "(I)V" } : Jvm.MethodName) jdk_68_method_2_code (2 : Nat) (Option.none : Option Jvm.ClassFile.FieldType), Jvm.Cond.code ({ cls := "com/example/nodewarden/nodewarden/core/Asides", name := "isAt", desc := "(III)Z" } : Jvm.MethodName) prog_3_method_5_code (4 : Nat) (Option.some Jvm.ClassFile.FieldType.boolean), Jvm.Cond.code ({ cls := "com/example/nodewarden/nodewarden/core/Asides", name := "addComment", desc := "(III[CII)V" } : Jvm.MethodName) prog_3_method_2_code (7 : Nat) (Option.none : Option Jvm.ClassFile.FieldType), Jvm.Cond.code ({ cls := "java/lang/StringBuilder", name := "append", desc := "([CII)Ljava/lang/StringBuilder;" } : Jvm.MethodName) jdk_67_method_12_code (4 : Nat) (Option.some (Jvm.ClassFile.FieldType.object "java/lang/StringBuilder")), Jvm.Cond.code ({ cls := "java/lang/AbstractStringBuilder", name := "append", desc := "([CII)Ljava/lang/AbstractStringBuilder;" } : Jvm.MethodName) jdk_68_method_29_code (5 : Nat) (Option.some (Jvm.ClassFile.FieldType.object "java/lang/AbstractStringBuilder")), Jvm.Cond.code ({ cls := "jdk/internal/util/Preconditions", name := "checkFromToIndex", desc := "(IIILjava/util/function/BiFunction;)I" } : Jvm.MethodName) jdk_41_method_12_code (4 : Nat) (Option.some Jvm.ClassFile.FieldType.int), Jvm.Cond.code ({ cls := "java/lang/AbstractStringBuilder", name := "ensureCapacityInternal", desc := "(I)V" } : Jvm.MethodName) jdk_68_method_9_code (3 : Nat) (Option.none : Option Jvm.ClassFile.FieldType), Jvm.Cond.code ({ cls := "java/lang/AbstractStringBuilder", name := "appendChars", desc := "([CII)V" } : Jvm.MethodName) jdk_68_method_74_code (9 : Nat) (Option.none : Option Jvm.ClassFile.FieldType), Jvm.Cond.code ({ cls := "java/lang/AbstractStringBuilder", name := "isLatin1", desc := "()Z" } : Jvm.MethodName) jdk_68_method_68_code (1 : Nat) (Option.some Jvm.ClassFile.FieldType.boolean), Jvm.Cond.code ({ cls := "com/example/nodewarden/nodewarden/core/Asides", name := "add", desc := "(IIII)V" } : Jvm.MethodName) prog_3_method_13_code (6 : Nat) (Option.none : Option Jvm.ClassFile.FieldType), Jvm.Cond.code ({ cls := "java/lang/Math", name := "max", desc := "(II)I" } : Jvm.MethodName) jdk_29_method_65_code (2 : Nat) (Option.some Jvm.ClassFile.FieldType.int), Jvm.Cond.code ({ cls := "java/util/Arrays", name := "copyOf", desc := "([II)[I" } : Jvm.MethodName) jdk_65_method_123_code (3 : Nat) (Option.some (Jvm.ClassFile.FieldType.array Jvm.ClassFile.FieldType.int)), Jvm.Cond.code ({ cls := "java/lang/Math", name := "min", desc := "(II)I" } : Jvm.MethodName) jdk_29_method_69_code (2 : Nat) (Option.some Jvm.ClassFile.FieldType.int), Jvm.Cond.code ({ cls := "java/lang/StringBuilder", name := "length", desc := "()I" } : Jvm.MethodName) jdk_67_method_93_code (1 : Nat) (Option.some Jvm.ClassFile.FieldType.int), Jvm.Cond.code ({ cls := "java/lang/AbstractStringBuilder", name := "length", desc := "()I" } : Jvm.MethodName) jdk_68_method_6_code (1 : Nat) (Option.some Jvm.ClassFile.FieldType.int), Jvm.Cond.code ({ cls := "com/example/nodewarden/nodewarden/core/Asides", name := "addInstruction", desc := "(IIILjava/lang/String;Ljava/lang/String;)V" } : Jvm.MethodName) prog_3_method_3_code (7 : Nat) (Option.none : Option Jvm.ClassFile.FieldType), Jvm.Cond.code ({ cls := "java/lang/StringBuilder", name := "append", desc := "(Ljava/lang/String;)Ljava/lang/StringBuilder;" } : Jvm.MethodName) jdk_67_method_7_code (2 : Nat) (Option.some (Jvm.ClassFile.FieldType.object "java/lang/StringBuilder")), Jvm.Cond.code ({ cls := "java/lang/AbstractStringBuilder", name := "append", desc := "(Ljava/lang/String;)Ljava/lang/AbstractStringBuilder;" } : Jvm.MethodName) jdk_68_method_22_code (3 : Nat) (Option.some (Jvm.ClassFile.FieldType.object "java/lang/AbstractStringBuilder")), Jvm.Cond.code ({ cls := "java/lang/String", name := "length", desc := "()I" } : Jvm.MethodName) jdk_42_method_54_code (1 : Nat) (Option.some Jvm.ClassFile.FieldType.int), Jvm.Cond.code ({ cls := "java/lang/String", name := "coder", desc := "()B" } : Jvm.MethodName) jdk_42_method_152_code (1 : Nat) (Option.some Jvm.ClassFile.FieldType.byte), Jvm.Cond.code ({ cls := "java/lang/AbstractStringBuilder", name := "putStringAt", desc := "(ILjava/lang/String;)V" } : Jvm.MethodName) jdk_68_method_73_code (3 : Nat) (Option.none : Option Jvm.ClassFile.FieldType), Jvm.Cond.code ({ cls := "java/lang/AbstractStringBuilder", name := "inflateIfNeededFor", desc := "(Ljava/lang/String;)V" } : Jvm.MethodName) jdk_68_method_71_code (2 : Nat) (Option.none : Option Jvm.ClassFile.FieldType), Jvm.Cond.code ({ cls := "java/lang/String", name := "getBytes", desc := "([BIB)V" } : Jvm.MethodName) jdk_42_method_147_code (4 : Nat) (Option.none : Option Jvm.ClassFile.FieldType), Jvm.Cond.code ({ cls := "com/example/nodewarden/nodewarden/core/Asides", name := "close", desc := "()V" } : Jvm.MethodName) prog_3_method_4_code (1 : Nat) (Option.none : Option Jvm.ClassFile.FieldType), Jvm.Cond.code ({ cls := "java/lang/StringBuilder", name := "trimToSize", desc := "()V" } : Jvm.MethodName) jdk_67_method_90_code (1 : Nat) (Option.none : Option Jvm.ClassFile.FieldType), Jvm.Cond.code ({ cls := "java/lang/AbstractStringBuilder", name := "trimToSize", desc := "()V" } : Jvm.MethodName) jdk_68_method_12_code (2 : Nat) (Option.none : Option Jvm.ClassFile.FieldType), Jvm.Cond.code ({ cls := "java/util/Arrays", name := "copyOf", desc := "([BI)[B" } : Jvm.MethodName) jdk_65_method_121_code (3 : Nat) (Option.some (Jvm.ClassFile.FieldType.array Jvm.ClassFile.FieldType.byte))]
set_option maxRecDepth 65536 in
theorem codes_eq : words1.filter isCode = codes1 := rfl
theorem w_codes : ∀ c ∈ words1.filter isCode, c.before args0 about1 = true := by
  rw [codes_eq]
  intro c hc
  simp only [codes1, List.mem_cons, List.not_mem_nil, or_false] at hc
  rcases hc with rfl | rfl | rfl | rfl | rfl | rfl | rfl | rfl | rfl | rfl | rfl | rfl | rfl | rfl | rfl | rfl | rfl | rfl | rfl | rfl | rfl | rfl | rfl | rfl | rfl | rfl | rfl | rfl | rfl | rfl | rfl
  · exact w_c0
  · exact w_c1
  · exact w_c2
  · exact w_c3
  · exact w_c4
  · exact w_c5
  · exact w_c6
  · exact w_c7
  · exact w_c8
  · exact w_c9
  · exact w_c10
  · exact w_c11
  · exact w_c12
  · exact w_c13
  · exact w_c14
  · exact w_c15
  · exact w_c16
  · exact w_c17
  · exact w_c18
  · exact w_c19
  · exact w_c20
  · exact w_c21
  · exact w_c22
  · exact w_c23
  · exact w_c24
  · exact w_c25
  · exact w_c26
  · exact w_c27
  · exact w_c28
  · exact w_c29
  · exact w_c30
set_option maxRecDepth 65536 in
theorem w_t1 : (words1.take 24).all (fun c => isCode c || c.before args0 about1) = true := by decide +kernel
set_option maxRecDepth 65536 in
theorem w_t2 : ((words1.drop 24).take 24).all (fun c => isCode c || c.before args0 about1) = true := by decide +kernel
set_option maxRecDepth 65536 in
theorem w_t3 : (((words1.drop 24).drop 24).take 24).all (fun c => isCode c || c.before args0 about1) = true := by decide +kernel
set_option maxRecDepth 65536 in
theorem w_t4 : ((((words1.drop 24).drop 24).drop 24).take 24).all (fun c => isCode c || c.before args0 about1) = true := by decide +kernel
set_option maxRecDepth 65536 in
theorem w_t5 : (((((words1.drop 24).drop 24).drop 24).drop 24).take 24).all (fun c => isCode c || c.before args0 about1) = true := by decide +kernel
set_option maxRecDepth 65536 in
theorem w_t6 : ((((((words1.drop 24).drop 24).drop 24).drop 24).drop 24).take 24).all (fun c => isCode c || c.before args0 about1) = true := by decide +kernel
set_option maxRecDepth 65536 in
theorem w_t7 : (((((((words1.drop 24).drop 24).drop 24).drop 24).drop 24).drop 24).take 24).all (fun c => isCode c || c.before args0 about1) = true := by decide +kernel
set_option maxRecDepth 65536 in
theorem w_t8 : (((((((words1.drop 24).drop 24).drop 24).drop 24).drop 24).drop 24).drop 24).all (fun c => isCode c || c.before args0 about1) = true := by decide +kernel
theorem w_tables : (allAtoms (Jvm.Cond.code x code maxLocals ret :: tables_1)).before args0 about1 = true := by
  rw [allAtoms_all]
  show words1.all (fun c => c.before args0 about1) = true
  refine all_split ?_ w_codes
  rw [← List.take_append_drop 24 words1, List.all_append, w_t1, ← List.take_append_drop 24 (words1.drop 24), List.all_append, w_t2, ← List.take_append_drop 24 ((words1.drop 24).drop 24), List.all_append, w_t3, ← List.take_append_drop 24 (((words1.drop 24).drop 24).drop 24), List.all_append, w_t4, ← List.take_append_drop 24 ((((words1.drop 24).drop 24).drop 24).drop 24), List.all_append, w_t5, ← List.take_append_drop 24 (((((words1.drop 24).drop 24).drop 24).drop 24).drop 24), List.all_append, w_t6, ← List.take_append_drop 24 ((((((words1.drop 24).drop 24).drop 24).drop 24).drop 24).drop 24), List.all_append, w_t7, w_t8]
  rfl
set_option maxRecDepth 65536 in
theorem w_rest : rest_1_c.before args0 about1 = true := by decide +kernel
set_option maxRecDepth 65536 in
theorem w_case : (Jvm.Cond.and given_1 narrow_1).before args0 about1 = true := by decide +kernel
set_option maxRecDepth 65536 in
theorem w_consts : constsHeld consts_1 about1 := Jvm.Lit.constsHeldB_iff.mp (by decide +kernel)
theorem w_applies : (headSpec (Jvm.Cond.code x code maxLocals ret :: tables_1) room_1).applies x e0.platform about1 = true :=
  (Spec.applies_iff w_frames).mpr ⟨w_running, w_runnable, w_alone, w_named, w_hears, w_ripe, w_room, w_tables⟩
theorem atStart : AtStart classFile x code maxLocals ret World_1 tables_1 room_1 Calls_1 rest_1 Pre_1 launch0 p0 e0 about1 theMethod args0 below0 :=
  ⟨lists_1, trivial, launch0.admits_env _ _ _, launch0.least_env, fairChoices_fair.cas, fairChoices_fair.clock, w_frames, w_args, w_heap, w_applies, ⟨w_consts, trivial⟩, w_rest, w_case⟩
end start1
theorem witness_1 : WitnessClaimed_1 := ⟨start1.p0, start1.e0, start1.about1, start1.theMethod, start1.args0, start1.below0, start1.atStart⟩
end Jvm.Pilot.@@N@@
