import JvmDerived
import JvmDerived.Pilot.@@N@@Statement
import JvmDerived.Pilot.@@N@@Code
set_option linter.unusedVariables false
set_option linter.unusedSimpArgs false
namespace Jvm.OwnKit
open Jvm Sem ClassFile Op Lib Jvm.Stand Jvm.Free Jvm.LawKit Jvm.RoadKit Bundle
/-- the rest of the walk comes to an end that Q allows -/
def Go (p : Program) (e : Env) (below : List Frame) (Q : Outcome → State → Prop) (t : State) : Prop :=
  ∃ s₂ o, Steps p.tables e below t s₂ ∧ s₂.status = .running ∧ Ended s₂ below o ∧ Q o s₂
theorem Go.of {p : Program} {e : Env} {below : List Frame} {Q : Outcome → State → Prop} {t t' : State} (h : ∀ target, Steps p.tables e below t' target → Steps p.tables e below t target) (g : Go p e below Q t') : Go p e below Q t := by
  obtain ⟨s₂, o, h1, r⟩ := g
  exact ⟨s₂, o, h _ h1, r⟩
/-- where the walk stands: T the state, V the tables on which it leans, h the heap, k cells and n slots booked -/
def St (p : Program) (l : Launch) (e : Env) (R : Room) (s : State) (m : MethodId) (args : Array Value) (below : List Frame) (meth : Method) (c : Code) (Z : State) (a0 : Array Value) (EL : List (String × Nat)) (n0 : Nat) (own : String) (T : State) (V : Vm) (h : Heap) (k n : Nat) : Prop :=
  p.tables.exec = Jvm.exec ∧ T.heap = h ∧ Z.Warmed39 V ∧ V.findClass own = some m.cls ∧ Old Z n0 h ∧ EW Z a0 EL ∧ CHr Z EL s.vm s.heap V h ∧ meth.locks = false ∧
  ∃ locs k0, Stand p l e R (s.setVm V) m args below meth c T locs k n ∧ s.Since V k0 ∧ k0 ≤ h.size ∧ Fr n0 locs
/-- the end of a walk -/
def FiniV (Z : State) (EL : List (String × Nat)) (n0 : Nat) (s : State) (rm : Room) (Q : Option Value → Heap → Vm → Prop) (o : Outcome) (U : State) : Prop :=
  ∃ v L, o = .returned v ∧ (Q v U.heap U.vm ∧ Fr n0 L ∧ Old Z n0 U.heap) ∧ CHr Z EL s.vm s.heap U.vm U.heap ∧ ReturnedEndW s o U L rm.cells rm.slots
abbrev Fini (Z : State) (EL : List (String × Nat)) (n0 : Nat) (s : State) (rm : Room) (Q : Option Value → Heap → Prop) : Outcome → State → Prop := FiniV Z EL n0 s rm (fun v h _ => Q v h)
/-- a callee's contract: handed as' at the heap h it returns v at a heap h' with Q v h' (and the tables there) -/
def CtrV (l : Launch) (Z : State) (EL : List (String × Nat)) (n0 : Nat) (y : MethodName) (bytes : ByteArray) (maxL : Nat) (ret : Option FieldType) (rm : Room) (as' : Array Value) (h : Heap) (sfs : List Addr) (Q : Option Value → Heap → Vm → Prop) : Prop :=
  ∀ ws : List Cond, MetFree l y (head1 (Cond.code y bytes maxL ret :: ws) rm) (fun a U => a = as' ∧ Z.Warmed39 U.vm ∧ U.heap = h ∧ CHv Z EL U.vm h ∧ ∀ x ∈ sfs, Safe Z EL U.vm h x) (fun _ _ _ _ _ => True) (fun _ U o U' => FiniV Z EL n0 U rm Q o U')
abbrev Ctr (l : Launch) (Z : State) (EL : List (String × Nat)) (n0 : Nat) (y : MethodName) (bytes : ByteArray) (maxL : Nat) (ret : Option FieldType) (rm : Room) (as' : Array Value) (h : Heap) (sfs : List Addr) (Q : Option Value → Heap → Prop) : Prop := CtrV l Z EL n0 y bytes maxL ret rm as' h sfs (fun v h _ => Q v h)
theorem ext_refl (h : Heap) : Ext h h := ⟨Nat.le_refl _, fun _ _ q => q⟩
theorem ext_trans {h h' h2 : Heap} (E : Ext h h') (F : Ext h' h2) : Ext h h2 := ⟨Nat.le_trans E.1 F.1, fun a c q => F.2 a c (E.2 a c q)⟩
theorem ext_keep {h h' h2 : Heap} {ws : List Addr} (E : Ext h h') (K : Keep h' h2 ws) (q : ∀ x ∈ ws, h.size ≤ x) : Ext h h2 := ⟨Nat.le_trans E.1 K.1, fun a c r => K.2.1 a c (E.2 a c r) fun z => absurd (Array.getElem?_eq_some_iff.mp r).1 (Nat.not_lt.mpr (q a z))⟩
theorem ext_keep1 {h h' h2 : Heap} {a : Addr} (E : Ext h h') (K : Keep h' h2 [a]) (q : h.size ≤ a) : Ext h h2 := ext_keep E K (allS q all0)
/-- arrays of two kinds are two -/
theorem arv_kne {Z : State} {h : Heap} {a b : Addr} {k1 k2 : ClassId} {t1 t2 : FieldType} {z1 z2 : Int32} {v1 v2 : List Value} {d1 d2 : Value} (A : Arv Z h a k1 t1 z1 v1 d1) (B : Arv Z h b k2 t2 z2 v2 d2) (hn : t1 ≠ t2) : a ≠ b := fun e => by
  subst e
  obtain ⟨c1, ⟨a1, ⟨-, kA, hkA, compA, hkindA⟩, -⟩, -⟩ := A
  obtain ⟨c2, ⟨b1, ⟨-, kB, hkB, compB, hkindB⟩, -⟩, -⟩ := B
  cases a1.symm.trans b1
  cases hkA.symm.trans hkB
  have q := hkindA.symm.trans hkindB
  injection q with _ e
  exact hn e
theorem faS {P : Int32 → Prop} {y : Int32} {L : List Int32} (q : P y) (r : ∀ x ∈ L, P x) : ∀ x ∈ y :: L, P x := fun x z => (List.mem_cons.mp z).elim (fun u => u ▸ q) (r x)
theorem fa0 {P : Int32 → Prop} : ∀ x ∈ ([] : List Int32), P x := fun _ q => nomatch q
theorem sf1 {Z : State} {EL : List (String × Nat)} {V : Vm} {h : Heap} {x : Addr} (q : x < h.size) (r : Safe Z EL V h x) : ∀ y ∈ [x], y < h.size ∧ Safe Z EL V h y := fun y z => by cases List.mem_singleton.mp z; exact ⟨q, r⟩
theorem narC {x : Int32} (h : ¬ x < 0 ∧ ¬ (65535 : Int32) < x) : nar .char x = x := by
  obtain ⟨h1, h2⟩ := h
  have q := c_i2c x
  rw [Int32.lt_iff_toInt_lt] at h1 h2
  have e1 : (65535 : Int32).toInt = 65535 := rfl
  have e2 : (0 : Int32).toInt = 0 := rfl
  show x.toUInt32.toUInt16.toUInt32.toInt32 = x
  apply Int32.toInt_inj.mp
  omega
theorem narC8 {x : Int32} (h : ¬ x < 0 ∧ ¬ (255 : Int32) < x) : nar .char x = x := narC ⟨h.1, fun q => h.2 (by rw [Int32.lt_iff_toInt_lt] at q ⊢; have e1 : (65535 : Int32).toInt = 65535 := rfl; have e2 : (255 : Int32).toInt = 255 := rfl; omega)⟩
/-- x & 255 -/
theorem and255 (x : Int32) : ¬ (x &&& 255) < 0 ∧ ¬ (255 : Int32) < (x &&& 255) := by
  have q := c_mask x 255 8 (by decide) (by decide)
  have e1 : (255 : Int32).toInt = 255 := rfl
  have e2 : (0 : Int32).toInt = 0 := rfl
  rw [Int32.lt_iff_toInt_lt, Int32.lt_iff_toInt_lt]
  omega
theorem and255L (x : Int64) : ¬ (x &&& 255).toInt32 < 0 ∧ ¬ (255 : Int32) < (x &&& 255).toInt32 := by
  have q := c_maskL x 255 8 (by decide) (by decide)
  have r := c_l2i (x &&& 255)
  have s := rng32 (x &&& 255).toInt32
  have e1 : (255 : Int32).toInt = 255 := rfl
  have e2 : (0 : Int32).toInt = 0 := rfl
  rw [Int32.lt_iff_toInt_lt, Int32.lt_iff_toInt_lt]
  omega
/-- an object of a class right under the root is none of another class -/
theorem noSub1 {Z : State} {a0 : Array Value} {C O K : String} {n : Nat} (w : (Cond.superclass C O).before a0 Z = true) (wo : (Cond.noSuperclass O).before a0 Z = true) (wi : (Cond.instantiable K n).before a0 Z = true) (h1 : C ≠ K) (h2 : O ≠ K) : ∃ c t, Z.vm.findClass C = some c ∧ Z.vm.findClass K = some t ∧ Z.vm.assignable c t = false := by
  obtain ⟨t, kt, g1, g2, g3, g4, -⟩ := Cond.instantiable_spec wi
  obtain ⟨co, ko, o1, o2, o3, -, -⟩ := Cond.noSuperclass_spec wo
  have g5 : kt.isInterface = false := (Bool.or_eq_false_iff.mp g4).1
  have nO : NS Z O K := ⟨co, t, o1, g1, fun fuel => by
    cases fuel with
    | zero => rfl
    | succ f => simp [Vm.isSubclassAux, ids_ne o1 g1 h2, o2, o3]⟩
  obtain ⟨c, t', h0, g0, n3⟩ := NS.step w nO h1
  cases g1.symm.trans g0
  obtain ⟨p, k, kp, q1, q2, q3, q4, q5, -, q7⟩ := Cond.superclass_spec h0 w
  refine ⟨c, t, h0, g1, ?_⟩
  show Z.vm.assignableAux (255 + 1) c t = false
  simp [Vm.assignableAux, ids_ne h0 g1 h1, q2, g2, q5, g3, g5, Vm.isSubclass, n3]
/-- a class that is no interface -/
def NI (Z : State) (K : String) : Prop := ∃ c k, Z.vm.findClass K = some c ∧ Z.vm.classes[c]? = some k ∧ k.isInterface = false
theorem ni_inst {Z : State} {a0 : Array Value} {K : String} {n : Nat} (w : (Cond.instantiable K n).before a0 Z = true) : NI Z K := by
  obtain ⟨c, k, g1, g2, -, g4, -⟩ := Cond.instantiable_spec w
  exact ⟨c, k, g1, g2, (Bool.or_eq_false_iff.mp g4).1⟩
theorem ni_sel {Z : State} {a0 : Array Value} {C : String} {y z : MethodName} (w : (Cond.selects C y z).before a0 Z = true) {K : String} (e : z.cls = K) : NI Z K := by
  subst e
  obtain ⟨-, -, m, -, -, g3, -, mk, g5, g6⟩ := Cond.selects_spec w
  exact ⟨m.cls, mk, findClass_of_methodNamed g3, g5, g6⟩
theorem NI.mv {Z : State} {V : Vm} {K : String} (N : NI Z K) (hZ : Z.Warmed39 V) : ∃ c k, V.findClass K = some c ∧ V.classes[c]? = some k ∧ k.isInterface = false := by
  obtain ⟨c, k, g1, g2, g3⟩ := N
  obtain ⟨k', hk', ek⟩ := hZ.alike.2.2 _ _ g2
  exact ⟨c, k', by rw [hZ.alike.findClass]; exact g1, hk', by rw [ek]; exact g3⟩
theorem same_own {Z : State} {a0 : Array Value} {y : MethodName} (N : NI Z y.cls) (wi : (Cond.instanceMethod y).before a0 Z = true) (hy : y.cls ≠ "java/lang/invoke/MethodHandle" ∧ y.cls ≠ "java/lang/invoke/VarHandle") : (Cond.sameMethod y.cls y.cls y.name y.desc).before a0 Z = true := by
  obtain ⟨c, k, g1, g2, g3⟩ := N
  obtain ⟨m, meth, h1, -⟩ := Cond.instanceMethod_spec wi
  have h2 := State.methodFound?_of_named h1 hy
  simp [Cond.before, Cond.holds, Cond.value, g1, h1, h2, g2, g3]
theorem sel_own {Z : State} {a0 : Array Value} {V : Vm} (hZ : Z.Warmed39 V) {s : State} (e : s.vm = V) {args : Array Value} {y : MethodName} (N : NI Z y.cls) (wi : (Cond.instanceMethod y).before args s = true) (wp : s.PrivateAt y) (hy : y.cls ≠ "java/lang/invoke/MethodHandle" ∧ y.cls ≠ "java/lang/invoke/VarHandle") : (Cond.selects y.cls y y).before args s = true := by
  subst e
  obtain ⟨c, k, g1, g2, g3⟩ := N.mv hZ
  obtain ⟨m, meth, h1, h3, -⟩ := Cond.instanceMethod_spec wi
  have h2 := State.methodFound?_of_named h1 hy
  have h4 : selectMethod {} s.vm c m = .method m := selectMethod_private h3 (wp m meth h1 h3)
  have h5 := findClass_of_methodNamed h1
  cases g1.symm.trans h5
  simp [Cond.before, Cond.holds, Cond.value, g1, h1, h2, h4, g2, g3]
section Steps
variable {p : Program} {l : Launch} {e : Env} {R : Room} {s : State} {m : MethodId} {args : Array Value} {below : List Frame} {meth : Method} {c : Code} {Z : State} {a0 : Array Value} {EL : List (String × Nat)} {n0 : Nat} {own : String} {T : State} {V : Vm} {h : Heap} {k n : Nat} {Q : Outcome → State → Prop} {pc : Nat} {Ls : Array Slot} {rest : List Value}
theorem St.hx (S : St p l e R s m args below meth c Z a0 EL n0 own T V h k n) : p.tables.exec = Jvm.exec := S.1
theorem St.here (S : St p l e R s m args below meth c Z a0 EL n0 own T V h k n) : At T m c below := by
  obtain ⟨-, -, -, -, -, -, -, -, locs, k0, X, -⟩ := S; exact X.here
theorem St.old (S : St p l e R s m args below meth c Z a0 EL n0 own T V h k n) : Old Z n0 h := S.2.2.2.2.1
theorem St.chv (S : St p l e R s m args below meth c Z a0 EL n0 own T V h k n) : CHv Z EL V h := S.2.2.2.2.2.2.1.1
theorem St.warm (S : St p l e R s m args below meth c Z a0 EL n0 own T V h k n) : Z.Warmed39 V := S.2.2.1
theorem St.ew (S : St p l e R s m args below meth c Z a0 EL n0 own T V h k n) : EW Z a0 EL := S.2.2.2.2.2.1
theorem St.le (S : St p l e R s m args below meth c Z a0 EL n0 own T V h k n) : n0 ≤ h.size := S.old.1 ▸ S.old.2.1
theorem St.mono (S : St p l e R s m args below meth c Z a0 EL n0 own T V h k n) {k' n' : Nat} (hk' : k ≤ k') (hn' : n ≤ n') : St p l e R s m args below meth c Z a0 EL n0 own T V h k' n' := by
  obtain ⟨hx, eT, hZ, hown, hO, hE, hC, hlk, locs, k0, X, hS, hk, hF⟩ := S
  exact ⟨hx, eT, hZ, hown, hO, hE, hC, hlk, locs, k0, X.mono hk' hn', hS, hk, hF⟩
/-- a callee is entered -/
theorem CtrV.intro {y : MethodName} {bytes : ByteArray} {maxL : Nat} {ret : Option FieldType} {rm : Room} {as' : Array Value} {sfs : List Addr} {QQ : Option Value → Heap → Vm → Prop} (hp : plainFor y = true) (hO : Old Z n0 h) (hE : EW Z a0 EL)
    (body : ∀ (p : Program) (e : Env) (s : State) (m : MethodId) (below : List Frame) (meth : Method) (c : Code) (T : State) (V : Vm), St p l e rm s m as' below meth c Z a0 EL n0 y.cls T V h 0 0 → c.code = bytes → c.maxLocals = maxL → meth.sig.returnType = ret → meth.name = y.name → (∀ x ∈ sfs, Safe Z EL V h x) →
      Go p e below (FiniV Z EL n0 s rm QQ) (T.setTop (entryFrame m as' maxL))) :
    CtrV l Z EL n0 y bytes maxL ret rm as' h sfs QQ := by
  intro ws
  refine MetFree.of_bodySF hp hisR ?_
  intro p e s m args below meth c s₁ Bd hml0 hP hK
  obtain ⟨rfl, hZ, hh, hC, hsf⟩ := hP
  have X0 : Stand p l e rm s m args below meth c s₁ [] 0 0 := Stand.of_body Bd
  have e0 : s₁.heap = h := by rw [← hh, Bd.state]; rfl
  have hC0 : CHr Z EL s.vm s.heap s.vm h := by rw [hh]; exact CHr.refl hC
  exact body p e s m below meth c s₁ s.vm ⟨Bd.exec, e0, hZ, findClass_of_methodNamed Bd.named, hO, hE, hC0, Bd.notSynchronized, [], h.size, X0, (State.WarmedH.refl s).since _, Nat.le_refl _, Fr.nil n0⟩ Bd.bytes hml0 Bd.returns (name_of_methodNamed Bd.named Bd.method).1 hsf
theorem Ctr.intro {y : MethodName} {bytes : ByteArray} {maxL : Nat} {ret : Option FieldType} {rm : Room} {as' : Array Value} {sfs : List Addr} {QQ : Option Value → Heap → Prop} (hp : plainFor y = true) (hO : Old Z n0 h) (hE : EW Z a0 EL)
    (body : ∀ (p : Program) (e : Env) (s : State) (m : MethodId) (below : List Frame) (meth : Method) (c : Code) (T : State) (V : Vm), St p l e rm s m as' below meth c Z a0 EL n0 y.cls T V h 0 0 → c.code = bytes → c.maxLocals = maxL → meth.sig.returnType = ret → meth.name = y.name → (∀ x ∈ sfs, Safe Z EL V h x) →
      Go p e below (Fini Z EL n0 s rm QQ) (T.setTop (entryFrame m as' maxL))) :
    Ctr l Z EL n0 y bytes maxL ret rm as' h sfs QQ := CtrV.intro hp hO hE body
theorem St.endV {QQ : Option Value → Heap → Vm → Prop} (S : St p l e R s m args below meth c Z a0 EL n0 own T V h k n) {v : Option Value} (hv : meth.sig.returnType = none → v = none) (q : (∀ x, x < h.size → Safe Z EL V h x → Safe Z EL T.vm h x) → QQ v h T.vm) (hc : k ≤ R.cells) (hl : n ≤ R.slots) {t : State}
    (st : ∀ fs, (∀ (f : JFrame) (acts : List Action), f.method = m → f.locked = none → f.entered = [] → (doReturn e (T.setTop f) acts v).1 = T.setFrames fs) → Steps p.tables e below t (T.setFrames fs)) : Go p e below (FiniV Z EL n0 s R QQ) t := by
  obtain ⟨hx, eT, hZ, hown, hO, hE, hC, hlk, locs, k0, X, hS, hk, hF⟩ := S
  subst eT
  obtain ⟨fs, hr, hrun, hend, hw⟩ := X.leaveW hS hk hv hlk
  have qc := CHv.at X hZ hE hC.1
  refine ⟨_, _, st fs hr, hrun, hend, v, locs, rfl, ⟨q fun x hx sx => qc.safe hx sx, hF, hO⟩, (show CHr Z EL s.vm s.heap T.vm T.heap from hC.trans (CHv.at X hZ hE hC.1)), ?_⟩
  obtain ⟨w1, w2, w3, w4⟩ := hw
  exact ⟨w1, w2, w3, w4.mono hc hl⟩
theorem St.end_ {QQ : Option Value → Heap → Prop} (S : St p l e R s m args below meth c Z a0 EL n0 own T V h k n) {v : Option Value} (hv : meth.sig.returnType = none → v = none) (q : QQ v h) (hc : k ≤ R.cells) (hl : n ≤ R.slots) {t : State}
    (st : ∀ fs, (∀ (f : JFrame) (acts : List Action), f.method = m → f.locked = none → f.entered = [] → (doReturn e (T.setTop f) acts v).1 = T.setFrames fs) → Steps p.tables e below t (T.setFrames fs)) : Go p e below (Fini Z EL n0 s R QQ) t := S.endV (QQ := fun v h _ => QQ v h) hv (fun _ => q) hc hl st
theorem g_aretV {QQ : Option Value → Heap → Vm → Prop} {v : Value} (S : St p l e R s m args below meth c Z a0 EL n0 own T V h k n) (hd : decode c.code pc = .ok (.areturn, 1)) {t : FieldType} (hret : meth.sig.returnType = some t) (ht : t.isReference = true) (hn : narrow t v = v) (hv : v.isRef = true) (q : (∀ x, x < h.size → Safe Z EL V h x → Safe Z EL T.vm h x) → QQ (some v) h T.vm) (hc : k ≤ R.cells := by exact Nat.le_of_ble_eq_true rfl) (hl : n ≤ R.slots := by exact Nat.le_of_ble_eq_true rfl) : Go p e below (FiniV Z EL n0 s R QQ) (T.setTop (mkF m pc Ls (v :: rest))) := by
  refine S.endV (v := some v) (fun h => by rw [hret] at h; cases h) q hc hl fun fs hr => ?_
  obtain ⟨hx, eT, hZ, hown, hO, hE, hC, hlk, locs, k0, X, hS, hk, hF⟩ := S
  exact retOut X hx hret hn (Or.inr (Or.inr (Or.inr (Or.inr ⟨rfl, ht, hv⟩)))) hd hr
theorem g_retV {QQ : Option Value → Heap → Vm → Prop} (S : St p l e R s m args below meth c Z a0 EL n0 own T V h k n) (hd : decode c.code pc = .ok (.return_, 1)) (hret : meth.sig.returnType = none) (q : (∀ x, x < h.size → Safe Z EL V h x → Safe Z EL T.vm h x) → QQ none h T.vm) (hc : k ≤ R.cells := by exact Nat.le_of_ble_eq_true rfl) (hl : n ≤ R.slots := by exact Nat.le_of_ble_eq_true rfl) : Go p e below (FiniV Z EL n0 s R QQ) (T.setTop (mkF m pc Ls [])) := by
  refine S.endV (v := none) (fun _ => rfl) q hc hl fun fs hr => ?_
  obtain ⟨hx, eT, hZ, hown, hO, hE, hC, hlk, locs, k0, X, hS, hk, hF⟩ := S
  exact X.returnOut hx hret hd hr
theorem g_ret {QQ : Option Value → Heap → Prop} (S : St p l e R s m args below meth c Z a0 EL n0 own T V h k n) (hd : decode c.code pc = .ok (.return_, 1)) (hret : meth.sig.returnType = none) (q : QQ none h) (hc : k ≤ R.cells := by exact Nat.le_of_ble_eq_true rfl) (hl : n ≤ R.slots := by exact Nat.le_of_ble_eq_true rfl) : Go p e below (Fini Z EL n0 s R QQ) (T.setTop (mkF m pc Ls [])) := by
  refine S.end_ (v := none) (fun _ => rfl) q hc hl fun fs hr => ?_
  obtain ⟨hx, eT, hZ, hown, hO, hE, hC, hlk, locs, k0, X, hS, hk, hF⟩ := S
  exact X.returnOut hx hret hd hr
theorem g_iretN {QQ : Option Value → Heap → Prop} {z : Int32} (S : St p l e R s m args below meth c Z a0 EL n0 own T V h k n) (hd : decode c.code pc = .ok (.ireturn, 1)) {t : FieldType} (hret : meth.sig.returnType = some t) (ht : t = .boolean ∨ t = .byte ∨ t = .char ∨ t = .short) (q : QQ (some (.int (nar t z))) h) (hc : k ≤ R.cells := by exact Nat.le_of_ble_eq_true rfl) (hl : n ≤ R.slots := by exact Nat.le_of_ble_eq_true rfl) : Go p e below (Fini Z EL n0 s R QQ) (T.setTop (mkF m pc Ls (.int z :: rest))) := by
  refine S.end_ (v := some (.int (nar t z))) (fun h => by rw [hret] at h; cases h) q hc hl fun fs hr => ?_
  obtain ⟨hx, eT, hZ, hown, hO, hE, hC, hlk, locs, k0, X, hS, hk, hF⟩ := S
  exact retN X hx hret ht hd hr
theorem g_iret {QQ : Option Value → Heap → Prop} {z : Int32} (S : St p l e R s m args below meth c Z a0 EL n0 own T V h k n) (hd : decode c.code pc = .ok (.ireturn, 1)) (hret : meth.sig.returnType = some .int) (q : QQ (some (.int z)) h) (hc : k ≤ R.cells := by exact Nat.le_of_ble_eq_true rfl) (hl : n ≤ R.slots := by exact Nat.le_of_ble_eq_true rfl) : Go p e below (Fini Z EL n0 s R QQ) (T.setTop (mkF m pc Ls (.int z :: rest))) := by
  refine S.end_ (v := some (.int z)) (fun h => by rw [hret] at h; cases h) q hc hl fun fs hr => ?_
  obtain ⟨hx, eT, hZ, hown, hO, hE, hC, hlk, locs, k0, X, hS, hk, hF⟩ := S
  exact retOut X hx hret rfl (Or.inl ⟨rfl, Or.inl rfl, z, rfl⟩) hd hr
theorem g_lret {QQ : Option Value → Heap → Prop} {z : Int64} (S : St p l e R s m args below meth c Z a0 EL n0 own T V h k n) (hd : decode c.code pc = .ok (.lreturn, 1)) (hret : meth.sig.returnType = some .long) (q : QQ (some (.long z)) h) (hc : k ≤ R.cells := by exact Nat.le_of_ble_eq_true rfl) (hl : n ≤ R.slots := by exact Nat.le_of_ble_eq_true rfl) : Go p e below (Fini Z EL n0 s R QQ) (T.setTop (mkF m pc Ls (.long z :: rest))) := by
  refine S.end_ (v := some (.long z)) (fun h => by rw [hret] at h; cases h) q hc hl fun fs hr => ?_
  obtain ⟨hx, eT, hZ, hown, hO, hE, hC, hlk, locs, k0, X, hS, hk, hF⟩ := S
  exact retOut X hx hret rfl (Or.inr (Or.inl ⟨rfl, rfl, z, rfl⟩)) hd hr
theorem g_aret {QQ : Option Value → Heap → Prop} {v : Value} (S : St p l e R s m args below meth c Z a0 EL n0 own T V h k n) (hd : decode c.code pc = .ok (.areturn, 1)) {t : FieldType} (hret : meth.sig.returnType = some t) (ht : t.isReference = true) (hn : narrow t v = v) (hv : v.isRef = true) (q : QQ (some v) h) (hc : k ≤ R.cells := by exact Nat.le_of_ble_eq_true rfl) (hl : n ≤ R.slots := by exact Nat.le_of_ble_eq_true rfl) : Go p e below (Fini Z EL n0 s R QQ) (T.setTop (mkF m pc Ls (v :: rest))) := by
  refine S.end_ (v := some v) (fun h => by rw [hret] at h; cases h) q hc hl fun fs hr => ?_
  obtain ⟨hx, eT, hZ, hown, hO, hE, hC, hlk, locs, k0, X, hS, hk, hF⟩ := S
  exact retOut X hx hret hn (Or.inr (Or.inr (Or.inr (Or.inr ⟨rfl, ht, hv⟩)))) hd hr
theorem g_getF (S : St p l e R s m args below meth c Z a0 EL n0 own T V h k n) {R0 O nm d : String} {index : Nat} (w : (Cond.fieldLink own index R0 nm d).before a0 Z = true) (via : Via Z R0 O nm d) {a : Addr} {v : Value} (F : Fld Z h a O nm d v) (hd : decode c.code pc = .ok (.getfield index, 3))
    (go : ∀ T', St p l e R s m args below meth c Z a0 EL n0 own T' V h k n → Go p e below Q (T'.setTop (mkF m (pc + 3) Ls (v :: rest)))) : Go p e below Q (T.setTop (mkF m pc Ls (.ref a :: rest))) := by
  obtain ⟨hx, eT, hZ, hown, hO, hE, hC, hlk, locs, k0, X, hS, hk, hF⟩ := S
  obtain ⟨T', X', e', st⟩ := getF X hx hZ hown (host := "") (Or.inl w) via eT F (g := mkF m pc Ls (.ref a :: rest)) rfl rfl hd
  exact Go.of st (go T' ⟨hx, e', hZ, hown, hO, hE, hC, hlk, locs, k0, X', hS, hk, hF⟩)
theorem g_getS (S : St p l e R s m args below meth c Z a0 EL n0 own T V h k n) {R0 O nm d : String} {index : Nat} (w : (Cond.fieldLink own index R0 nm d).before a0 Z = true) (via : Via Z R0 O nm d) {v : Value} (F : Sta Z h O nm d v) (hd : decode c.code pc = .ok (.getstatic index, 3))
    (go : ∀ T', St p l e R s m args below meth c Z a0 EL n0 own T' V h k n → Go p e below Q (T'.setTop (mkF m (pc + 3) Ls (v :: rest)))) : Go p e below Q (T.setTop (mkF m pc Ls rest)) := by
  obtain ⟨hx, eT, hZ, hown, hO, hE, hC, hlk, locs, k0, X, hS, hk, hF⟩ := S
  obtain ⟨T', X', e', st⟩ := getS X hx hZ hown (host := "") w via eT F (g := mkF m pc Ls rest) rfl hd
  exact Go.of st (go T' ⟨hx, e', hZ, hown, hO, hE, hC, hlk, locs, k0, X', hS, hk, hF⟩)
theorem g_cast (S : St p l e R s m args below meth c Z a0 EL n0 own T V h k n) {K : String} {index : Nat} (w : (Cond.classLink own index K).before a0 Z = true) {a : Addr} (F : Ins Z h a K true) (hd : decode c.code pc = .ok (.checkcast index, 3))
    (go : ∀ T', St p l e R s m args below meth c Z a0 EL n0 own T' V h k n → Go p e below Q (T'.setTop (mkF m (pc + 3) Ls (.ref a :: rest)))) : Go p e below Q (T.setTop (mkF m pc Ls (.ref a :: rest))) := by
  obtain ⟨hx, eT, hZ, hown, hO, hE, hC, hlk, locs, k0, X, hS, hk, hF⟩ := S
  obtain ⟨T', X', e', st⟩ := castY X hx hZ hown w eT F (g := mkF m pc Ls (.ref a :: rest)) rfl rfl hd
  exact Go.of st (go T' ⟨hx, e', hZ, hown, hO, hE, hC, hlk, locs, k0, X', hS, hk, hF⟩)
theorem g_inst (S : St p l e R s m args below meth c Z a0 EL n0 own T V h k n) {K : String} {index : Nat} (w : (Cond.classLink own index K).before a0 Z = true) {a : Addr} (F : Ins Z h a K true) (hd : decode c.code pc = .ok (.instanceof index, 3))
    (go : ∀ T', St p l e R s m args below meth c Z a0 EL n0 own T' V h k n → Go p e below Q (T'.setTop (mkF m (pc + 3) Ls (.int 1 :: rest)))) : Go p e below Q (T.setTop (mkF m pc Ls (.ref a :: rest))) := by
  obtain ⟨hx, eT, hZ, hown, hO, hE, hC, hlk, locs, k0, X, hS, hk, hF⟩ := S
  obtain ⟨T', X', e', st⟩ := instY X hx hZ hown w eT F (g := mkF m pc Ls (.ref a :: rest)) rfl rfl hd
  exact Go.of st (go T' ⟨hx, e', hZ, hown, hO, hE, hC, hlk, locs, k0, X', hS, hk, hF⟩)
theorem g_new (S : St p l e R s m args below meth c Z a0 EL n0 own T V h k n) {C : String} {index sz : Nat} (w : (Cond.classLink own index C).before a0 Z = true) (wi : (Cond.instantiable C sz).before a0 Z = true) (wz : (Cond.initialized C).before a0 Z = true) (hd : decode c.code pc = .ok (.new index, 3)) (hc : k + 1 ≤ R.cells) (hl : n + sz ≤ R.slots)
    (go : ∀ T' h' a, St p l e R s m args below meth c Z a0 EL n0 own T' V h' (k + 1) (n + sz) → Ext h h' → h.size ≤ a → a < h'.size → n0 ≤ a → Safe Z EL V h' a → Exa Z h' a C → (∀ {O nm d : String} {ty : FieldType}, Laid Z a0 C O nm d → parseFieldDescriptor d = some ty → Fld Z h' a O nm d (defaultValue ty)) →
      Go p e below Q (T'.setTop (mkF m (pc + 3) Ls (.ref a :: rest)))) : Go p e below Q (T.setTop (mkF m pc Ls rest)) := by
  have hle := S.le
  obtain ⟨hx, eT, hZ, hown, hO, hE, hC, hlk, locs, k0, X, hS, hk, hF⟩ := S
  obtain ⟨T', h', X', e', E, A, D, -, st⟩ := newO X hx hZ hown w wi wz eT (g := mkF m pc Ls rest) rfl hd hc hl
  exact Go.of st (go T' h' h.size ⟨hx, e', hZ, hown, hO.ext E, hE, hC.trans (CHr.ext E hC.1), hlk, locs, k0, X', hS, Nat.le_trans hk E.1, hF⟩ E (Nat.le_refl _) A.lt hle ((Safe.new (Nat.le_refl _)).ext E hC.1) A D)
theorem g_newarr (S : St p l e R s m args below meth c Z a0 EL n0 own T V h k n) {aty : ArrayType} (w : (Cond.arrayClass (newarray.typeOf aty)).before a0 Z = true) (hd : decode c.code pc = .ok (.newarray aty, 2)) {z : Int32} (hz : ¬ z < 0) {cap : Nat} (hcap : z.toNatClampNeg ≤ cap) (hb : cap * 8 ≤ 536870912) (hc : k + 1 ≤ R.cells) (hl : n + cap ≤ R.slots)
    (go : ∀ T' h' a kc, St p l e R s m args below meth c Z a0 EL n0 own T' V h' (k + 1) (n + cap) → Ext h h' → h.size ≤ a → a < h'.size → n0 ≤ a → Safe Z EL V h' a → (∀ j, Arv Z h' a kc (newarray.typeOf aty) z (List.replicate j (defaultValue (newarray.typeOf aty))) (defaultValue (newarray.typeOf aty))) →
      Go p e below Q (T'.setTop (mkF m (pc + 2) Ls (.ref a :: rest)))) : Go p e below Q (T.setTop (mkF m pc Ls (.int z :: rest))) := by
  have hle := S.le
  obtain ⟨hx, eT, hZ, hown, hO, hE, hC, hlk, locs, k0, X, hS, hk, hF⟩ := S
  obtain ⟨T', h', kc, X', e', E, A, st⟩ := newP X hx hZ w eT (g := mkF m pc Ls (.int z :: rest)) rfl hd rfl hz hcap hb hc hl
  exact Go.of st (go T' h' h.size kc ⟨hx, e', hZ, hown, hO.ext E, hE, hC.trans (CHr.ext E hC.1), hlk, locs, k0, X', hS, Nat.le_trans hk E.1, hF⟩ E (Nat.le_refl _) A.lt hle ((Safe.new (Nat.le_refl _)).ext E hC.1) fun j => (Arv.new A hz).pad (pad_rep [] _ j))
/-- newarray, with its class's name -/
theorem g_newarrE (S : St p l e R s m args below meth c Z a0 EL n0 own T V h k n) {aty : ArrayType} (w : (Cond.arrayClass (newarray.typeOf aty)).before a0 Z = true) (hd : decode c.code pc = .ok (.newarray aty, 2)) {z : Int32} (hz : ¬ z < 0) {cap : Nat} (hcap : z.toNatClampNeg ≤ cap) (hb : cap * 8 ≤ 536870912) (hc : k + 1 ≤ R.cells) (hl : n + cap ≤ R.slots) {ad : String} (had : "[" ++ (newarray.typeOf aty).toString = ad)
    (go : ∀ T' h' a kc, St p l e R s m args below meth c Z a0 EL n0 own T' V h' (k + 1) (n + cap) → Ext h h' → h.size ≤ a → a < h'.size → n0 ≤ a → Safe Z EL V h' a → (∀ j, Arv Z h' a kc (newarray.typeOf aty) z (List.replicate j (defaultValue (newarray.typeOf aty))) (defaultValue (newarray.typeOf aty))) → Exa Z h' a ad →
      Go p e below Q (T'.setTop (mkF m (pc + 2) Ls (.ref a :: rest)))) : Go p e below Q (T.setTop (mkF m pc Ls (.int z :: rest))) := by
  have hle := S.le
  obtain ⟨hx, eT, hZ, hown, hO, hE, hC, hlk, locs, k0, X, hS, hk, hF⟩ := S
  obtain ⟨T', h', kc, X', e', E, A, EA, st⟩ := newPE X hx hZ w eT (g := mkF m pc Ls (.int z :: rest)) rfl hd rfl hz hcap hb hc hl had
  exact Go.of st (go T' h' h.size kc ⟨hx, e', hZ, hown, hO.ext E, hE, hC.trans (CHr.ext E hC.1), hlk, locs, k0, X', hS, Nat.le_trans hk E.1, hF⟩ E (Nat.le_refl _) A.lt hle ((Safe.new (Nat.le_refl _)).ext E hC.1) (fun j => (Arv.new A hz).pad (pad_rep [] _ j)) EA)
/-- clone() of an array -/
theorem g_clone (S : St p l e R s m args below meth c Z a0 EL n0 own T V h k n) {ad : String} {index : Nat} (w1 : (Cond.methodLink own index ⟨ad, "clone", "()Ljava/lang/Object;"⟩).before a0 Z = true) (w2 : (Cond.sameMethod ad "java/lang/Object" "clone" "()Ljava/lang/Object;").before a0 Z = true) (w3 : (Cond.native ⟨"java/lang/Object", "clone", "()Ljava/lang/Object;"⟩).before a0 Z = true)
    (w4 : (Cond.instanceMethod ⟨"java/lang/Object", "clone", "()Ljava/lang/Object;"⟩).before a0 Z = true) (w5 : (Cond.selects ad ⟨ad, "clone", "()Ljava/lang/Object;"⟩ ⟨"java/lang/Object", "clone", "()Ljava/lang/Object;"⟩).before a0 Z = true) (w6 : (Cond.castable ad "java/lang/Cloneable").before a0 Z = true)
    {a : Addr} {kc : ClassId} {ty : FieldType} {z : Int32} {vs : List Value} {dv : Value} (F : Arv Z h a kc ty z vs dv) (E : Exa Z h a ad) (hsz : Ls.size = c.maxLocals) (hd : decode c.code pc = .ok (.invokevirtual index, 3)) (hf : 1 ≤ R.frames) (hl : (rest.map fun v => v.category).sum + 14 ≤ R.locals) {cap : Nat} (hcap : z.toNatClampNeg ≤ cap) (hc : k + 1 ≤ R.cells) (hsl : n + cap ≤ R.slots)
    (go : ∀ T' h' b, St p l e R s m args below meth c Z a0 EL n0 own T' V h' (k + 1) (n + cap) → Ext h h' → h.size ≤ b → n0 ≤ b → Arv Z h' b kc ty z vs dv → Exa Z h' b ad → Go p e below Q (T'.setTop (mkF m (pc + 3) Ls (.ref b :: rest)))) : Go p e below Q (T.setTop (mkF m pc Ls (.ref a :: rest))) := by
  have hle := S.le
  obtain ⟨hx, eT, hZ, hown, hO, hE, hC, hlk, locs, k0, X, hS, hk, hF⟩ := S
  obtain ⟨T', h', X', e', ex, A', E', st⟩ := cloneH X hx (s := s.setVm V) hZ hown w1 w2 w3 w4 w5 w6 eT F.arh E (g := mkF m pc Ls (.ref a :: rest)) rfl hsz rfl hd hf (W := (rest.map fun v => v.category).sum) (by show 2 * 0 + _ ≤ _; omega) hl hcap hc hsl
  exact Go.of st (go T' h' h.size ⟨hx, e', hZ, hown, hO.ext ex, hE, hC.trans (CHr.ext ex hC.1), hlk, locs, k0, X', hS, Nat.le_trans hk ex.1, hF⟩ ex (Nat.le_refl _) hle A' E')
theorem g_castore (S : St p l e R s m args below meth c Z a0 EL n0 own T V h k n) {a : Addr} {kc : ClassId} {z : Int32} {vs : List Value} {dv : Value} (A : Arv Z h a kc .char z vs dv) {j x : Int32} (hj : ¬ j < 0 ∧ j < z) (i : Nat) (hi : j.toNatClampNeg = i) (hlt : i < vs.length) (na : n0 ≤ a) (hd : decode c.code pc = .ok (.castore, 1))
    (go : ∀ T' h', St p l e R s m args below meth c Z a0 EL n0 own T' V h' k n → Keep h h' [a] → Arv Z h' a kc .char z (vs.set i (.int (nar .char x))) dv → Go p e below Q (T'.setTop (mkF m (pc + 1) Ls rest))) : Go p e below Q (T.setTop (mkF m pc Ls (.int x :: .int j :: .ref a :: rest))) := by
  obtain ⟨hx, eT, hZ, hown, hO, hE, hC, hlk, locs, k0, X, hS, hk, hF⟩ := S
  have sf : Safe Z EL V h a := Safe.arv hZ.alike A (by decide)
  obtain ⟨cl, Ar, q1, q2, q3, q4, q5⟩ := A
  obtain ⟨T', h', X', e', W, st⟩ := stC X hx hZ eT Ar (j := j) (x := x) (inb_of q2 hj) (g := mkF m pc Ls (.int x :: .int j :: .ref a :: rest)) rfl rfl hd
  have K := Keep.of_wr W
  exact Go.of st (go T' h' ⟨hx, e', hZ, hown, hO.wr W na, hE, hC.trans (CHr.wr W sf hC.1), hlk, _, k0, X', hS, Nat.le_trans hk K.1, Fr.snoc X' hF na⟩ K (Arv.set Ar q1 q2 q3 q4 q5 (fits_nar_char x) W i hi hlt))
theorem g_putF (S : St p l e R s m args below meth c Z a0 EL n0 own T V h k n) {R0 O nm d C : String} {index kk : Nat} {ty : FieldType} (w : (Cond.fieldLink own index R0 nm d).before a0 Z = true) (via : Via Z R0 O nm d) {a : Addr} {v v' old : Value} (F : Fld Z h a O nm d old) (E : Exa Z h a C)
    (L : (Cond.lays C O nm d).before a0 Z = true ∨ ((Cond.laysFinal C O nm d).before a0 Z = true ∧ own = O ∧ meth.name = "<init>")) (wi : (Cond.instantiable C kk).before a0 Z = true) (hty : parseFieldDescriptor d = some ty) (hn : narrow ty v = v') (hf : fits ty v' = true) (na : n0 ≤ a) (sf : Safe Z EL V h a) (hd : decode c.code pc = .ok (.putfield index, 3))
    (go : ∀ T' h', St p l e R s m args below meth c Z a0 EL n0 own T' V h' k n → Keep h h' [a] → Wr h h' a (Jvm.RoadKit.slotOf Z O nm d) v' → Exa Z h' a C → Fld Z h' a O nm d v' → Safe Z EL V h' a → Go p e below Q (T'.setTop (mkF m (pc + 3) Ls rest))) : Go p e below Q (T.setTop (mkF m pc Ls (v :: .ref a :: rest))) := by
  obtain ⟨hx, eT, hZ, hown, hO, hE, hC, hlk, locs, k0, X, hS, hk, hF⟩ := S
  obtain ⟨T', h', X', e', W, st⟩ := putFN X hx hZ hown w via eT F E L wi hty hn hf (g := mkF m pc Ls (v :: .ref a :: rest)) rfl rfl hd
  have K := Keep.of_wr W
  exact Go.of st (go T' h' ⟨hx, e', hZ, hown, hO.wr W na, hE, hC.trans (CHr.wr W sf hC.1), hlk, _, k0, X', hS, Nat.le_trans hk K.1, Fr.snoc X' hF na⟩ K W (E.wr W) (F.same W) (Safe.wr W sf hC.1 sf))
theorem g_initO (S : St p l e R s m args below meth c Z a0 EL n0 own T V h k n) {index : Nat} (w1 : (Cond.methodLink own index Lib.objectInit).before a0 Z = true) (w2 : (Cond.instanceMethod Lib.objectInit).before a0 Z = true) (w3 : (Cond.code Lib.objectInit ⟨#[0xb1]⟩ 1 none).before a0 Z = true) (hsz : Ls.size = c.maxLocals) {a : Addr} (hd : decode c.code pc = .ok (.invokespecial index, 3)) (hf : 1 ≤ R.frames) (hl : (rest.map fun v => v.category).sum + 12 ≤ R.locals)
    (go : ∀ T', St p l e R s m args below meth c Z a0 EL n0 own T' V h k n → Go p e below Q (T'.setTop (mkF m (pc + 3) Ls rest))) : Go p e below Q (T.setTop (mkF m pc Ls (.ref a :: rest))) := by
  obtain ⟨hx, eT, hZ, hown, hO, hE, hC, hlk, locs, k0, X, hS, hk, hF⟩ := S
  obtain ⟨T', X', e', st⟩ := initO X hx hZ hown w1 w2 w3 eT (g := mkF m pc Ls (.ref a :: rest)) rfl hsz rfl hd hf (W := (rest.map fun v => v.category).sum) (by show 2 * 0 + _ ≤ _; omega) hl
  exact Go.of st (go T' ⟨hx, e', hZ, hown, hO, hE, hC, hlk, locs, k0, X', hS, hk, hF⟩)
theorem g_ldcI (S : St p l e R s m args below meth c Z a0 EL n0 own T V h k n) {index : Nat} {v : Int32} (w : (Cond.constant own index v).before a0 Z = true) (hd : decode c.code pc = .ok (.ldc index, 2)) (go : Go p e below Q (T.setTop (mkF m (pc + 2) Ls (.int v :: rest)))) : Go p e below Q (T.setTop (mkF m pc Ls rest)) := by
  obtain ⟨hx, eT, hZ, hown, hO, hE, hC, hlk, locs, k0, X, hS, hk, hF⟩ := S
  exact Go.of (fun _ q => X.ldcInt hx hown (mvT hZ w) (g := mkF m pc Ls rest) rfl hd _ q) go
theorem g_ldcJ (S : St p l e R s m args below meth c Z a0 EL n0 own T V h k n) {index : Nat} {v : Int64} (w : (Cond.constantLong own index v).before a0 Z = true) (hd : decode c.code pc = .ok (.ldc2_w index, 3)) (go : Go p e below Q (T.setTop (mkF m (pc + 3) Ls (.long v :: rest)))) : Go p e below Q (T.setTop (mkF m pc Ls rest)) := by
  obtain ⟨hx, eT, hZ, hown, hO, hE, hC, hlk, locs, k0, X, hS, hk, hF⟩ := S
  exact Go.of (fun _ q => X.ldc2Long hx hown (mvT hZ w) (g := mkF m pc Ls rest) rfl hd _ q) go
/-- a String constant whose text isn't read -/
theorem g_ldcO (S : St p l e R s m args below meth c Z a0 EL n0 own T V h k n) {index : Nat} {text : String} (w : (Cond.stringLink own index text).before a0 Z = true) (wS : ∀ a ∈ Bundle.stringAtoms, a.before a0 Z = true) (hd : decode c.code pc = .ok (.ldc index, 2)) {b : Nat} (hb : 4 * text.toList.length ≤ b) (hbig : b ≤ 536870912) (hc : k + 2 ≤ R.cells) (hl : n + (b + 4) ≤ R.slots)
    (go : ∀ a T' V' h', St p l e R s m args below meth c Z a0 EL n0 own T' V' h' (k + 2) (n + (b + 4)) → Ext h h' → CHr Z EL V h V' h' → Go p e below Q (T'.setTop (mkF m (pc + 2) Ls (.ref a :: rest)))) : Go p e below Q (T.setTop (mkF m pc Ls rest)) := by
  obtain ⟨hx, eT, hZ, hown, hO, hE, hC, hlk, locs, k0, X, hS, hk, hF⟩ := S
  obtain ⟨a, T', h', k1, X', e', E, hS', hk', hZ', hown', hC', -, st⟩ := ldcOH X hx hZ hown w wS eT hS hk hE hC.1 (g := mkF m pc Ls rest) rfl hd hb hbig hc hl
  exact Go.of st (go a T' T'.vm h' ⟨hx, e', hZ', hown', hO.ext E, hE, hC.trans hC', hlk, locs, k1, X', hS', hk', hF⟩ E hC')
/-- a String constant of EL -/
theorem g_ldcS (S : St p l e R s m args below meth c Z a0 EL n0 own T V h k n) {index : Nat} {text : String} (w : (Cond.stringLink own index text).before a0 Z = true) (wS : ∀ a ∈ Bundle.stringAtoms, a.before a0 Z = true) (hmem : (own, index) ∈ EL) {vs : List Value} {z : Int32} (ht : (∀ c ∈ text.toList, c.toNat < 256) ∧ text.toList.map (fun c => Value.int (Jvm.Lit.byteI c.toNat.toUInt16)) = vs) (hz : ¬ z < 0) (hlz : z.toNatClampNeg = vs.length)
    (hd : decode c.code pc = .ok (.ldc index, 2)) {b : Nat} (hb : 4 * text.toList.length ≤ b) (hbig : b ≤ 536870912) (hc : k + 2 ≤ R.cells) (hl : n + (b + 4) ≤ R.slots)
    (go : ∀ a T' V' h' t kt, St p l e R s m args below meth c Z a0 EL n0 own T' V' h' (k + 2) (n + (b + 4)) → Ext h h' → CHr Z EL V h V' h' → Exa Z h' a "java/lang/String" → Fld Z h' a "java/lang/String" "coder" "B" (.int 0) → Fld Z h' a "java/lang/String" "value" "[B" (.ref t) → Arv Z h' t kt .byte z vs (.int 0) → (∀ x, Safe Z EL V' h' x → x ≠ a ∧ x ≠ t) →
      Go p e below Q (T'.setTop (mkF m (pc + 2) Ls (.ref a :: rest)))) : Go p e below Q (T.setTop (mkF m pc Ls rest)) := by
  obtain ⟨hx, eT, hZ, hown, hO, hE, hC, hlk, locs, k0, X, hS, hk, hF⟩ := S
  obtain ⟨a, T', h', k1, t, kt, X', e', E, hS', hk', hZ', hown', f1, f2, f3, f4, -, -, hC', -, f5, st⟩ := ldcCH X hx hZ hown w wS eT hS hk hE hmem hC.1 ht hz hlz (g := mkF m pc Ls rest) rfl hd hb hbig hc hl
  exact Go.of st (go a T' T'.vm h' t kt ⟨hx, e', hZ', hown', hO.ext E, hE, hC.trans hC', hlk, locs, k1, X', hS', hk', hF⟩ E hC' f1 f2 f3 f4 f5)
section Calls
variable {y z : MethodName} {bytes : ByteArray} {maxL : Nat} {ret : Option FieldType} {rm : Room} {as' : Array Value} {sfs : List Addr} {QQ : Option Value → Heap → Vm → Prop} {index : Nat} {stk : List Value}
/-- the library's backOfSH with objects that are no literal's -/
theorem backOfSf {W : Nat} {vm0 : Vm} {QB : Option Value → Heap → Vm → List Loc → Prop}
    (hM : MetFree l y (head1 [Cond.code y bytes maxL ret] rm) (fun a U => a = as' ∧ Z.Warmed39 U.vm ∧ U.heap = h ∧ CHv Z EL U.vm h ∧ ∀ x ∈ sfs, Safe Z EL U.vm h x) (fun _ _ _ _ _ => True) (fun _ U o U' => ∃ v L, o = .returned v ∧ QB v U'.heap U'.vm L ∧ CHr Z EL U.vm U.heap U'.vm U'.heap ∧ ReturnedEndW U o U' L rm.cells rm.slots))
    (hZ : Z.Warmed39 vm0) (wc : (Cond.code y bytes maxL ret).before a0 Z = true) (wz : (Cond.initialized y.cls).before a0 Z = true) (hf : rm.frames + 1 ≤ R.frames) (hl : W + (maxL + 11) + rm.locals ≤ R.locals) (hEL : EW Z a0 EL) (H : CHv Z EL vm0 h) (hsf : ∀ x ∈ sfs, x < h.size ∧ Safe Z EL vm0 h x) :
    BackS l R p e below (s.setVm vm0) args y 3 W (fun A a => a = as' ∧ A.U.heap = h ∧ A.cells + rm.cells ≤ R.cells ∧ A.slots + rm.slots ≤ R.slots)
      (fun A _ v B => ∃ L, QB v B.U.heap B.U.vm L ∧ B.locs = A.locs ++ L ∧ B.cells = A.cells + rm.cells ∧ B.slots = A.slots + rm.slots ∧ CHr Z EL vm0 h B.U.vm B.U.heap) := by
  refine BackS.of_freeW (bytes := bytes) (maxL := maxL) (ret := ret) (E := fun _ first o t L k n => (k = rm.cells ∧ n = rm.slots) ∧ (∃ v, o = .returned v ∧ QB v t.heap t.vm L) ∧ CHr Z EL first.vm first.heap t.vm t.heap) hM hf hl ?_ ?_ (fun _ _ _ _ _ _ _ _ _ => trivial) ?_ ?_
  · intro m meth c A a Y hp
    have hU : Z.Warmed39 A.U.vm := wtrans (s := s.setVm vm0) hZ Y.warmed
    exact ⟨by show (Cond.and _ .tt).before a A.U = true; rw [Cond.before_and, mv hU wc]; rfl, mv hU wc, mv hU wz, hp.2.2.1, hp.2.2.2⟩
  · intro m meth c A a g mk Y hp
    have q := CHv.at Y hZ hEL H
    exact ⟨hp.1, wtrans (s := s.setVm vm0) hZ Y.warmed, hp.2.1, q.1, fun x hx => q.safe (hsf x hx).1 (hsf x hx).2⟩
  · rintro _ _ _ _ ⟨v, L, h1, h2, h3, h4⟩
    exact ⟨L, _, _, h4, ⟨rfl, rfl⟩, ⟨v, h1, h2⟩, h3⟩
  · intro m meth c A a g mk v t L k n Y hp _ _ q
    obtain ⟨⟨e1, e2⟩, ⟨v', e3, e4⟩, e5⟩ := q
    cases e3; subst e1 e2
    refine ⟨L, e4, rfl, rfl, rfl, (CHv.at Y hZ hEL H).trans ?_⟩
    rw [← hp.2.1]; exact e5
theorem g_static (S : St p l e R s m args below meth c Z a0 EL n0 own T V h k n) (C : CtrV l Z EL n0 y bytes maxL ret rm as' h sfs QQ) (hsf : ∀ x ∈ sfs, x < h.size ∧ Safe Z EL V h x) (wl : (Cond.methodLink own index y).before a0 Z = true) (ws : (Cond.static y).before a0 Z = true) (wi : (Cond.initialized y.cls).before a0 Z = true) (wc : (Cond.code y bytes maxL ret).before a0 Z = true) (hy : y.cls ≠ "java/lang/invoke/MethodHandle" ∧ y.cls ≠ "java/lang/invoke/VarHandle")
    (hd : decode c.code pc = .ok (.invokestatic index, 3)) (hsz : Ls.size = c.maxLocals) (argsL : List Value) (hlen : ∀ sig, parseMethodDescriptor y.desc = some sig → argsL.length = sig.parameters.length) (hst : stk = argsL.reverse ++ rest) (has : argsL.toArray = as') (hf : rm.frames + 1 ≤ R.frames) (hl : (rest.map fun v => v.category).sum + (maxL + 11) + rm.locals ≤ R.locals) (hc : k + rm.cells ≤ R.cells) (hs : n + rm.slots ≤ R.slots)
    (go : ∀ v T' V' h', St p l e R s m args below meth c Z a0 EL n0 own T' V' h' (k + rm.cells) (n + rm.slots) → CHr Z EL V h V' h' → QQ v h' V' → Go p e below Q (T'.setTop (mkF m (pc + 3) Ls (v.toList ++ rest)))) : Go p e below Q (T.setTop (mkF m pc Ls stk)) := by
  obtain ⟨hx, eT, hZ, hown, hO, hE, hC, hlk, locs, k0, X, hS, hk, hF⟩ := S
  have bk := backOfSf (s := s) (R := R) (p := p) (e := e) (below := below) (args := args) (W := (rest.map fun v => v.category).sum) (QB := fun v h' vm L => QQ v h' vm ∧ Fr n0 L ∧ Old Z n0 h') (C []) hZ wc wi hf hl hE hC.1 hsf
  obtain ⟨v, vm1, ⟨U, Lc, kc, sc⟩, hW1, X', hS', hgr, ⟨L, ⟨hQ, hF', hO'⟩, eL, ec, es, hC'⟩, st⟩ := callSS X hx hown (mvT hZ wl) (mvT hZ ws) (mvT hZ wi) (mvT hZ wc) hy bk (g := mkF m pc Ls stk) rfl hsz (argsL := argsL) (rest := rest) hlen hst (by show 2 * 0 + _ ≤ _; omega) hd (fun _ _ => ⟨has, eT, hc, hs⟩)
  dsimp only [Pt.U, Pt.locs, Pt.cells, Pt.slots] at X' hS' hgr hQ hO' eL ec es hC' st
  subst eL ec es
  exact Go.of (fun _ q => st.trans q) (go v U U.vm U.heap ⟨hx, rfl, State.Warmed39.trans (t := s.setVm V) hZ hS'.1, by rw [hS'.1.alike.findClass]; exact hown, hO', hE, hC.trans hC', hlk, _, _, X', hS.trans hS' (Nat.le_trans hk (eT ▸ hgr)), Nat.le_refl _, hF.app hF'⟩ hC' hQ)
theorem g_special (S : St p l e R s m args below meth c Z a0 EL n0 own T V h k n) (C : CtrV l Z EL n0 y bytes maxL none rm as' h sfs QQ) (hsf : ∀ x ∈ sfs, x < h.size ∧ Safe Z EL V h x) (hy1 : y.name = "<init>") (wl : (Cond.methodLink own index y).before a0 Z = true) (ws : (Cond.instanceMethod y).before a0 Z = true) (wi : (Cond.initialized y.cls).before a0 Z = true) (wc : (Cond.code y bytes maxL none).before a0 Z = true) (hy : y.cls ≠ "java/lang/invoke/MethodHandle" ∧ y.cls ≠ "java/lang/invoke/VarHandle")
    (hd : decode c.code pc = .ok (.invokespecial index, 3)) (hsz : Ls.size = c.maxLocals) (a : Addr) (argsL : List Value) (hlen : ∀ sig, parseMethodDescriptor y.desc = some sig → argsL.length = sig.parameters.length) (hst : stk = argsL.reverse ++ .ref a :: rest) (has : (.ref a :: argsL).toArray = as') (hf : rm.frames + 1 ≤ R.frames) (hl : (rest.map fun v => v.category).sum + (maxL + 11) + rm.locals ≤ R.locals) (hc : k + rm.cells ≤ R.cells) (hs : n + rm.slots ≤ R.slots)
    (go : ∀ v T' V' h', St p l e R s m args below meth c Z a0 EL n0 own T' V' h' (k + rm.cells) (n + rm.slots) → CHr Z EL V h V' h' → QQ v h' V' → Go p e below Q (T'.setTop (mkF m (pc + 3) Ls (v.toList ++ rest)))) : Go p e below Q (T.setTop (mkF m pc Ls stk)) := by
  obtain ⟨hx, eT, hZ, hown, hO, hE, hC, hlk, locs, k0, X, hS, hk, hF⟩ := S
  have bk := backOfSf (s := s) (R := R) (p := p) (e := e) (below := below) (args := args) (W := (rest.map fun v => v.category).sum) (QB := fun v h' vm L => QQ v h' vm ∧ Fr n0 L ∧ Old Z n0 h') (C []) hZ wc wi hf hl hE hC.1 hsf
  obtain ⟨v, vm1, ⟨U, Lc, kc, sc⟩, hW1, X', hS', hgr, ⟨L, ⟨hQ, hF', hO'⟩, eL, ec, es, hC'⟩, st⟩ := X.specialBackS hx hy1 hown (mvT hZ wl) (mvT hZ ws) (mvT hZ wc) hy bk (g := mkF m pc Ls stk) rfl hsz (Steps.refl _) (a := a) (argsL := argsL) (rest := rest) hlen hst (by show 2 * 0 + _ ≤ _; omega) hd (fun _ _ => ⟨has, eT, hc, hs⟩)
  dsimp only [Pt.U, Pt.locs, Pt.cells, Pt.slots] at X' hS' hgr hQ hO' eL ec es hC' st
  subst eL ec es
  exact Go.of (fun _ q => st.trans q) (go v U U.vm U.heap ⟨hx, rfl, State.Warmed39.trans (t := s.setVm V) hZ hS'.1, by rw [hS'.1.alike.findClass]; exact hown, hO', hE, hC.trans hC', hlk, _, _, X', hS.trans hS' (Nat.le_trans hk (eT ▸ hgr)), Nat.le_refl _, hF.app hF'⟩ hC' hQ)
theorem g_virtual {C : String} (S : St p l e R s m args below meth c Z a0 EL n0 own T V h k n) (K : CtrV l Z EL n0 z bytes maxL ret rm as' h sfs QQ) (hsf : ∀ x ∈ sfs, x < h.size ∧ Safe Z EL V h x) (wl : (Cond.methodLink own index y).before a0 Z = true) (wd : (Cond.declares y).before a0 Z = true) (wse : (Cond.selects C y z).before a0 Z = true) (ws : (Cond.instanceMethod z).before a0 Z = true) (wi : (Cond.initialized z.cls).before a0 Z = true) (wc : (Cond.code z bytes maxL ret).before a0 Z = true) (hy : y.cls ≠ "java/lang/invoke/MethodHandle" ∧ y.cls ≠ "java/lang/invoke/VarHandle")
    (hnf : ∀ s' : State, (Cond.selects C y z).before args s' = true → NotFace s' y) (hd : decode c.code pc = .ok (.invokevirtual index, 3)) (hsz : Ls.size = c.maxLocals) (a : Addr) (E : Exa Z h a C) (argsL : List Value) (hlen : ∀ sig, parseMethodDescriptor y.desc = some sig → argsL.length = sig.parameters.length) (hst : stk = argsL.reverse ++ .ref a :: rest) (has : (.ref a :: argsL).toArray = as') (hf : rm.frames + 1 ≤ R.frames) (hl : (rest.map fun v => v.category).sum + (maxL + 11) + rm.locals ≤ R.locals) (hc : k + rm.cells ≤ R.cells) (hs : n + rm.slots ≤ R.slots)
    (go : ∀ v T' V' h', St p l e R s m args below meth c Z a0 EL n0 own T' V' h' (k + rm.cells) (n + rm.slots) → CHr Z EL V h V' h' → QQ v h' V' → Go p e below Q (T'.setTop (mkF m (pc + 3) Ls (v.toList ++ rest)))) : Go p e below Q (T.setTop (mkF m pc Ls stk)) := by
  obtain ⟨hx, eT, hZ, hown, hO, hE, hC, hlk, locs, k0, X, hS, hk, hF⟩ := S
  have bk := backOfSf (s := s) (R := R) (p := p) (e := e) (below := below) (args := args) (W := (rest.map fun v => v.category).sum) (QB := fun v h' vm L => QQ v h' vm ∧ Fr n0 L ∧ Old Z n0 h') (K []) hZ wc wi hf hl hE hC.1 hsf
  obtain ⟨cq, kq, q1, q2, q3⟩ := isOf (s := s.setVm V) hZ eT E
  obtain ⟨v, vm1, ⟨U, Lc, kc, sc⟩, hW1, X', hS', hgr, ⟨L, ⟨hQ, hF', hO'⟩, eL, ec, es, hC'⟩, st⟩ := X.virtualBackS hx hown (mvT hZ wl) (mvT hZ wd) (hnf _ (mvT hZ wse)) (mvT hZ wse) (mvT hZ ws) hy bk q1 q3 (g := mkF m pc Ls stk) rfl hsz (Steps.refl _) (argsL := argsL) (rest := rest) hlen hst (by show 2 * 0 + _ ≤ _; omega) hd (fun _ _ => ⟨has, eT, hc, hs⟩)
  dsimp only [Pt.U, Pt.locs, Pt.cells, Pt.slots] at X' hS' hgr hQ hO' eL ec es hC' st
  subst eL ec es
  exact Go.of (fun _ q => st.trans q) (go v U U.vm U.heap ⟨hx, rfl, State.Warmed39.trans (t := s.setVm V) hZ hS'.1, by rw [hS'.1.alike.findClass]; exact hown, hO', hE, hC.trans hC', hlk, _, _, X', hS.trans hS' (Nat.le_trans hk (eT ▸ hgr)), Nat.le_refl _, hF.app hF'⟩ hC' hQ)
/-- invokespecial of a superclass's method -/
theorem g_super {C : String} (S : St p l e R s m args below meth c Z a0 EL n0 own T V h k n) (K : CtrV l Z EL n0 y bytes maxL ret rm as' h sfs QQ) (hsf : ∀ x ∈ sfs, x < h.size ∧ Safe Z EL V h x) (hy1 : y.name ≠ "<init>") (wl : (Cond.methodLink own index y).before a0 Z = true) (N : NI Z y.cls) (ws : (Cond.instanceMethod y).before a0 Z = true) (wu : (Cond.superclass own y.cls).before a0 Z = true) (wi : (Cond.initialized y.cls).before a0 Z = true) (wc : (Cond.code y bytes maxL ret).before a0 Z = true) (hy : y.cls ≠ "java/lang/invoke/MethodHandle" ∧ y.cls ≠ "java/lang/invoke/VarHandle")
    (hd : decode c.code pc = .ok (.invokespecial index, 3)) (hsz : Ls.size = c.maxLocals) (a : Addr) (E : Exa Z h a C) (argsL : List Value) (hlen : ∀ sig, parseMethodDescriptor y.desc = some sig → argsL.length = sig.parameters.length) (hst : stk = argsL.reverse ++ .ref a :: rest) (has : (.ref a :: argsL).toArray = as') (hf : rm.frames + 1 ≤ R.frames) (hl : (rest.map fun v => v.category).sum + (maxL + 11) + rm.locals ≤ R.locals) (hc : k + rm.cells ≤ R.cells) (hs : n + rm.slots ≤ R.slots)
    (go : ∀ v T' V' h', St p l e R s m args below meth c Z a0 EL n0 own T' V' h' (k + rm.cells) (n + rm.slots) → CHr Z EL V h V' h' → QQ v h' V' → Go p e below Q (T'.setTop (mkF m (pc + 3) Ls (v.toList ++ rest)))) : Go p e below Q (T.setTop (mkF m pc Ls stk)) := by
  obtain ⟨hx, eT, hZ, hown, hO, hE, hC, hlk, locs, k0, X, hS, hk, hF⟩ := S
  have bk := backOfSf (s := s) (R := R) (p := p) (e := e) (below := below) (args := args) (W := (rest.map fun v => v.category).sum) (QB := fun v h' vm L => QQ v h' vm ∧ Fr n0 L ∧ Old Z n0 h') (K []) hZ wc wi hf hl hE hC.1 hsf
  obtain ⟨v, vm1, ⟨U, Lc, kc, sc⟩, hW1, X', hS', hgr, ⟨L, ⟨hQ, hF', hO'⟩, eL, ec, es, hC'⟩, st⟩ := superBackS X hx (s := s.setVm V) hZ hown wl (same_own N ws hy) ws wu hy1 bk eT (Ins.self E) (g := mkF m pc Ls stk) rfl hsz wc (argsL := argsL) (rest := rest) hlen hst (by show 2 * 0 + _ ≤ _; omega) hd (fun _ _ => ⟨has, eT, hc, hs⟩)
  dsimp only [Pt.U, Pt.locs, Pt.cells, Pt.slots] at X' hS' hgr hQ hO' eL ec es hC' st
  subst eL ec es
  exact Go.of (fun _ q => st.trans q) (go v U U.vm U.heap ⟨hx, rfl, State.Warmed39.trans (t := s.setVm V) hZ hS'.1, by rw [hS'.1.alike.findClass]; exact hown, hO', hE, hC.trans hC', hlk, _, _, X', hS.trans hS' (Nat.le_trans hk (eT ▸ hgr)), Nat.le_refl _, hF.app hF'⟩ hC' hQ)
/-- invokevirtual of a private method -/
theorem g_private {C : String} (S : St p l e R s m args below meth c Z a0 EL n0 own T V h k n) (K : CtrV l Z EL n0 y bytes maxL ret rm as' h sfs QQ) (hsf : ∀ x ∈ sfs, x < h.size ∧ Safe Z EL V h x) (wl : (Cond.methodLink own index y).before a0 Z = true) (N : NI Z y.cls) (wp : (Cond.privateMethod y).before a0 Z = true) (ws : (Cond.instanceMethod y).before a0 Z = true) (wi : (Cond.initialized y.cls).before a0 Z = true) (wc : (Cond.code y bytes maxL ret).before a0 Z = true) (hy : y.cls ≠ "java/lang/invoke/MethodHandle" ∧ y.cls ≠ "java/lang/invoke/VarHandle")
    (hd : decode c.code pc = .ok (.invokevirtual index, 3)) (hsz : Ls.size = c.maxLocals) (a : Addr) (E : Exa Z h a C) (argsL : List Value) (hlen : ∀ sig, parseMethodDescriptor y.desc = some sig → argsL.length = sig.parameters.length) (hst : stk = argsL.reverse ++ .ref a :: rest) (has : (.ref a :: argsL).toArray = as') (hf : rm.frames + 1 ≤ R.frames) (hl : (rest.map fun v => v.category).sum + (maxL + 11) + rm.locals ≤ R.locals) (hc : k + rm.cells ≤ R.cells) (hs : n + rm.slots ≤ R.slots)
    (go : ∀ v T' V' h', St p l e R s m args below meth c Z a0 EL n0 own T' V' h' (k + rm.cells) (n + rm.slots) → CHr Z EL V h V' h' → QQ v h' V' → Go p e below Q (T'.setTop (mkF m (pc + 3) Ls (v.toList ++ rest)))) : Go p e below Q (T.setTop (mkF m pc Ls stk)) := by
  obtain ⟨hx, eT, hZ, hown, hO, hE, hC, hlk, locs, k0, X, hS, hk, hF⟩ := S
  have bk := backOfSf (s := s) (R := R) (p := p) (e := e) (below := below) (args := args) (W := (rest.map fun v => v.category).sum) (QB := fun v h' vm L => QQ v h' vm ∧ Fr n0 L ∧ Old Z n0 h') (K []) hZ wc wi hf hl hE hC.1 hsf
  obtain ⟨cell, hcell, hobj⟩ := E.cell
  have wp' := Cond.privateMethod_at (mvP (s := s.setVm V) (args := args) hZ wp)
  have ws' : (Cond.instanceMethod y).before args (s.setVm V) = true := mvT (s := s.setVm V) hZ ws
  obtain ⟨v, vm1, ⟨U, Lc, kc, sc⟩, hW1, X', hS', hgr, ⟨L, ⟨hQ, hF', hO'⟩, eL, ec, es, hC'⟩, st⟩ := X.privateBackS hx hown (mvT (s := s.setVm V) hZ wl) ws' (sel_own (a0 := a0) hZ rfl N ws' wp' hy) wp' (mvT (s := s.setVm V) hZ wc) hy bk (g := mkF m pc Ls stk) rfl hsz (Steps.refl _) (a := a) (cell := cell) (by rw [eT]; exact hcell) hobj (argsL := argsL) (rest := rest) hlen hst (by show 2 * 0 + _ ≤ _; omega) hd (fun _ _ => ⟨has, eT, hc, hs⟩)
  dsimp only [Pt.U, Pt.locs, Pt.cells, Pt.slots] at X' hS' hgr hQ hO' eL ec es hC' st
  subst eL ec es
  exact Go.of (fun _ q => st.trans q) (go v U U.vm U.heap ⟨hx, rfl, State.Warmed39.trans (t := s.setVm V) hZ hS'.1, by rw [hS'.1.alike.findClass]; exact hown, hO', hE, hC.trans hC', hlk, _, _, X', hS.trans hS' (Nat.le_trans hk (eT ▸ hgr)), Nat.le_refl _, hF.app hF'⟩ hC' hQ)
/-- System.arraycopy of primitives -/
theorem g_copy (S : St p l e R s m args below meth c Z a0 EL n0 own T V h k n) (w1 : (Cond.methodLink own index Jvm.Stand.acN).before a0 Z = true) (w2 : (Cond.native Jvm.Stand.acN).before a0 Z = true) (w3 : (Cond.static Jvm.Stand.acN).before a0 Z = true) (w4 : (Cond.initialized "java/lang/System").before a0 Z = true)
    {a b : Addr} {ka kb : ClassId} {ty : FieldType} {za zb sp dp nn : Int32} {vs vd us : List Value} {dv dd : Value} (A : Arv Z h a ka ty za vs dv) (B : Arv Z h b kb ty zb vd dd) (hty : refKind ty = false) (h1 : ¬ sp < 0) (h2 : ¬ dp < 0) (h3 : ¬ nn < 0) (h4 : sp.toNatClampNeg + nn.toNatClampNeg ≤ za.toNatClampNeg) (h5 : dp.toNatClampNeg + nn.toNatClampNeg ≤ zb.toNatClampNeg)
    (hus : us = (List.range nn.toNatClampNeg).map fun i => vs.getD (sp.toNatClampNeg + i) dv) (hl : dp.toNatClampNeg + nn.toNatClampNeg ≤ vd.length) (ge : n0 ≤ b) (sf : Safe Z EL V h b) (hd : decode c.code pc = .ok (.invokestatic index, 3)) (hsz : Ls.size = c.maxLocals) (hf : 1 ≤ R.frames) (hlo : (rest.map fun v => v.category).sum + (nativeFrameWords "java/lang/System" "arraycopy" 5 + 11) ≤ R.locals)
    (go : ∀ T' h', St p l e R s m args below meth c Z a0 EL n0 own T' V h' k n → Keep h h' [b] → Arv Z h' b kb ty zb (vd.take dp.toNatClampNeg ++ us ++ vd.drop (dp.toNatClampNeg + nn.toNatClampNeg)) dd → Safe Z EL V h' b → Go p e below Q (T'.setTop (mkF m (pc + 3) Ls rest))) : Go p e below Q (T.setTop (mkF m pc Ls (.int nn :: .int dp :: .ref b :: .int sp :: .ref a :: rest))) := by
  obtain ⟨hx, eT, hZ, hown, hO, hE, hC, hlk, locs, k0, X, hS, hk, hF⟩ := S
  obtain ⟨T', h', L, X', e', hF', K, A', st⟩ := cpA X hx (s := s.setVm V) hZ hown w1 w2 w3 w4 eT A B (Or.inl ⟨rfl, hty⟩) h1 h2 h3 h4 h5 hus hl hF ge (g := mkF m pc Ls (.int nn :: .int dp :: .ref b :: .int sp :: .ref a :: rest)) rfl hsz rfl hd hf (W := (rest.map fun v => v.category).sum) (by show 2 * 0 + _ ≤ _; omega) hlo
  have sfs : ∀ x ∈ [b], Safe Z EL V h x := fun x q => by cases List.mem_singleton.mp q; exact sf
  exact Go.of st (go T' h' ⟨hx, e', hZ, hown, hO.keep K (allS ge all0), hE, hC.trans (CHr.keep K sfs hC.1), hlk, L, k0, X', hS, Nat.le_trans hk K.1, hF'⟩ K A' (Safe.keep K sfs hC.1 sf))
/-- a callee that is paid by a narrow law of the library's (or of a pasted text's): rc cells, rs slots -/
abbrev BkC (l : Launch) (R : Room) (p : Program) (e : Env) (below : List Frame) (s : State) (args : Array Value) (y : MethodName) (W : Nat) (as' : Array Value) (h : Heap) (rc rs : Nat) (QB : Option Value → Heap → List Loc → Prop) : Prop :=
  Back l R p e below s args y 3 W (fun A a => a = as' ∧ A.U.heap = h ∧ A.cells + rc ≤ R.cells ∧ A.slots + rs ≤ R.slots) (fun A _ v B => ∃ L, QB v B.U.heap L ∧ B.locs = A.locs ++ L ∧ B.cells = A.cells + rc ∧ B.slots = A.slots + rs)
theorem g_staticB {rc rs : Nat} {QB : Option Value → Heap → List Loc → Prop} (S : St p l e R s m args below meth c Z a0 EL n0 own T V h k n) {W : Nat} (B : ∀ s' : State, Z.Warmed39 s'.vm → BkC l R p e below s' args y W as' h rc rs QB) (wl : (Cond.methodLink own index y).before a0 Z = true) (ws : (Cond.static y).before a0 Z = true) (wi : (Cond.initialized y.cls).before a0 Z = true) (wc : (Cond.code y bytes maxL ret).before a0 Z = true) (hy : y.cls ≠ "java/lang/invoke/MethodHandle" ∧ y.cls ≠ "java/lang/invoke/VarHandle")
    (hd : decode c.code pc = .ok (.invokestatic index, 3)) (hsz : Ls.size = c.maxLocals) (argsL : List Value) (hlen : ∀ sig, parseMethodDescriptor y.desc = some sig → argsL.length = sig.parameters.length) (hst : stk = argsL.reverse ++ rest) (has : argsL.toArray = as') (hW : (rest.map fun v => v.category).sum ≤ W) (hc : k + rc ≤ R.cells) (hs : n + rs ≤ R.slots)
    (hq : ∀ v h' L, QB v h' L → Fr n0 L ∧ ∃ xs, Keep h h' xs ∧ (∀ x ∈ xs, Safe Z EL V h x) ∧ ∀ x ∈ xs, n0 ≤ x)
    (go : ∀ v T' h' L, St p l e R s m args below meth c Z a0 EL n0 own T' V h' (k + rc) (n + rs) → QB v h' L → Go p e below Q (T'.setTop (mkF m (pc + 3) Ls (v.toList ++ rest)))) : Go p e below Q (T.setTop (mkF m pc Ls stk)) := by
  obtain ⟨hx, eT, hZ, hown, hO, hE, hC, hlk, locs, k0, X, hS, hk, hF⟩ := S
  obtain ⟨v, vm1, ⟨U, Lc, kc, sc⟩, hW1, X', ⟨L, hQ, eL, ec, es⟩, st⟩ := Jvm.LawKit.callS X hx hown (mvT hZ wl) (mvT hZ ws) (mvT hZ wi) (mvT hZ wc) hy (B (s.setVm V) hZ) (g := mkF m pc Ls stk) rfl hsz (argsL := argsL) (rest := rest) hlen hst (by show 2 * 0 + _ ≤ _; omega) hd (fun _ _ => ⟨has, eT, hc, hs⟩)
  dsimp only [Pt.U, Pt.locs, Pt.cells, Pt.slots] at X' hQ eL ec es st
  subst eL ec es
  obtain ⟨hF', xs, K, sf, nx⟩ := hq _ _ _ hQ
  exact Go.of st (go v U U.heap L ⟨hx, rfl, hZ, hown, hO.keep K nx, hE, hC.trans (CHr.keep K sf hC.1), hlk, _, _, X', hS, Nat.le_trans hk K.1, hF.app hF'⟩ hQ)
theorem g_specialB {rc rs : Nat} {QB : Option Value → Heap → List Loc → Prop} (S : St p l e R s m args below meth c Z a0 EL n0 own T V h k n) {W : Nat} (B : ∀ s' : State, Z.Warmed39 s'.vm → BkC l R p e below s' args y W as' h rc rs QB) (hy1 : y.name = "<init>") (wl : (Cond.methodLink own index y).before a0 Z = true) (ws : (Cond.instanceMethod y).before a0 Z = true) (wc : (Cond.code y bytes maxL none).before a0 Z = true) (hy : y.cls ≠ "java/lang/invoke/MethodHandle" ∧ y.cls ≠ "java/lang/invoke/VarHandle")
    (hd : decode c.code pc = .ok (.invokespecial index, 3)) (hsz : Ls.size = c.maxLocals) (a : Addr) (argsL : List Value) (hlen : ∀ sig, parseMethodDescriptor y.desc = some sig → argsL.length = sig.parameters.length) (hst : stk = argsL.reverse ++ .ref a :: rest) (has : (.ref a :: argsL).toArray = as') (hW : (rest.map fun v => v.category).sum ≤ W) (hc : k + rc ≤ R.cells) (hs : n + rs ≤ R.slots)
    (hq : ∀ v h' L, QB v h' L → Fr n0 L ∧ ∃ xs, Keep h h' xs ∧ (∀ x ∈ xs, Safe Z EL V h x) ∧ ∀ x ∈ xs, n0 ≤ x)
    (go : ∀ v T' h' L, St p l e R s m args below meth c Z a0 EL n0 own T' V h' (k + rc) (n + rs) → QB v h' L → Go p e below Q (T'.setTop (mkF m (pc + 3) Ls (v.toList ++ rest)))) : Go p e below Q (T.setTop (mkF m pc Ls stk)) := by
  obtain ⟨hx, eT, hZ, hown, hO, hE, hC, hlk, locs, k0, X, hS, hk, hF⟩ := S
  obtain ⟨v, vm1, ⟨U, Lc, kc, sc⟩, hW1, X', ⟨L, hQ, eL, ec, es⟩, st⟩ := X.specialBack hx hy1 hown (mvT hZ wl) (mvT hZ ws) (mvT hZ wc) hy (B (s.setVm V) hZ) (g := mkF m pc Ls stk) rfl hsz (Steps.refl _) (a := a) (argsL := argsL) (rest := rest) hlen hst (by show 2 * 0 + _ ≤ _; omega) hd (fun _ _ => ⟨has, eT, hc, hs⟩)
  dsimp only [Pt.U, Pt.locs, Pt.cells, Pt.slots] at X' hQ eL ec es st
  subst eL ec es
  obtain ⟨hF', xs, K, sf, nx⟩ := hq _ _ _ hQ
  exact Go.of (fun _ q => st.trans q) (go v U U.heap L ⟨hx, rfl, hZ, hown, hO.keep K nx, hE, hC.trans (CHr.keep K sf hC.1), hlk, _, _, X', hS, Nat.le_trans hk K.1, hF.app hF'⟩ hQ)
theorem g_virtualB {C : String} {rc rs : Nat} {QB : Option Value → Heap → List Loc → Prop} (S : St p l e R s m args below meth c Z a0 EL n0 own T V h k n) {W : Nat} (B : ∀ s' : State, Z.Warmed39 s'.vm → BkC l R p e below s' args z W as' h rc rs QB) (wl : (Cond.methodLink own index y).before a0 Z = true) (wd : (Cond.declares y).before a0 Z = true) (wse : (Cond.selects C y z).before a0 Z = true) (ws : (Cond.instanceMethod z).before a0 Z = true) (hy : y.cls ≠ "java/lang/invoke/MethodHandle" ∧ y.cls ≠ "java/lang/invoke/VarHandle")
    (hnf : ∀ s' : State, (Cond.selects C y z).before args s' = true → NotFace s' y) (hd : decode c.code pc = .ok (.invokevirtual index, 3)) (hsz : Ls.size = c.maxLocals) (a : Addr) (E : Exa Z h a C) (argsL : List Value) (hlen : ∀ sig, parseMethodDescriptor y.desc = some sig → argsL.length = sig.parameters.length) (hst : stk = argsL.reverse ++ .ref a :: rest) (has : (.ref a :: argsL).toArray = as') (hW : (rest.map fun v => v.category).sum ≤ W) (hc : k + rc ≤ R.cells) (hs : n + rs ≤ R.slots)
    (hq : ∀ v h' L, QB v h' L → Fr n0 L ∧ ∃ xs, Keep h h' xs ∧ (∀ x ∈ xs, Safe Z EL V h x) ∧ ∀ x ∈ xs, n0 ≤ x)
    (go : ∀ v T' h' L, St p l e R s m args below meth c Z a0 EL n0 own T' V h' (k + rc) (n + rs) → QB v h' L → Go p e below Q (T'.setTop (mkF m (pc + 3) Ls (v.toList ++ rest)))) : Go p e below Q (T.setTop (mkF m pc Ls stk)) := by
  obtain ⟨hx, eT, hZ, hown, hO, hE, hC, hlk, locs, k0, X, hS, hk, hF⟩ := S
  obtain ⟨cq, kq, q1, q2, q3⟩ := isOf (s := s.setVm V) hZ eT E
  obtain ⟨v, vm1, ⟨U, Lc, kc, sc⟩, hW1, X', ⟨L, hQ, eL, ec, es⟩, st⟩ := X.virtualBack hx hown (mvT hZ wl) (mvT hZ wd) (hnf _ (mvT hZ wse)) (mvT hZ wse) (mvT hZ ws) hy (B (s.setVm V) hZ) q1 q3 (g := mkF m pc Ls stk) rfl hsz (Steps.refl _) (argsL := argsL) (rest := rest) hlen hst (by show 2 * 0 + _ ≤ _; omega) hd (fun _ _ => ⟨has, eT, hc, hs⟩)
  dsimp only [Pt.U, Pt.locs, Pt.cells, Pt.slots] at X' hQ eL ec es st
  subst eL ec es
  obtain ⟨hF', xs, K, sf, nx⟩ := hq _ _ _ hQ
  exact Go.of (fun _ q => st.trans q) (go v U U.heap L ⟨hx, rfl, hZ, hown, hO.keep K nx, hE, hC.trans (CHr.keep K sf hC.1), hlk, _, _, X', hS, Nat.le_trans hk K.1, hF.app hF'⟩ hQ)
end Calls
theorem g_icmp (S : St p l e R s m args below meth c Z a0 EL n0 own T V h k n) {cd : ClassFile.Cond} {x y : Int32} {o : Int} {pcT : Nat} (hd : decode c.code pc = .ok (.if_icmp cd o, 3)) (ho : 0 ≤ (pc : Int) + o) (hp : ((pc : Int) + o).toNat = pcT) (yes : if_icmp.holds cd x y = true → Go p e below Q (T.setTop (mkF m pcT Ls rest))) (no : if_icmp.holds cd x y = false → Go p e below Q (T.setTop (mkF m (pc + 3) Ls rest))) : Go p e below Q (T.setTop (mkF m pc Ls (.int y :: .int x :: rest))) := by
  cases q : if_icmp.holds cd x y
  · exact Go.of (fun _ r => XS.icmpNo S.here S.hx rfl hd rfl q r) (no q)
  · exact Go.of (fun _ r => XS.icmpYes S.here S.hx rfl (pc0 := pc) (pc' := pcT) rfl hd rfl q ho hp r) (yes q)
theorem g_if (S : St p l e R s m args below meth c Z a0 EL n0 own T V h k n) {cd : ClassFile.Cond} {x : Int32} {o : Int} {pcT : Nat} (hd : decode c.code pc = .ok (.ifCond cd o, 3)) (ho : 0 ≤ (pc : Int) + o) (hp : ((pc : Int) + o).toNat = pcT) (yes : if_icmp.holds cd x 0 = true → Go p e below Q (T.setTop (mkF m pcT Ls rest))) (no : if_icmp.holds cd x 0 = false → Go p e below Q (T.setTop (mkF m (pc + 3) Ls rest))) : Go p e below Q (T.setTop (mkF m pc Ls (.int x :: rest))) := by
  cases q : if_icmp.holds cd x 0
  · exact Go.of (fun _ r => XS.ifNo S.here S.hx rfl hd rfl ((if0 _ _).trans q) r) (no q)
  · exact Go.of (fun _ r => XS.ifYes S.here S.hx rfl (pc0 := pc) (pc' := pcT) rfl hd rfl ((if0 _ _).trans q) ho hp r) (yes q)
theorem icT_eq {x y : Int32} (h : if_icmp.holds .eq x y = true) : x = y := by simpa [if_icmp.holds] using h
theorem icF_eq {x y : Int32} (h : if_icmp.holds .eq x y = false) : ¬ x = y := by simpa [if_icmp.holds] using h
theorem icT_ne {x y : Int32} (h : if_icmp.holds .ne x y = true) : ¬ x = y := by simpa [if_icmp.holds] using h
theorem icF_ne {x y : Int32} (h : if_icmp.holds .ne x y = false) : x = y := by simpa [if_icmp.holds] using h
theorem icT_lt {x y : Int32} (h : if_icmp.holds .lt x y = true) : x < y := by simpa [if_icmp.holds] using h
theorem icF_lt {x y : Int32} (h : if_icmp.holds .lt x y = false) : ¬ x < y := by simpa [if_icmp.holds] using h
theorem icT_ge {x y : Int32} (h : if_icmp.holds .ge x y = true) : ¬ x < y := fun q => by rw [(tlt q).2.1] at h; cases h
theorem icF_ge {x y : Int32} (h : if_icmp.holds .ge x y = false) : x < y := Decidable.byContradiction fun q => by rw [(flt q).2.1] at h; cases h
theorem icT_gt {x y : Int32} (h : if_icmp.holds .gt x y = true) : y < x := Decidable.byContradiction fun q => by rw [(flt q).2.2.1] at h; cases h
theorem icF_gt {x y : Int32} (h : if_icmp.holds .gt x y = false) : ¬ y < x := fun q => by rw [(tlt q).2.2.1] at h; cases h
theorem icT_le {x y : Int32} (h : if_icmp.holds .le x y = true) : ¬ y < x := fun q => by rw [(tlt q).2.2.2] at h; cases h
theorem icF_le {x y : Int32} (h : if_icmp.holds .le x y = false) : y < x := Decidable.byContradiction fun q => by rw [(flt q).2.2.2] at h; cases h
theorem g_caload (S : St p l e R s m args below meth c Z a0 EL n0 own T V h k n) {a : Addr} {kc : ClassId} {z : Int32} {vs : List Value} {dv : Value} (A : Arv Z h a kc .char z vs dv) {j : Int32} (hj : ¬ j < 0 ∧ j < z) {x : Int32} (hv : vs.getD j.toNatClampNeg dv = .int x) (hd : decode c.code pc = .ok (.caload, 1)) (go : Go p e below Q (T.setTop (mkF m (pc + 1) Ls (.int x :: rest)))) : Go p e below Q (T.setTop (mkF m pc Ls (.int j :: .ref a :: rest))) := by
  obtain ⟨hx, eT, hZ, hown, hO, hE, hC, hlk, locs, k0, X, hS, hk, hF⟩ := S
  obtain ⟨cl, Ar, q1, q2, q3, q4, q5⟩ := A
  have hin := inb_of q2 hj
  exact Go.of (fun _ q => X.caload hx (j := j) (v := .int x) (by rw [eT]; exact Ar.1) (State.isArrayOf_alike (T := s.setVm V) hZ.alike Ar.2.1) Ar.2.2 hin (q4.at hin hv) (g := mkF m pc Ls (.int j :: .ref a :: rest)) rfl rfl hd _ q) go
theorem g_len (S : St p l e R s m args below meth c Z a0 EL n0 own T V h k n) {a : Addr} {kc : ClassId} {ty : FieldType} {z : Int32} {vs : List Value} {dv : Value} (A : Arv Z h a kc ty z vs dv) (hd : decode c.code pc = .ok (.arraylength, 1)) (go : Go p e below Q (T.setTop (mkF m (pc + 1) Ls (.int z :: rest)))) : Go p e below Q (T.setTop (mkF m pc Ls (.ref a :: rest))) := by
  obtain ⟨hx, eT, hZ, hown, hO, hE, hC, hlk, locs, k0, X, hS, hk, hF⟩ := S
  obtain ⟨cl, Ar, q1, q2, q3, q4, q5⟩ := A
  rw [← len_of q2 q3] at go
  exact Go.of (fun _ q => X.arraylength hx (by rw [eT]; exact Ar.1) (State.isArrayOf_alike (T := s.setVm V) hZ.alike Ar.2.1) (g := mkF m pc Ls (.ref a :: rest)) rfl rfl hd _ q) go
theorem s_iload {i : Nat} {v : Int32} (S : St p l e R s m args below meth c Z a0 EL n0 own T V h k n) (hd : decode c.code pc = .ok (.iload i, 2)) (hv : Ls[i]? = some (.val (.int v))) {pc' : Nat} (hp : pc + 2 = pc') (go : Go p e below Q (T.setTop (mkF m pc' Ls (.int v :: rest)))) : Go p e below Q (T.setTop (mkF m pc Ls rest)) := by
  subst hp; exact Go.of (fun _ q => XS.iload S.here S.hx rfl hd hv q) go
theorem s_iloadN {i : Fin 4} {v : Int32} (S : St p l e R s m args below meth c Z a0 EL n0 own T V h k n) (hd : decode c.code pc = .ok (.iload_n i, 1)) (hv : Ls[i.val]? = some (.val (.int v))) {pc' : Nat} (hp : pc + 1 = pc') (go : Go p e below Q (T.setTop (mkF m pc' Ls (.int v :: rest)))) : Go p e below Q (T.setTop (mkF m pc Ls rest)) := by
  subst hp; exact Go.of (fun _ q => XS.iloadN S.here S.hx rfl hd hv q) go
theorem s_lload {i : Nat} {v : Int64} (S : St p l e R s m args below meth c Z a0 EL n0 own T V h k n) (hd : decode c.code pc = .ok (.lload i, 2)) (hv : Ls[i]? = some (.val (.long v))) {pc' : Nat} (hp : pc + 2 = pc') (go : Go p e below Q (T.setTop (mkF m pc' Ls (.long v :: rest)))) : Go p e below Q (T.setTop (mkF m pc Ls rest)) := by
  subst hp; exact Go.of (fun _ q => XS.lload S.here S.hx rfl hd hv q) go
theorem s_lloadN {i : Fin 4} {v : Int64} (S : St p l e R s m args below meth c Z a0 EL n0 own T V h k n) (hd : decode c.code pc = .ok (.lload_n i, 1)) (hv : Ls[i.val]? = some (.val (.long v))) {pc' : Nat} (hp : pc + 1 = pc') (go : Go p e below Q (T.setTop (mkF m pc' Ls (.long v :: rest)))) : Go p e below Q (T.setTop (mkF m pc Ls rest)) := by
  subst hp; exact Go.of (fun _ q => XS.lloadN S.here S.hx rfl hd hv q) go
theorem s_aload {i : Nat} {v : Value} (S : St p l e R s m args below meth c Z a0 EL n0 own T V h k n) (hd : decode c.code pc = .ok (.aload i, 2)) (hv : Ls[i]? = some (.val v)) (hr : v.isRef = true) {pc' : Nat} (hp : pc + 2 = pc') (go : Go p e below Q (T.setTop (mkF m pc' Ls (v :: rest)))) : Go p e below Q (T.setTop (mkF m pc Ls rest)) := by
  subst hp; exact Go.of (fun _ q => XS.aload S.here S.hx rfl hd hv hr q) go
theorem s_aloadN {i : Fin 4} {v : Value} (S : St p l e R s m args below meth c Z a0 EL n0 own T V h k n) (hd : decode c.code pc = .ok (.aload_n i, 1)) (hv : Ls[i.val]? = some (.val v)) (hr : v.isRef = true) {pc' : Nat} (hp : pc + 1 = pc') (go : Go p e below Q (T.setTop (mkF m pc' Ls (v :: rest)))) : Go p e below Q (T.setTop (mkF m pc Ls rest)) := by
  subst hp; exact Go.of (fun _ q => XS.aloadN S.here S.hx rfl hd hv hr q) go
theorem s_istore {i : Nat} {v : Int32} {L' : Array Slot} (S : St p l e R s m args below meth c Z a0 EL n0 own T V h k n) (hd : decode c.code pc = .ok (.istore i, 2)) (hl : storeLocals Ls i (.int v) = some L') {pc' : Nat} (hp : pc + 2 = pc') (go : Go p e below Q (T.setTop (mkF m pc' L' rest))) : Go p e below Q (T.setTop (mkF m pc Ls (.int v :: rest))) := by
  subst hp; exact Go.of (fun _ q => XS.istore S.here S.hx rfl hd rfl hl q) go
theorem s_istoreN {i : Fin 4} {v : Int32} {L' : Array Slot} (S : St p l e R s m args below meth c Z a0 EL n0 own T V h k n) (hd : decode c.code pc = .ok (.istore_n i, 1)) (hl : storeLocals Ls i.val (.int v) = some L') {pc' : Nat} (hp : pc + 1 = pc') (go : Go p e below Q (T.setTop (mkF m pc' L' rest))) : Go p e below Q (T.setTop (mkF m pc Ls (.int v :: rest))) := by
  subst hp; exact Go.of (fun _ q => XS.istoreN S.here S.hx rfl hd rfl hl q) go
theorem s_lstore {i : Nat} {v : Int64} {L' : Array Slot} (S : St p l e R s m args below meth c Z a0 EL n0 own T V h k n) (hd : decode c.code pc = .ok (.lstore i, 2)) (hl : storeLocals Ls i (.long v) = some L') {pc' : Nat} (hp : pc + 2 = pc') (go : Go p e below Q (T.setTop (mkF m pc' L' rest))) : Go p e below Q (T.setTop (mkF m pc Ls (.long v :: rest))) := by
  subst hp; exact Go.of (fun _ q => XS.lstore S.here S.hx rfl hd rfl hl q) go
theorem s_lstoreN {i : Fin 4} {v : Int64} {L' : Array Slot} (S : St p l e R s m args below meth c Z a0 EL n0 own T V h k n) (hd : decode c.code pc = .ok (.lstore_n i, 1)) (hl : storeLocals Ls i.val (.long v) = some L') {pc' : Nat} (hp : pc + 1 = pc') (go : Go p e below Q (T.setTop (mkF m pc' L' rest))) : Go p e below Q (T.setTop (mkF m pc Ls (.long v :: rest))) := by
  subst hp; exact Go.of (fun _ q => XS.lstoreN S.here S.hx rfl hd rfl hl q) go
theorem s_astore {i : Nat} {v : Value} {L' : Array Slot} (S : St p l e R s m args below meth c Z a0 EL n0 own T V h k n) (hd : decode c.code pc = .ok (.astore i, 2)) (hr : v.isRef = true) (hl : storeLocals Ls i v = some L') {pc' : Nat} (hp : pc + 2 = pc') (go : Go p e below Q (T.setTop (mkF m pc' L' rest))) : Go p e below Q (T.setTop (mkF m pc Ls (v :: rest))) := by
  subst hp; exact Go.of (fun _ q => XS.astore S.here S.hx rfl hd rfl hr hl q) go
theorem s_astoreN {i : Fin 4} {v : Value} {L' : Array Slot} (S : St p l e R s m args below meth c Z a0 EL n0 own T V h k n) (hd : decode c.code pc = .ok (.astore_n i, 1)) (hr : v.isRef = true) (hl : storeLocals Ls i.val v = some L') {pc' : Nat} (hp : pc + 1 = pc') (go : Go p e below Q (T.setTop (mkF m pc' L' rest))) : Go p e below Q (T.setTop (mkF m pc Ls (v :: rest))) := by
  subst hp; exact Go.of (fun _ q => XS.astoreN S.here S.hx rfl hd rfl hr hl q) go
theorem s_iconst {i : Int} {v : Int32} (S : St p l e R s m args below meth c Z a0 EL n0 own T V h k n) (hd : decode c.code pc = .ok (.iconst i, 1)) (hv : Int32.ofInt i = v) {pc' : Nat} (hp : pc + 1 = pc') (go : Go p e below Q (T.setTop (mkF m pc' Ls (.int v :: rest)))) : Go p e below Q (T.setTop (mkF m pc Ls rest)) := by
  subst hp hv; exact Go.of (fun _ q => XS.iconst S.here S.hx rfl hd q) go
theorem s_bipush {i : Int} {v : Int32} (S : St p l e R s m args below meth c Z a0 EL n0 own T V h k n) (hd : decode c.code pc = .ok (.bipush i, 2)) (hv : (Int8.ofInt i).toInt32 = v) {pc' : Nat} (hp : pc + 2 = pc') (go : Go p e below Q (T.setTop (mkF m pc' Ls (.int v :: rest)))) : Go p e below Q (T.setTop (mkF m pc Ls rest)) := by
  subst hp hv; exact Go.of (fun _ q => XS.bipush S.here S.hx rfl hd q) go
theorem s_sipush {i : Int} {v : Int32} (S : St p l e R s m args below meth c Z a0 EL n0 own T V h k n) (hd : decode c.code pc = .ok (.sipush i, 3)) (hv : (Int16.ofInt i).toInt32 = v) {pc' : Nat} (hp : pc + 3 = pc') (go : Go p e below Q (T.setTop (mkF m pc' Ls (.int v :: rest)))) : Go p e below Q (T.setTop (mkF m pc Ls rest)) := by
  subst hp hv; exact Go.of (fun _ q => XS.sipush S.here S.hx rfl hd q) go
theorem s_null  (S : St p l e R s m args below meth c Z a0 EL n0 own T V h k n) (hd : decode c.code pc = .ok (.aconst_null, 1))  {pc' : Nat} (hp : pc + 1 = pc') (go : Go p e below Q (T.setTop (mkF m pc' Ls (.null :: rest)))) : Go p e below Q (T.setTop (mkF m pc Ls rest)) := by
  subst hp; exact Go.of (fun _ q => XS.aconstNull S.here S.hx rfl hd q) go
theorem s_dup {v : Value} (S : St p l e R s m args below meth c Z a0 EL n0 own T V h k n) (hd : decode c.code pc = .ok (.dup, 1)) (hc : v.category = 1) {pc' : Nat} (hp : pc + 1 = pc') (go : Go p e below Q (T.setTop (mkF m pc' Ls (v :: v :: rest)))) : Go p e below Q (T.setTop (mkF m pc Ls (v :: rest))) := by
  subst hp; exact Go.of (fun _ q => XS.dup S.here S.hx rfl hd rfl hc q) go
theorem s_pop {v : Value} (S : St p l e R s m args below meth c Z a0 EL n0 own T V h k n) (hd : decode c.code pc = .ok (.pop, 1)) (hc : v.category = 1) {pc' : Nat} (hp : pc + 1 = pc') (go : Go p e below Q (T.setTop (mkF m pc' Ls rest))) : Go p e below Q (T.setTop (mkF m pc Ls (v :: rest))) := by
  subst hp; exact Go.of (fun _ q => XS.pop S.here S.hx rfl hd rfl hc q) go
theorem s_dupX1 {v u : Value} (S : St p l e R s m args below meth c Z a0 EL n0 own T V h k n) (hd : decode c.code pc = .ok (.dup_x1, 1)) (hc : v.category = 1) (hu : u.category = 1) {pc' : Nat} (hp : pc + 1 = pc') (go : Go p e below Q (T.setTop (mkF m pc' Ls (v :: u :: v :: rest)))) : Go p e below Q (T.setTop (mkF m pc Ls (v :: u :: rest))) := by
  subst hp; exact Go.of (fun _ q => XS.dupX1 S.here S.hx rfl hd rfl hc hu q) go
theorem s_iadd {x y z : Int32} (S : St p l e R s m args below meth c Z a0 EL n0 own T V h k n) (hd : decode c.code pc = .ok (.iadd, 1)) (hv : x + y = z) {pc' : Nat} (hp : pc + 1 = pc') (go : Go p e below Q (T.setTop (mkF m pc' Ls (.int z :: rest)))) : Go p e below Q (T.setTop (mkF m pc Ls (.int y :: .int x :: rest))) := by
  subst hp hv; exact Go.of (fun _ q => XS.iadd S.here S.hx rfl hd rfl q) go
theorem s_isub {x y z : Int32} (S : St p l e R s m args below meth c Z a0 EL n0 own T V h k n) (hd : decode c.code pc = .ok (.isub, 1)) (hv : x - y = z) {pc' : Nat} (hp : pc + 1 = pc') (go : Go p e below Q (T.setTop (mkF m pc' Ls (.int z :: rest)))) : Go p e below Q (T.setTop (mkF m pc Ls (.int y :: .int x :: rest))) := by
  subst hp hv; exact Go.of (fun _ q => XS.isub S.here S.hx rfl hd rfl q) go
theorem s_imul {x y z : Int32} (S : St p l e R s m args below meth c Z a0 EL n0 own T V h k n) (hd : decode c.code pc = .ok (.imul, 1)) (hv : x * y = z) {pc' : Nat} (hp : pc + 1 = pc') (go : Go p e below Q (T.setTop (mkF m pc' Ls (.int z :: rest)))) : Go p e below Q (T.setTop (mkF m pc Ls (.int y :: .int x :: rest))) := by
  subst hp hv; exact Go.of (fun _ q => XS.imul S.here S.hx rfl hd rfl q) go
theorem s_iand {x y z : Int32} (S : St p l e R s m args below meth c Z a0 EL n0 own T V h k n) (hd : decode c.code pc = .ok (.iand, 1)) (hv : x &&& y = z) {pc' : Nat} (hp : pc + 1 = pc') (go : Go p e below Q (T.setTop (mkF m pc' Ls (.int z :: rest)))) : Go p e below Q (T.setTop (mkF m pc Ls (.int y :: .int x :: rest))) := by
  subst hp hv; exact Go.of (fun _ q => XS.iand S.here S.hx rfl hd rfl q) go
theorem s_ior {x y z : Int32} (S : St p l e R s m args below meth c Z a0 EL n0 own T V h k n) (hd : decode c.code pc = .ok (.ior, 1)) (hv : x ||| y = z) {pc' : Nat} (hp : pc + 1 = pc') (go : Go p e below Q (T.setTop (mkF m pc' Ls (.int z :: rest)))) : Go p e below Q (T.setTop (mkF m pc Ls (.int y :: .int x :: rest))) := by
  subst hp hv; exact Go.of (fun _ q => XS.ior S.here S.hx rfl hd rfl q) go
theorem s_ixor {x y z : Int32} (S : St p l e R s m args below meth c Z a0 EL n0 own T V h k n) (hd : decode c.code pc = .ok (.ixor, 1)) (hv : x ^^^ y = z) {pc' : Nat} (hp : pc + 1 = pc') (go : Go p e below Q (T.setTop (mkF m pc' Ls (.int z :: rest)))) : Go p e below Q (T.setTop (mkF m pc Ls (.int y :: .int x :: rest))) := by
  subst hp hv; exact Go.of (fun _ q => XS.ixor S.here S.hx rfl hd rfl q) go
theorem s_ladd {x y z : Int64} (S : St p l e R s m args below meth c Z a0 EL n0 own T V h k n) (hd : decode c.code pc = .ok (.ladd, 1)) (hv : x + y = z) {pc' : Nat} (hp : pc + 1 = pc') (go : Go p e below Q (T.setTop (mkF m pc' Ls (.long z :: rest)))) : Go p e below Q (T.setTop (mkF m pc Ls (.long y :: .long x :: rest))) := by
  subst hp hv; exact Go.of (fun _ q => XS.ladd S.here S.hx rfl hd rfl q) go
theorem s_lsub {x y z : Int64} (S : St p l e R s m args below meth c Z a0 EL n0 own T V h k n) (hd : decode c.code pc = .ok (.lsub, 1)) (hv : x - y = z) {pc' : Nat} (hp : pc + 1 = pc') (go : Go p e below Q (T.setTop (mkF m pc' Ls (.long z :: rest)))) : Go p e below Q (T.setTop (mkF m pc Ls (.long y :: .long x :: rest))) := by
  subst hp hv; exact Go.of (fun _ q => XS.lsub S.here S.hx rfl hd rfl q) go
theorem s_lmul {x y z : Int64} (S : St p l e R s m args below meth c Z a0 EL n0 own T V h k n) (hd : decode c.code pc = .ok (.lmul, 1)) (hv : x * y = z) {pc' : Nat} (hp : pc + 1 = pc') (go : Go p e below Q (T.setTop (mkF m pc' Ls (.long z :: rest)))) : Go p e below Q (T.setTop (mkF m pc Ls (.long y :: .long x :: rest))) := by
  subst hp hv; exact Go.of (fun _ q => XS.lmul S.here S.hx rfl hd rfl q) go
theorem s_land {x y z : Int64} (S : St p l e R s m args below meth c Z a0 EL n0 own T V h k n) (hd : decode c.code pc = .ok (.land, 1)) (hv : x &&& y = z) {pc' : Nat} (hp : pc + 1 = pc') (go : Go p e below Q (T.setTop (mkF m pc' Ls (.long z :: rest)))) : Go p e below Q (T.setTop (mkF m pc Ls (.long y :: .long x :: rest))) := by
  subst hp hv; exact Go.of (fun _ q => XS.land S.here S.hx rfl hd rfl q) go
theorem s_lor {x y z : Int64} (S : St p l e R s m args below meth c Z a0 EL n0 own T V h k n) (hd : decode c.code pc = .ok (.lor, 1)) (hv : x ||| y = z) {pc' : Nat} (hp : pc + 1 = pc') (go : Go p e below Q (T.setTop (mkF m pc' Ls (.long z :: rest)))) : Go p e below Q (T.setTop (mkF m pc Ls (.long y :: .long x :: rest))) := by
  subst hp hv; exact Go.of (fun _ q => XS.lor S.here S.hx rfl hd rfl q) go
theorem s_lxor {x y z : Int64} (S : St p l e R s m args below meth c Z a0 EL n0 own T V h k n) (hd : decode c.code pc = .ok (.lxor, 1)) (hv : x ^^^ y = z) {pc' : Nat} (hp : pc + 1 = pc') (go : Go p e below Q (T.setTop (mkF m pc' Ls (.long z :: rest)))) : Go p e below Q (T.setTop (mkF m pc Ls (.long y :: .long x :: rest))) := by
  subst hp hv; exact Go.of (fun _ q => XS.lxor S.here S.hx rfl hd rfl q) go
theorem s_ishl {x y z : Int32} (S : St p l e R s m args below meth c Z a0 EL n0 own T V h k n) (hd : decode c.code pc = .ok (.ishl, 1)) (hv : x <<< (y &&& 31) = z) {pc' : Nat} (hp : pc + 1 = pc') (go : Go p e below Q (T.setTop (mkF m pc' Ls (.int z :: rest)))) : Go p e below Q (T.setTop (mkF m pc Ls (.int y :: .int x :: rest))) := by
  subst hp hv; exact Go.of (fun _ q => XS.ishl S.here S.hx rfl hd rfl q) go
theorem s_ishr {x y z : Int32} (S : St p l e R s m args below meth c Z a0 EL n0 own T V h k n) (hd : decode c.code pc = .ok (.ishr, 1)) (hv : x >>> (y &&& 31) = z) {pc' : Nat} (hp : pc + 1 = pc') (go : Go p e below Q (T.setTop (mkF m pc' Ls (.int z :: rest)))) : Go p e below Q (T.setTop (mkF m pc Ls (.int y :: .int x :: rest))) := by
  subst hp hv; exact Go.of (fun _ q => XS.ishr S.here S.hx rfl hd rfl q) go
theorem s_iushr {x y z : Int32} (S : St p l e R s m args below meth c Z a0 EL n0 own T V h k n) (hd : decode c.code pc = .ok (.iushr, 1)) (hv : (x.toUInt32 >>> (y &&& 31).toUInt32).toInt32 = z) {pc' : Nat} (hp : pc + 1 = pc') (go : Go p e below Q (T.setTop (mkF m pc' Ls (.int z :: rest)))) : Go p e below Q (T.setTop (mkF m pc Ls (.int y :: .int x :: rest))) := by
  subst hp hv; exact Go.of (fun _ q => XS.iushr S.here S.hx rfl hd rfl q) go
theorem s_lshl {x z : Int64} {y : Int32} (S : St p l e R s m args below meth c Z a0 EL n0 own T V h k n) (hd : decode c.code pc = .ok (.lshl, 1)) (hv : x <<< (y &&& 0x3f).toInt64 = z) {pc' : Nat} (hp : pc + 1 = pc') (go : Go p e below Q (T.setTop (mkF m pc' Ls (.long z :: rest)))) : Go p e below Q (T.setTop (mkF m pc Ls (.int y :: .long x :: rest))) := by
  subst hp hv; exact Go.of (fun _ q => XS.lshl S.here S.hx rfl hd rfl q) go
theorem s_lshr {x z : Int64} {y : Int32} (S : St p l e R s m args below meth c Z a0 EL n0 own T V h k n) (hd : decode c.code pc = .ok (.lshr, 1)) (hv : x >>> (y &&& 0x3f).toInt64 = z) {pc' : Nat} (hp : pc + 1 = pc') (go : Go p e below Q (T.setTop (mkF m pc' Ls (.long z :: rest)))) : Go p e below Q (T.setTop (mkF m pc Ls (.int y :: .long x :: rest))) := by
  subst hp hv; exact Go.of (fun _ q => XS.lshr S.here S.hx rfl hd rfl q) go
theorem s_lushr {x z : Int64} {y : Int32} (S : St p l e R s m args below meth c Z a0 EL n0 own T V h k n) (hd : decode c.code pc = .ok (.lushr, 1)) (hv : (x.toUInt64 >>> (y &&& 0x3f).toInt64.toUInt64).toInt64 = z) {pc' : Nat} (hp : pc + 1 = pc') (go : Go p e below Q (T.setTop (mkF m pc' Ls (.long z :: rest)))) : Go p e below Q (T.setTop (mkF m pc Ls (.int y :: .long x :: rest))) := by
  subst hp hv; exact Go.of (fun _ q => XS.lushr S.here S.hx rfl hd rfl q) go
theorem s_i2c {x z : Int32} (S : St p l e R s m args below meth c Z a0 EL n0 own T V h k n) (hd : decode c.code pc = .ok (.i2c, 1)) (hv : x.toUInt32.toUInt16.toUInt32.toInt32 = z) {pc' : Nat} (hp : pc + 1 = pc') (go : Go p e below Q (T.setTop (mkF m pc' Ls (.int z :: rest)))) : Go p e below Q (T.setTop (mkF m pc Ls (.int x :: rest))) := by
  subst hp hv; exact Go.of (fun _ q => XS.i2c S.here S.hx rfl hd rfl q) go
theorem s_i2b {x z : Int32} (S : St p l e R s m args below meth c Z a0 EL n0 own T V h k n) (hd : decode c.code pc = .ok (.i2b, 1)) (hv : x.toInt8.toInt32 = z) {pc' : Nat} (hp : pc + 1 = pc') (go : Go p e below Q (T.setTop (mkF m pc' Ls (.int z :: rest)))) : Go p e below Q (T.setTop (mkF m pc Ls (.int x :: rest))) := by
  subst hp hv; exact Go.of (fun _ q => XS.i2b S.here S.hx rfl hd rfl q) go
theorem s_i2s {x z : Int32} (S : St p l e R s m args below meth c Z a0 EL n0 own T V h k n) (hd : decode c.code pc = .ok (.i2s, 1)) (hv : x.toInt16.toInt32 = z) {pc' : Nat} (hp : pc + 1 = pc') (go : Go p e below Q (T.setTop (mkF m pc' Ls (.int z :: rest)))) : Go p e below Q (T.setTop (mkF m pc Ls (.int x :: rest))) := by
  subst hp hv; exact Go.of (fun _ q => XS.i2s S.here S.hx rfl hd rfl q) go
theorem s_i2l {x : Int32} {z : Int64} (S : St p l e R s m args below meth c Z a0 EL n0 own T V h k n) (hd : decode c.code pc = .ok (.i2l, 1)) (hv : x.toInt64 = z) {pc' : Nat} (hp : pc + 1 = pc') (go : Go p e below Q (T.setTop (mkF m pc' Ls (.long z :: rest)))) : Go p e below Q (T.setTop (mkF m pc Ls (.int x :: rest))) := by
  subst hp hv; exact Go.of (fun _ q => XS.i2l S.here S.hx rfl hd rfl q) go
theorem s_l2i {x : Int64} {z : Int32} (S : St p l e R s m args below meth c Z a0 EL n0 own T V h k n) (hd : decode c.code pc = .ok (.l2i, 1)) (hv : x.toInt32 = z) {pc' : Nat} (hp : pc + 1 = pc') (go : Go p e below Q (T.setTop (mkF m pc' Ls (.int z :: rest)))) : Go p e below Q (T.setTop (mkF m pc Ls (.long x :: rest))) := by
  subst hp hv; exact Go.of (fun _ q => XS.l2i S.here S.hx rfl hd rfl q) go
theorem s_lcmp {x y : Int64} {z : Int32} (S : St p l e R s m args below meth c Z a0 EL n0 own T V h k n) (hd : decode c.code pc = .ok (.lcmp, 1)) (hv : lcmpW x y = z) {pc' : Nat} (hp : pc + 1 = pc') (go : Go p e below Q (T.setTop (mkF m pc' Ls (.int z :: rest)))) : Go p e below Q (T.setTop (mkF m pc Ls (.long y :: .long x :: rest))) := by
  subst hp hv; exact Go.of (fun _ q => XS.lcmp S.here S.hx rfl hd rfl q) go
theorem s_idiv {x y z : Int32} (S : St p l e R s m args below meth c Z a0 EL n0 own T V h k n) (hd : decode c.code pc = .ok (.idiv, 1)) (h0 : y ≠ 0) (hv : x / y = z) {pc' : Nat} (hp : pc + 1 = pc') (go : Go p e below Q (T.setTop (mkF m pc' Ls (.int z :: rest)))) : Go p e below Q (T.setTop (mkF m pc Ls (.int y :: .int x :: rest))) := by
  subst hp hv; exact Go.of (fun _ q => XS.idiv S.here S.hx rfl hd rfl h0 q) go
theorem s_ldiv {x y z : Int64} (S : St p l e R s m args below meth c Z a0 EL n0 own T V h k n) (hd : decode c.code pc = .ok (.ldiv, 1)) (h0 : y ≠ 0) (hv : x / y = z) {pc' : Nat} (hp : pc + 1 = pc') (go : Go p e below Q (T.setTop (mkF m pc' Ls (.long z :: rest)))) : Go p e below Q (T.setTop (mkF m pc Ls (.long y :: .long x :: rest))) := by
  subst hp hv; exact Go.of (fun _ q => XS.ldiv S.here S.hx rfl hd rfl h0 q) go
theorem s_irem {x y z : Int32} (S : St p l e R s m args below meth c Z a0 EL n0 own T V h k n) (hd : decode c.code pc = .ok (.irem, 1)) (h0 : y ≠ 0) (hv : x % y = z) {pc' : Nat} (hp : pc + 1 = pc') (go : Go p e below Q (T.setTop (mkF m pc' Ls (.int z :: rest)))) : Go p e below Q (T.setTop (mkF m pc Ls (.int y :: .int x :: rest))) := by
  subst hp hv; rw [← irem_eq_mod] at go; exact Go.of (fun _ q => XS.irem S.here S.hx rfl hd rfl h0 q) go
theorem s_goto (S : St p l e R s m args below meth c Z a0 EL n0 own T V h k n) {o : Int} {pcT : Nat} (hd : decode c.code pc = .ok (.goto o, 3)) (ho : 0 ≤ (pc : Int) + o) (hp : ((pc : Int) + o).toNat = pcT) (go : Go p e below Q (T.setTop (mkF m pcT Ls rest))) : Go p e below Q (T.setTop (mkF m pc Ls rest)) := Go.of (fun _ q => XS.goto S.here S.hx rfl (pc0 := pc) (pc' := pcT) rfl hd ho hp q) go
theorem s_iinc {i : Nat} {d : Int} {v z : Int32} {L' : Array Slot} (S : St p l e R s m args below meth c Z a0 EL n0 own T V h k n) (hd : decode c.code pc = .ok (.iinc i d, 3)) (hv : Ls[i]? = some (.val (.int v))) (hz : v + Int32.ofInt d = z) (hl : storeLocals Ls i (.int z) = some L') {pc' : Nat} (hp : pc + 3 = pc') (go : Go p e below Q (T.setTop (mkF m pc' L' rest))) : Go p e below Q (T.setTop (mkF m pc Ls rest)) := by
  subst hp hz; exact Go.of (fun _ q => XS.iinc S.here S.hx rfl hd hv hl q) go
theorem s_icmpY (S : St p l e R s m args below meth c Z a0 EL n0 own T V h k n) {cd : ClassFile.Cond} {x y : Int32} {o : Int} {pcT : Nat} (hd : decode c.code pc = .ok (.if_icmp cd o, 3)) (hc : if_icmp.holds cd x y = true) (ho : 0 ≤ (pc : Int) + o) (hp : ((pc : Int) + o).toNat = pcT) (go : Go p e below Q (T.setTop (mkF m pcT Ls rest))) : Go p e below Q (T.setTop (mkF m pc Ls (.int y :: .int x :: rest))) := Go.of (fun _ r => XS.icmpYes S.here S.hx rfl (pc0 := pc) (pc' := pcT) rfl hd rfl hc ho hp r) go
theorem s_icmpN (S : St p l e R s m args below meth c Z a0 EL n0 own T V h k n) {cd : ClassFile.Cond} {x y : Int32} {o : Int} (hd : decode c.code pc = .ok (.if_icmp cd o, 3)) (hc : if_icmp.holds cd x y = false) {pc' : Nat} (hp : pc + 3 = pc') (go : Go p e below Q (T.setTop (mkF m pc' Ls rest))) : Go p e below Q (T.setTop (mkF m pc Ls (.int y :: .int x :: rest))) := by
  subst hp; exact Go.of (fun _ r => XS.icmpNo S.here S.hx rfl hd rfl hc r) go
theorem s_ifY (S : St p l e R s m args below meth c Z a0 EL n0 own T V h k n) {cd : ClassFile.Cond} {x : Int32} {o : Int} {pcT : Nat} (hd : decode c.code pc = .ok (.ifCond cd o, 3)) (hc : ifCond.holds cd x = true) (ho : 0 ≤ (pc : Int) + o) (hp : ((pc : Int) + o).toNat = pcT) (go : Go p e below Q (T.setTop (mkF m pcT Ls rest))) : Go p e below Q (T.setTop (mkF m pc Ls (.int x :: rest))) := Go.of (fun _ r => XS.ifYes S.here S.hx rfl (pc0 := pc) (pc' := pcT) rfl hd rfl hc ho hp r) go
theorem s_ifN (S : St p l e R s m args below meth c Z a0 EL n0 own T V h k n) {cd : ClassFile.Cond} {x : Int32} {o : Int} (hd : decode c.code pc = .ok (.ifCond cd o, 3)) (hc : ifCond.holds cd x = false) {pc' : Nat} (hp : pc + 3 = pc') (go : Go p e below Q (T.setTop (mkF m pc' Ls rest))) : Go p e below Q (T.setTop (mkF m pc Ls (.int x :: rest))) := by
  subst hp; exact Go.of (fun _ r => XS.ifNo S.here S.hx rfl hd rfl hc r) go
theorem s_nullY (S : St p l e R s m args below meth c Z a0 EL n0 own T V h k n) {o : Int} {pcT : Nat} (hd : decode c.code pc = .ok (.ifnull o, 3)) (ho : 0 ≤ (pc : Int) + o) (hp : ((pc : Int) + o).toNat = pcT) (go : Go p e below Q (T.setTop (mkF m pcT Ls rest))) : Go p e below Q (T.setTop (mkF m pc Ls (.null :: rest))) := Go.of (fun _ r => XS.ifnullYes S.here S.hx rfl (pc0 := pc) (pc' := pcT) rfl hd rfl ho hp r) go
theorem s_nullN (S : St p l e R s m args below meth c Z a0 EL n0 own T V h k n) {o : Int} {b : Addr} (hd : decode c.code pc = .ok (.ifnull o, 3)) {pc' : Nat} (hp : pc + 3 = pc') (go : Go p e below Q (T.setTop (mkF m pc' Ls rest))) : Go p e below Q (T.setTop (mkF m pc Ls (.ref b :: rest))) := by
  subst hp; exact Go.of (fun _ r => XS.ifnullNo S.here S.hx rfl hd rfl r) go
theorem s_nonnullY (S : St p l e R s m args below meth c Z a0 EL n0 own T V h k n) {o : Int} {b : Addr} {pcT : Nat} (hd : decode c.code pc = .ok (.ifnonnull o, 3)) (ho : 0 ≤ (pc : Int) + o) (hp : ((pc : Int) + o).toNat = pcT) (go : Go p e below Q (T.setTop (mkF m pcT Ls rest))) : Go p e below Q (T.setTop (mkF m pc Ls (.ref b :: rest))) := Go.of (fun _ r => XS.ifnonnullYes S.here S.hx rfl (pc0 := pc) (pc' := pcT) rfl hd rfl ho hp r) go
theorem s_nonnullN (S : St p l e R s m args below meth c Z a0 EL n0 own T V h k n) {o : Int} (hd : decode c.code pc = .ok (.ifnonnull o, 3)) {pc' : Nat} (hp : pc + 3 = pc') (go : Go p e below Q (T.setTop (mkF m pc' Ls rest))) : Go p e below Q (T.setTop (mkF m pc Ls (.null :: rest))) := by
  subst hp; exact Go.of (fun _ r => XS.ifnonnullNo S.here S.hx rfl hd rfl r) go
theorem s_acmp (S : St p l e R s m args below meth c Z a0 EL n0 own T V h k n) {cd : ACond} {x y : Value} (h1 : x.isRef = true) (h2 : y.isRef = true) {o : Int} {pcT : Nat} {same : Bool} (hd : decode c.code pc = .ok (.if_acmp cd o, 3)) (hq : decide (x = y) = same) (ho : 0 ≤ (pc : Int) + o) (hp : pcT = if acV cd same = true then ((pc : Int) + o).toNat else pc + 3) (go : Go p e below Q (T.setTop (mkF m pcT Ls rest))) : Go p e below Q (T.setTop (mkF m pc Ls (y :: x :: rest))) := by
  obtain ⟨hx, eT, hZ, hown, hO, hE, hC, hlk, locs, k0, X, hS, hk, hF⟩ := S
  exact Go.of (fun _ r => Jvm.RoadKit.acmp (g := mkF m pc Ls (y :: x :: rest)) X hx rfl h1 h2 (pc0 := pc) (pc' := pcT) (same := same) rfl hd rfl hq ho hp r) go
theorem g_bastore (S : St p l e R s m args below meth c Z a0 EL n0 own T V h k n) {a : Addr} {kc : ClassId} {z : Int32} {vs : List Value} {dv : Value} (A : Arv Z h a kc .byte z vs dv) {j : Int32} {x : Int32} (hj : ¬ j < 0 ∧ j < z) (i : Nat) (hi : j.toNatClampNeg = i) (hlt : i < vs.length) (na : n0 ≤ a) (sf : Safe Z EL V h a) (hd : decode c.code pc = .ok (.bastore, 1))
    (go : ∀ T' h', St p l e R s m args below meth c Z a0 EL n0 own T' V h' k n → Keep h h' [a] → Arv Z h' a kc .byte z (vs.set i (.int (nar .byte x))) dv → Safe Z EL V h' a → Go p e below Q (T'.setTop (mkF m (pc + 1) Ls rest))) : Go p e below Q (T.setTop (mkF m pc Ls ((.int x) :: .int j :: .ref a :: rest))) := by
  obtain ⟨hx, eT, hZ, hown, hO, hE, hC, hlk, locs, k0, X, hS, hk, hF⟩ := S
  skip
  obtain ⟨cl, Ar, q1, q2, q3, q4, q5⟩ := A
  obtain ⟨T', h', X', e', W, st⟩ := stB X hx hZ eT Ar (j := j) (x := x) (inb_of q2 hj) (g := mkF m pc Ls ((.int x) :: .int j :: .ref a :: rest)) rfl rfl hd
  have K := Keep.of_wr W
  exact Go.of st (go T' h' ⟨hx, e', hZ, hown, hO.wr W na, hE, hC.trans (CHr.wr W sf hC.1), hlk, _, k0, X', hS, Nat.le_trans hk K.1, Fr.snoc X' hF na⟩ K (Arv.set Ar q1 q2 q3 q4 q5 (fits_nar_byte x) W i hi hlt) (Safe.wr W sf hC.1 sf))
theorem g_iastore (S : St p l e R s m args below meth c Z a0 EL n0 own T V h k n) {a : Addr} {kc : ClassId} {z : Int32} {vs : List Value} {dv : Value} (A : Arv Z h a kc .int z vs dv) {j : Int32} {x : Int32} (hj : ¬ j < 0 ∧ j < z) (i : Nat) (hi : j.toNatClampNeg = i) (hlt : i < vs.length) (na : n0 ≤ a) (hd : decode c.code pc = .ok (.iastore, 1))
    (go : ∀ T' h', St p l e R s m args below meth c Z a0 EL n0 own T' V h' k n → Keep h h' [a] → Arv Z h' a kc .int z (vs.set i (.int x)) dv → Safe Z EL V h' a → Go p e below Q (T'.setTop (mkF m (pc + 1) Ls rest))) : Go p e below Q (T.setTop (mkF m pc Ls ((.int x) :: .int j :: .ref a :: rest))) := by
  obtain ⟨hx, eT, hZ, hown, hO, hE, hC, hlk, locs, k0, X, hS, hk, hF⟩ := S
  have sf : Safe Z EL V h a := Safe.arv hZ.alike A (by decide)
  obtain ⟨cl, Ar, q1, q2, q3, q4, q5⟩ := A
  obtain ⟨T', h', X', e', W, st⟩ := stI X hx hZ eT Ar (j := j) (x := x) (inb_of q2 hj) (g := mkF m pc Ls ((.int x) :: .int j :: .ref a :: rest)) rfl rfl hd
  have K := Keep.of_wr W
  exact Go.of st (go T' h' ⟨hx, e', hZ, hown, hO.wr W na, hE, hC.trans (CHr.wr W sf hC.1), hlk, _, k0, X', hS, Nat.le_trans hk K.1, Fr.snoc X' hF na⟩ K (Arv.set Ar q1 q2 q3 q4 q5 rfl W i hi hlt) (Safe.wr W sf hC.1 sf))
theorem g_lastore (S : St p l e R s m args below meth c Z a0 EL n0 own T V h k n) {a : Addr} {kc : ClassId} {z : Int32} {vs : List Value} {dv : Value} (A : Arv Z h a kc .long z vs dv) {j : Int32} {x : Int64} (hj : ¬ j < 0 ∧ j < z) (i : Nat) (hi : j.toNatClampNeg = i) (hlt : i < vs.length) (na : n0 ≤ a) (hd : decode c.code pc = .ok (.lastore, 1))
    (go : ∀ T' h', St p l e R s m args below meth c Z a0 EL n0 own T' V h' k n → Keep h h' [a] → Arv Z h' a kc .long z (vs.set i (.long x)) dv → Safe Z EL V h' a → Go p e below Q (T'.setTop (mkF m (pc + 1) Ls rest))) : Go p e below Q (T.setTop (mkF m pc Ls ((.long x) :: .int j :: .ref a :: rest))) := by
  obtain ⟨hx, eT, hZ, hown, hO, hE, hC, hlk, locs, k0, X, hS, hk, hF⟩ := S
  have sf : Safe Z EL V h a := Safe.arv hZ.alike A (by decide)
  obtain ⟨cl, Ar, q1, q2, q3, q4, q5⟩ := A
  obtain ⟨T', h', X', e', W, st⟩ := stJ X hx hZ eT Ar (j := j) (x := x) (inb_of q2 hj) (g := mkF m pc Ls ((.long x) :: .int j :: .ref a :: rest)) rfl rfl hd
  have K := Keep.of_wr W
  exact Go.of st (go T' h' ⟨hx, e', hZ, hown, hO.wr W na, hE, hC.trans (CHr.wr W sf hC.1), hlk, _, k0, X', hS, Nat.le_trans hk K.1, Fr.snoc X' hF na⟩ K (Arv.set Ar q1 q2 q3 q4 q5 rfl W i hi hlt) (Safe.wr W sf hC.1 sf))
theorem g_iaload (S : St p l e R s m args below meth c Z a0 EL n0 own T V h k n) {a : Addr} {kc : ClassId} {z : Int32} {vs : List Value} {dv : Value} (A : Arv Z h a kc .int z vs dv) {j : Int32} (hj : ¬ j < 0 ∧ j < z) {x : Int32} (hv : vs.getD j.toNatClampNeg dv = (.int x)) (hd : decode c.code pc = .ok (.iaload, 1)) (go : Go p e below Q (T.setTop (mkF m (pc + 1) Ls ((.int x) :: rest)))) : Go p e below Q (T.setTop (mkF m pc Ls (.int j :: .ref a :: rest))) := by
  obtain ⟨hx, eT, hZ, hown, hO, hE, hC, hlk, locs, k0, X, hS, hk, hF⟩ := S
  obtain ⟨cl, Ar, q1, q2, q3, q4, q5⟩ := A
  have hin := inb_of q2 hj
  exact Go.of (fun _ q => X.iaload hx (j := j) (v := (.int x)) (by rw [eT]; exact Ar.1) (State.isArrayOf_alike (T := s.setVm V) hZ.alike Ar.2.1) Ar.2.2 hin (q4.at hin hv) (g := mkF m pc Ls (.int j :: .ref a :: rest)) rfl rfl hd _ q) go
theorem g_laload (S : St p l e R s m args below meth c Z a0 EL n0 own T V h k n) {a : Addr} {kc : ClassId} {z : Int32} {vs : List Value} {dv : Value} (A : Arv Z h a kc .long z vs dv) {j : Int32} (hj : ¬ j < 0 ∧ j < z) {x : Int64} (hv : vs.getD j.toNatClampNeg dv = (.long x)) (hd : decode c.code pc = .ok (.laload, 1)) (go : Go p e below Q (T.setTop (mkF m (pc + 1) Ls ((.long x) :: rest)))) : Go p e below Q (T.setTop (mkF m pc Ls (.int j :: .ref a :: rest))) := by
  obtain ⟨hx, eT, hZ, hown, hO, hE, hC, hlk, locs, k0, X, hS, hk, hF⟩ := S
  obtain ⟨cl, Ar, q1, q2, q3, q4, q5⟩ := A
  have hin := inb_of q2 hj
  exact Go.of (fun _ q => X.laload hx (j := j) (v := (.long x)) (by rw [eT]; exact Ar.1) (State.isArrayOf_alike (T := s.setVm V) hZ.alike Ar.2.1) Ar.2.2 hin (q4.at hin hv) (g := mkF m pc Ls (.int j :: .ref a :: rest)) rfl rfl hd _ q) go
theorem g_baload (S : St p l e R s m args below meth c Z a0 EL n0 own T V h k n) {a : Addr} {kc : ClassId} {z : Int32} {vs : List Value} {dv : Value} (A : Arv Z h a kc .byte z vs dv) {j : Int32} (hj : ¬ j < 0 ∧ j < z) {x : Int32} (hv : vs.getD j.toNatClampNeg dv = (.int x)) (hd : decode c.code pc = .ok (.baload, 1)) (go : Go p e below Q (T.setTop (mkF m (pc + 1) Ls ((.int x) :: rest)))) : Go p e below Q (T.setTop (mkF m pc Ls (.int j :: .ref a :: rest))) := by
  obtain ⟨hx, eT, hZ, hown, hO, hE, hC, hlk, locs, k0, X, hS, hk, hF⟩ := S
  obtain ⟨cl, Ar, q1, q2, q3, q4, q5⟩ := A
  have hin := inb_of q2 hj
  exact Go.of (fun _ q => X.baloadBytes hx (j := j) (v := (.int x)) (by rw [eT]; exact Ar.1) (State.isArrayOf_alike (T := s.setVm V) hZ.alike Ar.2.1) Ar.2.2 hin (q4.at hin hv) (g := mkF m pc Ls (.int j :: .ref a :: rest)) rfl rfl hd _ q) go
theorem g_instN (S : St p l e R s m args below meth c Z a0 EL n0 own T V h k n) {K C : String} {index : Nat} (w : (Cond.classLink own index K).before a0 Z = true) {a : Addr} (E : Exa Z h a C) (F : ∃ c t, Z.vm.findClass C = some c ∧ Z.vm.findClass K = some t ∧ Z.vm.assignable c t = false) (hd : decode c.code pc = .ok (.instanceof index, 3))
    (go : ∀ T', St p l e R s m args below meth c Z a0 EL n0 own T' V h k n → Go p e below Q (T'.setTop (mkF m (pc + 3) Ls (.int 0 :: rest)))) : Go p e below Q (T.setTop (mkF m pc Ls (.ref a :: rest))) := by
  obtain ⟨hx, eT, hZ, hown, hO, hE, hC, hlk, locs, k0, X, hS, hk, hF⟩ := S
  obtain ⟨T', X', e', st⟩ := instNo X hx hZ hown w eT E F (g := mkF m pc Ls (.ref a :: rest)) rfl rfl hd
  exact Go.of st (go T' ⟨hx, e', hZ, hown, hO, hE, hC, hlk, locs, k0, X', hS, hk, hF⟩)
theorem g_instNull (S : St p l e R s m args below meth c Z a0 EL n0 own T V h k n) {index : Nat} (hd : decode c.code pc = .ok (.instanceof index, 3)) (go : Go p e below Q (T.setTop (mkF m (pc + 3) Ls (.int 0 :: rest)))) : Go p e below Q (T.setTop (mkF m pc Ls (.null :: rest))) := by
  obtain ⟨hx, eT, hZ, hown, hO, hE, hC, hlk, locs, k0, X, hS, hk, hF⟩ := S
  exact Go.of (fun _ q => X.instanceofNull hx (g := mkF m pc Ls (.null :: rest)) rfl rfl hd _ q) go
end Steps
end Jvm.OwnKit
/- laws to paste: Road.backV, Road.codOf (cut by pick.py; bodies as the Statement names them) -/
namespace Jvm.Pilot.@@N@@
namespace StrChars
open Jvm Sem ClassFile Op Lib Jvm.Stand Jvm.Free.XT Jvm.Free.ALB Jvm.Free.JM Jvm.Free
open Jvm.Lib.Cold (StaticIs)
/-- a char array whose places are chars -/
def Ch (a : Addr) (A : Cell) (U : State) : Prop := Arr .char a A U ∧ Typed .char A
theorem Ch.mv {a : Addr} {A : Cell} {U U' : State} (h : Ch a A U) (hal : U.vm.Alike U'.vm) (hh : U'.heap = U.heap) : Ch a A U' := ⟨h.1.mv hal hh, h.2⟩
theorem Ch.keep {a : Addr} {A : Cell} {U U' : State} (h : Ch a A U) (hal : U.vm.Alike U'.vm) (hk : U'.heap[a]? = some A) : Ch a A U' := ⟨h.1.keep hal hk, h.2⟩
/-- what place i of a char[]'s cell holds -/
def cv (A : Cell) (i : Nat) : Int32 := match A.slots[i]? with | some (.int x) => x | _ => 0
theorem Ch.get {a : Addr} {A : Cell} {U : State} (h : Ch a A U) {i : Nat} (hi : i < A.slots.size) : A.slots[i]? = some (.int (cv A i)) := by
  have e := Array.getElem?_eq_getElem hi
  have f := h.2 i _ e
  unfold cv; rw [e]
  generalize A.slots[i] = v at f
  cases v <;> simp [fits] at f ⊢
/-- the byte that i2b leaves of a char -/
def lo8 (x : Int32) : Int32 := x.toInt8.toInt32
theorem fits_lo8 (y : Int32) : fits .byte (.int (lo8 y)) = true := by
  have h1 := y.toInt8.le_toInt
  have h2 := y.toInt8.toInt_lt
  simp only [lo8, fits, Bool.and_eq_true, decide_eq_true_eq, Int32.le_iff_toInt_le, Int8.toInt_toInt32, show (-128 : Int32).toInt = -128 from by decide, show (127 : Int32).toInt = 127 from by decide]
  omega
/-- A' is A but that each place j of lo .. hi - 1 holds f j -/
def Laid (A A' : Cell) (lo hi : Nat) (f : Nat → Value) : Prop := A'.cls = A.cls ∧ A'.vm = A.vm ∧ A'.slots.size = A.slots.size ∧ ∀ i, A'.slots[i]? = if lo ≤ i ∧ i < hi then some (f i) else A.slots[i]?
theorem Laid.zero (A : Cell) (lo : Nat) (f : Nat → Value) : Laid A A lo (lo + 0) f := ⟨rfl, rfl, rfl, fun i => by rw [if_neg (by omega)]⟩
theorem Laid.step {A Ak : Cell} {lo k : Nat} {f : Nat → Value} {v : Value} (h : Laid A Ak lo k f) (hlo : lo ≤ k) (hk : k < Ak.slots.size) (hv : v = f k) : Laid A (Ak.setSlot k v) lo (k + 1) f := by
  refine ⟨h.1, h.2.1, by simpa [Cell.setSlot] using h.2.2.1, fun i => ?_⟩
  by_cases e : k = i
  · subst e; rw [Cell.slots_setSlot_self v hk, if_pos (by omega), hv]
  · rw [Cell.slots_setSlot_ne v e, h.2.2.2 i]
    by_cases q : lo ≤ i ∧ i < k
    · rw [if_pos q, if_pos (by omega)]
    · rw [if_neg q, if_neg (by omega)]
def U16 : String := "java/lang/StringUTF16"
namespace Cmp5
def yN : MethodName := ⟨"java/lang/StringUTF16", "compress", "([CI[BII)I"⟩
abbrev yB : ByteArray := jdk_52_method_21_code
theorem d0 : decode yB 0 = .ok (.iconst 0, 1) := by decide +kernel
theorem d1 : decode yB 1 = .ok (.istore 5, 2) := by decide +kernel
theorem d3 : decode yB 3 = .ok (.iload 5, 2) := by decide +kernel
theorem d5 : decode yB 5 = .ok (.iload 4, 2) := by decide +kernel
theorem d7 : decode yB 7 = .ok (.if_icmp (.ge) 37, 3) := by decide +kernel
theorem d10 : decode yB 10 = .ok (.aload_n 0, 1) := by decide +kernel
theorem d11 : decode yB 11 = .ok (.iload_n 1, 1) := by decide +kernel
theorem d12 : decode yB 12 = .ok (.caload, 1) := by decide +kernel
theorem d13 : decode yB 13 = .ok (.istore 6, 2) := by decide +kernel
theorem d15 : decode yB 15 = .ok (.iload 6, 2) := by decide +kernel
theorem d17 : decode yB 17 = .ok (.sipush 255, 3) := by decide +kernel
theorem d20 : decode yB 20 = .ok (.if_icmp (.le) 6, 3) := by decide +kernel
theorem d26 : decode yB 26 = .ok (.aload_n 2, 1) := by decide +kernel
theorem d27 : decode yB 27 = .ok (.iload_n 3, 1) := by decide +kernel
theorem d28 : decode yB 28 = .ok (.iload 6, 2) := by decide +kernel
theorem d30 : decode yB 30 = .ok (.i2b, 1) := by decide +kernel
theorem d31 : decode yB 31 = .ok (.bastore, 1) := by decide +kernel
theorem d32 : decode yB 32 = .ok (.iinc 1 1, 3) := by decide +kernel
theorem d35 : decode yB 35 = .ok (.iinc 3 1, 3) := by decide +kernel
theorem d38 : decode yB 38 = .ok (.iinc 5 1, 3) := by decide +kernel
theorem d41 : decode yB 41 = .ok (.goto (-38), 3) := by decide +kernel
theorem d44 : decode yB 44 = .ok (.iload 4, 2) := by decide +kernel
theorem d46 : decode yB 46 = .ok (.ireturn, 1) := by decide +kernel
def site : List Cond := []
def tab : Cond := tabOf yN yB 7 (some .int) site
def P (b : Addr) (A : Cell) (d : Addr) (B : Cell) (o q len : Nat) (args : Array Value) (s : State) : Prop := args = #[.ref b, .int (Int32.ofNat o), .ref d, .int (Int32.ofNat q), .int (Int32.ofNat len)] ∧ Ch b A s ∧ Arr .byte d B s ∧ b ≠ d ∧ o + len ≤ A.slots.size ∧ q + len ≤ B.slots.size ∧ ∀ i, i < len → ¬ 255 < cv A (o + i)
def E (b : Addr) (A : Cell) (d : Addr) (B : Cell) (o q len : Nat) (r : Option Value) (s u : State) : Prop := r = some (.int (Int32.ofNat len)) ∧ ∃ B', Put d B' s u ∧ Laid B B' q (q + len) (fun j => Value.int (lo8 (cv A (o + (j - q)))))
/-- no char of the range above 255: len; the places written hold each char's low byte -/
theorem law (l : Launch) (b : Addr) (A : Cell) (d : Addr) (B : Cell) (o q len : Nat) : Law l yN 5 5 0 0 yB 7 (some .int) site (P b A d B o q len) (E b A d B o q len) (copyLocs d q len) 0 0 := by
  refine Law.of_walk (plainFor_of_name (by decide +kernel)) (by decide +kernel) (by decide +kernel) (by decide) (fun _ _ h => by rw [h.1]; rfl) (fun _ U U' hal hh h => ⟨h.1, h.2.1.mv hal hh, h.2.2.1.mv hal hh, h.2.2.2⟩) (fun r U U' V V' h1 hal h2 h => ⟨h.1, h.2.elim fun B' q => ⟨B', q.1.mv h1 h2, q.2⟩⟩) ?_
  intro p e s m args below meth c s₁ X0 hexec hbytes hml hret hlk hnm hown hh0 W hP
  obtain ⟨rfl, hA, hB, hne, l1, l2, hp⟩ := hP
  have c1 : Steps p.tables e below (s₁.setTop (entryFrame m #[.ref b, .int (Int32.ofNat o), .ref d, .int (Int32.ofNat q), .int (Int32.ofNat len)] 7)) (s₁.setTop (mkF m 0 #[.val (.ref b), .val (.int (Int32.ofNat o)), .val (.ref d), .val (.int (Int32.ofNat q)), .val (.int (Int32.ofNat len)), .unset, .unset] [])) := entry rfl
  have hA0 := hA.1.mv X0.warmed.alike hh0
  have hB0 := hB.mv X0.warmed.alike hh0
  have a31 := hA.1.2.2.2
  have c2 : Steps p.tables e below (s₁.setTop (entryFrame m #[.ref b, .int (Int32.ofNat o), .ref d, .int (Int32.ofNat q), .int (Int32.ofNat len)] 7)) (s₁.setTop (mkF m 3 #[.val (.ref b), .val (.int (Int32.ofNat o)), .val (.ref d), .val (.int (Int32.ofNat q)), .val (.int (Int32.ofNat len)), .val (.int 0), .unset] [])) := c1.trans (by
    refine iconstV X0.here hexec rfl 0 (hb hbytes d0) (by decide) ?_
    refine XS.istore X0.here hexec rfl (hb hbytes d1) rfl rfl ?_
    exact Steps.refl _)
  have loop : ∀ (r i : Nat), i + r = len → ∀ (z : Slot), (z = .unset ∨ ∃ w, z = .val w ∧ w.category = 1) → ∀ (Tl : State) (Bk : Cell), Stand p l e { frames := 0, locals := 0, cells := 0, slots := 0 } s m #[.ref b, .int (Int32.ofNat o), .ref d, .int (Int32.ofNat q), .int (Int32.ofNat len)] below meth c Tl ([] ++ copyLocs d q i) 0 0 → Put d Bk s₁ Tl → Laid B Bk q (q + i) (fun j => Value.int (lo8 (cv A (o + (j - q))))) →
      Steps p.tables e below (s₁.setTop (entryFrame m #[.ref b, .int (Int32.ofNat o), .ref d, .int (Int32.ofNat q), .int (Int32.ofNat len)] 7)) (Tl.setTop (mkF m 3 #[.val (.ref b), .val (.int (Int32.ofNat (o + i))), .val (.ref d), .val (.int (Int32.ofNat (q + i))), .val (.int (Int32.ofNat len)), .val (.int (Int32.ofNat i)), z] [])) → ∃ (T' : State) (B' : Cell) (z' : Slot), Stand p l e { frames := 0, locals := 0, cells := 0, slots := 0 } s m #[.ref b, .int (Int32.ofNat o), .ref d, .int (Int32.ofNat q), .int (Int32.ofNat len)] below meth c T' ([] ++ copyLocs d q len) 0 0 ∧ Put d B' s₁ T' ∧ Laid B B' q (q + len) (fun j => Value.int (lo8 (cv A (o + (j - q))))) ∧
      Steps p.tables e below (s₁.setTop (entryFrame m #[.ref b, .int (Int32.ofNat o), .ref d, .int (Int32.ofNat q), .int (Int32.ofNat len)] 7)) (T'.setTop (mkF m 3 #[.val (.ref b), .val (.int (Int32.ofNat (o + len))), .val (.ref d), .val (.int (Int32.ofNat (q + len))), .val (.int (Int32.ofNat len)), .val (.int (Int32.ofNat len)), z'] [])) := by
    intro r
    induction r with
    | zero =>
      intro i hi z hz Tl Bk Xl pl fl cl
      have hil : i = len := by omega
      rw [hil] at Xl fl cl
      exact ⟨Tl, Bk, z, Xl, pl, fl, cl⟩
    | succ r ih =>
      intro i hi z hz Tl Bk Xl pl fl cl
      have all := X0.warmed.alike.symm.trans Xl.warmed.alike
      have hAl := hA0.keep all (pl.other hne hA0.1)
      have hBk := hB0.like all pl.1 fl.1 fl.2.1 fl.2.2.1
      have hlt : q + i < Bk.slots.size := by rw [fl.2.2.1]; omega
      have c3 : Steps p.tables e below (s₁.setTop (entryFrame m #[.ref b, .int (Int32.ofNat o), .ref d, .int (Int32.ofNat q), .int (Int32.ofNat len)] 7)) (Tl.setTop (mkF m 12 #[.val (.ref b), .val (.int (Int32.ofNat (o + i))), .val (.ref d), .val (.int (Int32.ofNat (q + i))), .val (.int (Int32.ofNat len)), .val (.int (Int32.ofNat i)), z] [.int (Int32.ofNat (o + i)), .ref b])) := cl.trans (by
        refine XS.iload Xl.here hexec rfl (hb hbytes d3) rfl ?_
        refine XS.iload Xl.here hexec rfl (hb hbytes d5) rfl ?_
        refine XS.icmpNo Xl.here hexec rfl (hb hbytes d7) rfl (ii_ge_f (lt32 (by omega) (by omega))) ?_
        refine XS.aloadN Xl.here hexec rfl (hb hbytes d10) rfl rfl ?_
        refine XS.iloadN Xl.here hexec rfl (hb hbytes d11) rfl ?_
        exact Steps.refl _)
      have c4 : Steps p.tables e below (s₁.setTop (entryFrame m #[.ref b, .int (Int32.ofNat o), .ref d, .int (Int32.ofNat q), .int (Int32.ofNat len)] 7)) (Tl.setTop (mkF m 13 #[.val (.ref b), .val (.int (Int32.ofNat (o + i))), .val (.ref d), .val (.int (Int32.ofNat (q + i))), .val (.int (Int32.ofNat len)), .val (.int (Int32.ofNat i)), z] [.int (cv A (o + i))])) := c3.trans (by
        refine Xl.aget hexec hAl rfl (hA.get (i := o + i) (by omega)) rfl rfl (hb hbytes d12) ?_
        exact Steps.refl _)
      have c5 : Steps p.tables e below (s₁.setTop (entryFrame m #[.ref b, .int (Int32.ofNat o), .ref d, .int (Int32.ofNat q), .int (Int32.ofNat len)] 7)) (Tl.setTop (mkF m 15 #[.val (.ref b), .val (.int (Int32.ofNat (o + i))), .val (.ref d), .val (.int (Int32.ofNat (q + i))), .val (.int (Int32.ofNat len)), .val (.int (Int32.ofNat i)), .val (.int (cv A (o + i)))] [])) := c4.trans (by
        refine XS.istoreS Xl.here hexec rfl (hb hbytes d13) rfl rfl hz ?_
        exact Steps.refl _)
      have c6 : Steps p.tables e below (s₁.setTop (entryFrame m #[.ref b, .int (Int32.ofNat o), .ref d, .int (Int32.ofNat q), .int (Int32.ofNat len)] 7)) (Tl.setTop (mkF m 31 #[.val (.ref b), .val (.int (Int32.ofNat (o + i))), .val (.ref d), .val (.int (Int32.ofNat (q + i))), .val (.int (Int32.ofNat len)), .val (.int (Int32.ofNat i)), .val (.int (cv A (o + i)))] [.int (lo8 (cv A (o + i))), .int (Int32.ofNat (q + i)), .ref d])) := c5.trans (by
        refine XS.iload Xl.here hexec rfl (hb hbytes d15) rfl ?_
        refine sipushV Xl.here hexec rfl 255 (hb hbytes d17) (by decide) ?_
        refine XS.icmpYes Xl.here hexec rfl (pc0 := 20) rfl (hb hbytes d20) rfl (ii_le_t (hp i (by omega))) (by decide) rfl ?_
        refine XS.aloadN Xl.here hexec rfl (hb hbytes d26) rfl rfl ?_
        refine XS.iloadN Xl.here hexec rfl (hb hbytes d27) rfl ?_
        refine XS.iload Xl.here hexec rfl (hb hbytes d28) rfl ?_
        refine i2b Xl.here hexec rfl (hb hbytes d30) rfl ?_
        exact Steps.refl _)
      obtain ⟨T7, X7, p7, st7⟩ := Xl.aput hexec hBk rfl hlt rfl (fits_lo8 (cv A (o + i))) (g := (mkF m 31 #[.val (.ref b), .val (.int (Int32.ofNat (o + i))), .val (.ref d), .val (.int (Int32.ofNat (q + i))), .val (.int (Int32.ofNat len)), .val (.int (Int32.ofNat i)), .val (.int (cv A (o + i)))] [.int (lo8 (cv A (o + i))), .int (Int32.ofNat (q + i)), .ref d])) rfl (rest := []) rfl (hb hbytes d31)
      have c8 : Steps p.tables e below (s₁.setTop (entryFrame m #[.ref b, .int (Int32.ofNat o), .ref d, .int (Int32.ofNat q), .int (Int32.ofNat len)] 7)) (T7.setTop (mkF m 32 #[.val (.ref b), .val (.int (Int32.ofNat (o + i))), .val (.ref d), .val (.int (Int32.ofNat (q + i))), .val (.int (Int32.ofNat len)), .val (.int (Int32.ofNat i)), .val (.int (cv A (o + i)))] [])) := c6.trans (st7 _ (Steps.refl _))
      have c9 : Steps p.tables e below (s₁.setTop (entryFrame m #[.ref b, .int (Int32.ofNat o), .ref d, .int (Int32.ofNat q), .int (Int32.ofNat len)] 7)) (T7.setTop (mkF m 3 #[.val (.ref b), .val (.int (Int32.ofNat (o + i) + 1)), .val (.ref d), .val (.int (Int32.ofNat (q + i) + 1)), .val (.int (Int32.ofNat len)), .val (.int (Int32.ofNat i + 1)), .val (.int (cv A (o + i)))] [])) := c8.trans (by
        refine iincV X7.here hexec rfl 1 (hb hbytes d32) (by decide) rfl rfl ?_
        refine iincV X7.here hexec rfl 1 (hb hbytes d35) (by decide) rfl rfl ?_
        refine iincV X7.here hexec rfl 1 (hb hbytes d38) (by decide) rfl rfl ?_
        refine XS.goto X7.here hexec rfl (pc0 := 41) rfl (hb hbytes d41) (by decide) rfl ?_
        exact Steps.refl _)
      have c10 : Steps p.tables e below (s₁.setTop (entryFrame m #[.ref b, .int (Int32.ofNat o), .ref d, .int (Int32.ofNat q), .int (Int32.ofNat len)] 7)) (T7.setTop (mkF m 3 #[.val (.ref b), .val (.int (Int32.ofNat (o + (i + 1)))), .val (.ref d), .val (.int (Int32.ofNat (q + (i + 1)))), .val (.int (Int32.ofNat len)), .val (.int (Int32.ofNat (i + 1))), .val (.int (cv A (o + i)))] [])) := by
        have := c9
        rw [succ32, succ32, succ32] at this
        exact this
      exact ih (i + 1) (by omega) _ (Or.inr ⟨_, rfl, rfl⟩) T7 _ (by rw [copyLocs_step, ← List.append_assoc]; exact X7) (pl.trans p7) (fl.step (by omega) hlt (by simp)) c10
  obtain ⟨T9, B9, z9, X9, p9, f9, g9⟩ := loop len 0 (by omega) .unset (Or.inl rfl) s₁ B (by simpa [copyLocs] using X0) ⟨hB0.1, fun _ _ => rfl, rfl⟩ (Laid.zero _ _ _) c2
  have c11 : Steps p.tables e below (s₁.setTop (entryFrame m #[.ref b, .int (Int32.ofNat o), .ref d, .int (Int32.ofNat q), .int (Int32.ofNat len)] 7)) (T9.setTop (mkF m 46 #[.val (.ref b), .val (.int (Int32.ofNat (o + len))), .val (.ref d), .val (.int (Int32.ofNat (q + len))), .val (.int (Int32.ofNat len)), .val (.int (Int32.ofNat len)), z9] [.int (Int32.ofNat len)])) := g9.trans (by
    refine XS.iload X9.here hexec rfl (hb hbytes d3) rfl ?_
    refine XS.iload X9.here hexec rfl (hb hbytes d5) rfl ?_
    refine XS.icmpYes X9.here hexec rfl (pc0 := 7) rfl (hb hbytes d7) rfl (ii_ge_t (nlt32 (by omega) (Nat.le_refl _))) (by decide) rfl ?_
    refine XS.iload X9.here hexec rfl (hb hbytes d44) rfl ?_
    exact Steps.refl _)
  exact ⟨T9, some (.int (Int32.ofNat len)), _, _, _, X9, by simp, rfl, rfl, (fun h => by cases h), ⟨rfl, B9, p9.from hh0, f9⟩, fun fs hl => c11.trans (X9.ireturnOut hexec hret rfl (Or.inl rfl) (hb hbytes d46) hl)⟩
end Cmp5
namespace Cmp3
def yN : MethodName := ⟨"java/lang/StringUTF16", "compress", "([CII)[B"⟩
abbrev yB : ByteArray := jdk_52_method_16_code
theorem d0 : decode yB 0 = .ok (.iload_n 2, 1) := by decide +kernel
theorem d1 : decode yB 1 = .ok (.newarray .byte, 2) := by decide +kernel
theorem d3 : decode yB 3 = .ok (.astore_n 3, 1) := by decide +kernel
theorem d4 : decode yB 4 = .ok (.aload_n 0, 1) := by decide +kernel
theorem d5 : decode yB 5 = .ok (.iload_n 1, 1) := by decide +kernel
theorem d6 : decode yB 6 = .ok (.aload_n 3, 1) := by decide +kernel
theorem d7 : decode yB 7 = .ok (.iconst 0, 1) := by decide +kernel
theorem d8 : decode yB 8 = .ok (.iload_n 2, 1) := by decide +kernel
theorem d9 : decode yB 9 = .ok (.invokestatic 115, 3) := by decide +kernel
theorem d12 : decode yB 12 = .ok (.istore 4, 2) := by decide +kernel
theorem d14 : decode yB 14 = .ok (.iload 4, 2) := by decide +kernel
theorem d16 : decode yB 16 = .ok (.iload_n 2, 1) := by decide +kernel
theorem d17 : decode yB 17 = .ok (.if_icmp (.eq) 40, 3) := by decide +kernel
theorem d57 : decode yB 57 = .ok (.aload_n 3, 1) := by decide +kernel
theorem d58 : decode yB 58 = .ok (.areturn, 1) := by decide +kernel
def site : List Cond := [.arrayClass .byte, Cmp5.tab] ++ staticW U16 115 Cmp5.yN
def tab : Cond := tabOf yN yB 6 (some (.array .byte)) site
def P (b : Addr) (A : Cell) (o len : Nat) (args : Array Value) (s : State) : Prop := args = #[.ref b, .int (Int32.ofNat o), .int (Int32.ofNat len)] ∧ Ch b A s ∧ o + len ≤ A.slots.size ∧ len ≤ 536870912 ∧ ∀ i, i < len → ¬ 255 < cv A (o + i)
def E (b : Addr) (A : Cell) (o len : Nat) (r : Option Value) (s u : State) : Prop := NewArr .byte "[B" len (fun j => .int (lo8 (cv A (o + j)))) r s u ∧ u.heap.size = s.heap.size + 1
/-- no char of the range above 255: a new byte[] of their low bytes -/
theorem law (l : Launch) (b : Addr) (A : Cell) (o len : Nat) : Law l yN 3 3 1 18 yB 6 (some (.array .byte)) site (P b A o len) (E b A o len) [] 1 len := by
  refine Law.of_walk (plainFor_of_name (by decide +kernel)) (by decide +kernel) (by decide +kernel) (by decide) (fun _ _ h => by rw [h.1]; rfl) (fun _ U U' hal hh h => ⟨h.1, h.2.1.mv hal hh, h.2.2⟩) (fun r U U' V V' h1 hal h2 h => ⟨NewArr.mv r U U' V V' h1 hal h2 h.1, by rw [h1, h2]; exact h.2⟩) ?_
  intro p e s m args below meth c s₁ X0 hexec hbytes hml hret hlk hnm hown hh0 W hP
  obtain ⟨rfl, hA, l1, l2, hp⟩ := hP
  have a31 := hA.1.2.2.2
  have c1 : Steps p.tables e below (s₁.setTop (entryFrame m #[.ref b, .int (Int32.ofNat o), .int (Int32.ofNat len)] 6)) (s₁.setTop (mkF m 0 #[.val (.ref b), .val (.int (Int32.ofNat o)), .val (.int (Int32.ofNat len)), .unset, .unset, .unset] [])) := entry rfl
  have c2 : Steps p.tables e below (s₁.setTop (entryFrame m #[.ref b, .int (Int32.ofNat o), .int (Int32.ofNat len)] 6)) (s₁.setTop (mkF m 1 #[.val (.ref b), .val (.int (Int32.ofNat o)), .val (.int (Int32.ofNat len)), .unset, .unset, .unset] [.int (Int32.ofNat len)])) := c1.trans (by
    refine XS.iloadN X0.here hexec rfl (hb hbytes d0) rfl ?_
    exact Steps.refl _)
  obtain ⟨T3, B3, X3, ba3, bs3, bv3, bh3, bf3, st3⟩ := X0.anew hexec (atype := .byte) (wk W (.arrayClass .byte)) rfl (by show len * 1 ≤ _; omega) (by omega) (g := (mkF m 1 #[.val (.ref b), .val (.int (Int32.ofNat o)), .val (.int (Int32.ofNat len)), .unset, .unset, .unset] [.int (Int32.ofNat len)])) rfl (hb hbytes d1) (rest := []) rfl (Nat.le_refl _) (by show 0 + len ≤ len; omega)
  rw [hh0] at ba3 st3
  have kp3 : XT.Kept s T3 := (XT.Kept.of_eq hh0).push bh3
  have hA3 := hA.keep X3.warmed.alike (kp3 _ _ hA.1.1)
  have hne : b ≠ s.heap.size := hA.1.ne
  have c4 : Steps p.tables e below (s₁.setTop (entryFrame m #[.ref b, .int (Int32.ofNat o), .int (Int32.ofNat len)] 6)) (T3.setTop (mkF m 3 #[.val (.ref b), .val (.int (Int32.ofNat o)), .val (.int (Int32.ofNat len)), .unset, .unset, .unset] [.ref s.heap.size])) := c2.trans (st3 _ (Steps.refl _))
  have c5 : Steps p.tables e below (s₁.setTop (entryFrame m #[.ref b, .int (Int32.ofNat o), .int (Int32.ofNat len)] 6)) (T3.setTop (mkF m 9 #[.val (.ref b), .val (.int (Int32.ofNat o)), .val (.int (Int32.ofNat len)), .val (.ref s.heap.size), .unset, .unset] [.int (Int32.ofNat len), .int 0, .ref s.heap.size, .int (Int32.ofNat o), .ref b])) := c4.trans (by
    refine XS.astoreN X3.here hexec rfl (hb hbytes d3) rfl rfl rfl ?_
    refine XS.aloadN X3.here hexec rfl (hb hbytes d4) rfl rfl ?_
    refine XS.iloadN X3.here hexec rfl (hb hbytes d5) rfl ?_
    refine XS.aloadN X3.here hexec rfl (hb hbytes d6) rfl rfl ?_
    refine iconstV X3.here hexec rfl 0 (hb hbytes d7) (by decide) ?_
    refine XS.iloadN X3.here hexec rfl (hb hbytes d8) rfl ?_
    exact Steps.refl _)
  obtain ⟨v6, T6, X6, E6, g6⟩ := X3.callS hexec (Cmp5.law l b A s.heap.size B3 o 0 len) hown (wks W (staticW U16 115 Cmp5.yN)) (wk W Cmp5.tab) (W := 0) (Nat.le_of_ble_eq_true rfl) (Nat.le_of_ble_eq_true rfl) (Nat.le_refl _) (by show 0 + len + 0 ≤ len; omega) (g := (mkF m 9 #[.val (.ref b), .val (.int (Int32.ofNat o)), .val (.int (Int32.ofNat len)), .val (.ref s.heap.size), .unset, .unset] [.int (Int32.ofNat len), .int (Int32.ofNat 0), .ref s.heap.size, .int (Int32.ofNat o), .ref b])) rfl (by rw [hml]; rfl) c5 (argsL := [.ref b, .int (Int32.ofNat o), .ref s.heap.size, .int (Int32.ofNat 0), .int (Int32.ofNat len)]) (rest := []) rfl rfl (by show 2 * 0 + 0 ≤ _; decide) (hb hbytes d9) (⟨rfl, hA3, ba3, hne, l1, by rw [bs3]; simp, hp⟩)
  obtain ⟨rfl, B6, p6, f6⟩ := E6
  have c7 : Steps p.tables e below (s₁.setTop (entryFrame m #[.ref b, .int (Int32.ofNat o), .int (Int32.ofNat len)] 6)) (T6.setTop (mkF m 12 #[.val (.ref b), .val (.int (Int32.ofNat o)), .val (.int (Int32.ofNat len)), .val (.ref s.heap.size), .unset, .unset] [.int (Int32.ofNat len)])) := g6
  have c8 : Steps p.tables e below (s₁.setTop (entryFrame m #[.ref b, .int (Int32.ofNat o), .int (Int32.ofNat len)] 6)) (T6.setTop (mkF m 58 #[.val (.ref b), .val (.int (Int32.ofNat o)), .val (.int (Int32.ofNat len)), .val (.ref s.heap.size), .val (.int (Int32.ofNat len)), .unset] [.ref s.heap.size])) := c7.trans (by
    refine XS.istore X6.here hexec rfl (hb hbytes d12) rfl rfl ?_
    refine XS.iload X6.here hexec rfl (hb hbytes d14) rfl ?_
    refine XS.iloadN X6.here hexec rfl (hb hbytes d16) rfl ?_
    refine XS.icmpYes X6.here hexec rfl (pc0 := 17) rfl (hb hbytes d17) rfl (ii_eq_t rfl) (by decide) rfl ?_
    refine XS.aloadN X6.here hexec rfl (hb hbytes d57) rfl rfl ?_
    exact Steps.refl _)
  have X8 := X6.wide (L' := []) (cells' := 1) (slots' := len) (fun x hx hlt => by
    simp only [List.nil_append, copyLocs, List.mem_map, List.mem_range] at hx
    obtain ⟨i, -, rfl⟩ := hx
    exact absurd hlt (Nat.lt_irrefl _)) (Nat.le_refl _) (by omega)
  exact ⟨T6, some (.ref s.heap.size), _, _, _, X8, rfl, rfl, rfl, (fun h => by cases h), ⟨⟨rfl, B6, ba3.like (X3.warmed.alike.symm.trans X6.warmed.alike) p6.1 f6.1 f6.2.1 f6.2.2.1, f6.2.1.trans bv3, by rw [X6.warmed.alike.findClass, f6.1]; exact bf3, by rw [f6.2.2.1, bs3]; simp, fun j hj => by rw [f6.2.2.2 j, if_pos (by omega)]; rfl, kp3.put p6 (Nat.le_refl _)⟩, by rw [p6.2.2, bh3, hh0]; simp⟩, fun fs hl => c8.trans (X8.areturnOut hexec rfl hret rfl (hb hbytes d58) hl)⟩
end Cmp3
namespace CodL
def yN : MethodName := ⟨"java/lang/StringUTF16", "coderFromArrayLen", "([BI)B"⟩
abbrev yB : ByteArray := jdk_52_method_15_code
theorem d0 : decode yB 0 = .ok (.iload_n 1, 1) := by decide +kernel
theorem d1 : decode yB 1 = .ok (.aload_n 0, 1) := by decide +kernel
theorem d2 : decode yB 2 = .ok (.arraylength, 1) := by decide +kernel
theorem d3 : decode yB 3 = .ok (.isub, 1) := by decide +kernel
theorem d4 : decode yB 4 = .ok (.bipush 31, 2) := by decide +kernel
theorem d6 : decode yB 6 = .ok (.iushr, 1) := by decide +kernel
theorem d7 : decode yB 7 = .ok (.i2b, 1) := by decide +kernel
theorem d8 : decode yB 8 = .ok (.ireturn, 1) := by decide +kernel
def site : List Cond := []
def tab : Cond := tabOf yN yB 2 (some .byte) site
def P (d : Addr) (B : Cell) (args : Array Value) (s : State) : Prop := args = #[.ref d, .int (Int32.ofNat B.slots.size)] ∧ Arr .byte d B s
def E (r : Option Value) (s u : State) : Prop := XT.PureE (some (.int 0)) r s u
/-- an array as long as the number of chars: LATIN1 -/
theorem law (l : Launch) (d : Addr) (B : Cell) : Law l yN 2 2 0 0 yB 2 (some .byte) site (P d B) E [] 0 0 := by
  refine Law.of_walk (plainFor_of_name (by decide +kernel)) (by decide +kernel) (by decide +kernel) (by decide) (fun _ _ h => by rw [h.1]; rfl) (fun _ U U' hal hh h => ⟨h.1, h.2.mv hal hh⟩) (fun r U U' V V' h1 hal h2 h => XT.PureE.mv r U U' V V' h1 hal h2 h) ?_
  intro p e s m args below meth c s₁ X0 hexec hbytes hml hret hlk hnm hown hh0 W hP
  obtain ⟨rfl, hB⟩ := hP
  have hB0 := hB.mv X0.warmed.alike hh0
  have c1 : Steps p.tables e below (s₁.setTop (entryFrame m #[.ref d, .int (Int32.ofNat B.slots.size)] 2)) (s₁.setTop (mkF m 0 #[.val (.ref d), .val (.int (Int32.ofNat B.slots.size))] [])) := entry rfl
  have c2 : Steps p.tables e below (s₁.setTop (entryFrame m #[.ref d, .int (Int32.ofNat B.slots.size)] 2)) (s₁.setTop (mkF m 2 #[.val (.ref d), .val (.int (Int32.ofNat B.slots.size))] [.ref d, .int (Int32.ofNat B.slots.size)])) := c1.trans (by
    refine XS.iloadN X0.here hexec rfl (hb hbytes d0) rfl ?_
    refine XS.aloadN X0.here hexec rfl (hb hbytes d1) rfl rfl ?_
    exact Steps.refl _)
  have c3 : Steps p.tables e below (s₁.setTop (entryFrame m #[.ref d, .int (Int32.ofNat B.slots.size)] 2)) (s₁.setTop (mkF m 8 #[.val (.ref d), .val (.int (Int32.ofNat B.slots.size))] [.int (lo8 (ushr (Int32.ofNat B.slots.size - Int32.ofNat B.slots.size) 31))])) := c2.trans (by
    refine X0.alen hexec hB0 rfl rfl (hb hbytes d2) ?_
    refine XS.isub X0.here hexec rfl (hb hbytes d3) rfl ?_
    refine bipushV X0.here hexec rfl 31 (hb hbytes d4) (by decide) ?_
    refine iushr X0.here hexec rfl (hb hbytes d6) rfl ?_
    refine i2b X0.here hexec rfl (hb hbytes d7) rfl ?_
    exact Steps.refl _)
  have e0 : lo8 (ushr (Int32.ofNat B.slots.size - Int32.ofNat B.slots.size) 31) = 0 := by rw [Int32.sub_self]; decide
  rw [e0] at c3
  exact ⟨s₁, some (.int 0), _, _, _, X0, rfl, rfl, rfl, (fun h => by cases h), ⟨rfl, hh0⟩, fun fs hl => c3.trans (X0.ireturnOut hexec hret rfl (Or.inr (Or.inr (Or.inl rfl))) (hb hbytes d8) hl)⟩
end CodL
/-- the String at a is Latin-1 over a new byte[] (the heap's one new cell): the low bytes of the len chars of A from o on; every cell but a is kept -/
def Got (a : Addr) (D : Cell) (fV fC : Field) (A : Cell) (o len : Nat) (r : Option Value) (s u : State) : Prop := r = none ∧ ∃ D' V : Cell, Blank "java/lang/String" a D' u ∧ Same D D' [fV.slot, fC.slot] ∧ D'.slots[fV.slot]? = some (.ref s.heap.size) ∧ D'.slots[fC.slot]? = some (.int 0) ∧ Arr .byte s.heap.size V u ∧ V.vm = .none ∧ u.vm.findClass "[B" = some V.cls ∧ V.slots.size = len ∧ (∀ j, j < len → V.slots[j]? = some (.int (lo8 (cv A (o + j))))) ∧ (∀ (y : Addr) (c : Cell), y ≠ a → s.heap[y]? = some c → u.heap[y]? = some c) ∧ u.heap.size = s.heap.size + 1
theorem Got.mv {a : Addr} {D A : Cell} {fV fC : Field} {o len : Nat} : ∀ r (U U' V V' : State), U'.heap = U.heap → V.vm.Alike V'.vm → V'.heap = V.heap → Got a D fV fC A o len r U V → Got a D fV fC A o len r U' V' :=
  fun r U U' V V' h1 hal h2 ⟨e0, D', X, a1, a2, a3, a4, a5, a6, a7, a8, a9, a10, a11⟩ => ⟨e0, D', X, a1.mv hal h2, a2, by rw [h1]; exact a3, a4, by rw [h1]; exact a5.mv hal h2, a6, by rw [hal.findClass]; exact a7, a8, a9, by rw [h1, h2]; exact a10, by rw [h1, h2]; exact a11⟩
namespace New4
def yN : MethodName := ⟨"java/lang/String", "<init>", "([CIILjava/lang/Void;)V"⟩
abbrev yB : ByteArray := jdk_42_method_149_code
theorem d0 : decode yB 0 = .ok (.aload_n 0, 1) := by decide +kernel
theorem d1 : decode yB 1 = .ok (.invokespecial 1, 3) := by decide +kernel
theorem d4 : decode yB 4 = .ok (.iload_n 3, 1) := by decide +kernel
theorem d5 : decode yB 5 = .ok (.ifCond (.ne) 22, 3) := by decide +kernel
theorem d27 : decode yB 27 = .ok (.getstatic 38, 3) := by decide +kernel
theorem d30 : decode yB 30 = .ok (.ifCond (.eq) 28, 3) := by decide +kernel
theorem d33 : decode yB 33 = .ok (.aload_n 1, 1) := by decide +kernel
theorem d34 : decode yB 34 = .ok (.iload_n 2, 1) := by decide +kernel
theorem d35 : decode yB 35 = .ok (.iload_n 3, 1) := by decide +kernel
theorem d36 : decode yB 36 = .ok (.invokestatic 177, 3) := by decide +kernel
theorem d39 : decode yB 39 = .ok (.astore 5, 2) := by decide +kernel
theorem d41 : decode yB 41 = .ok (.aload_n 0, 1) := by decide +kernel
theorem d42 : decode yB 42 = .ok (.aload 5, 2) := by decide +kernel
theorem d44 : decode yB 44 = .ok (.iload_n 3, 1) := by decide +kernel
theorem d45 : decode yB 45 = .ok (.invokestatic 47, 3) := by decide +kernel
theorem d48 : decode yB 48 = .ok (.putfield 15, 3) := by decide +kernel
theorem d51 : decode yB 51 = .ok (.aload_n 0, 1) := by decide +kernel
theorem d52 : decode yB 52 = .ok (.aload 5, 2) := by decide +kernel
theorem d54 : decode yB 54 = .ok (.putfield 9, 3) := by decide +kernel
theorem d57 : decode yB 57 = .ok (.return_, 1) := by decide +kernel
def site : List Cond := [.fieldLink "java/lang/String" 38 "java/lang/String" "COMPACT_STRINGS" "Z", Cmp3.tab, CodL.tab, .laysFinal "java/lang/String" "java/lang/String" "value" "[B", .fieldLink "java/lang/String" 9 "java/lang/String" "value" "[B", .laysFinal "java/lang/String" "java/lang/String" "coder" "B", .fieldLink "java/lang/String" 15 "java/lang/String" "coder" "B"] ++ objW "java/lang/String" 1 ++ staticW "java/lang/String" 177 Cmp3.yN ++ staticW "java/lang/String" 47 CodL.yN
def tab : Cond := tabOf yN yB 6 none site
def P (a : Addr) (D : Cell) (fV fC : Field) (b : Addr) (A : Cell) (z : Int32) (o len : Nat) (args : Array Value) (s : State) : Prop := args = #[.ref a, .ref b, .int (Int32.ofNat o), .int (Int32.ofNat len), .null] ∧ Blank "java/lang/String" a D s ∧ Found "java/lang/String" "value" "[B" fV s ∧ Found "java/lang/String" "coder" "B" fC s ∧ Ch b A s ∧ StaticIs s "java/lang/String" "COMPACT_STRINGS" "Z" (.int z) ∧ ¬ z = 0 ∧ 0 < len ∧ o + len ≤ A.slots.size ∧ len ≤ 536870912 ∧ ∀ i, i < len → ¬ 255 < cv A (o + i)
def E (a : Addr) (D : Cell) (fV fC : Field) (A : Cell) (o len : Nat) (r : Option Value) (s u : State) : Prop := Got a D fV fC A o len r s u
/-- len > 0, no char of the range above 255: a Latin-1 String of their low bytes -/
theorem law (l : Launch) (a : Addr) (D : Cell) (fV fC : Field) (b : Addr) (A : Cell) (z : Int32) (o len : Nat) : Law l yN 5 4 2 35 yB 6 none site (P a D fV fC b A z o len) (E a D fV fC A o len) [⟨a, fC.slot⟩, ⟨a, fV.slot⟩] 1 len := by
  refine Law.of_walk (plainFor_of_name (by decide +kernel)) (by decide +kernel) (by decide +kernel) (by decide) (fun _ _ h => by rw [h.1]; rfl) (fun _ U U' hal hh h => ⟨h.1, h.2.1.mv hal hh, h.2.2.1.al hal, h.2.2.2.1.al hal, h.2.2.2.2.1.mv hal hh, h.2.2.2.2.2.1.there hal hh, h.2.2.2.2.2.2⟩) (fun r U U' V V' h1 hal h2 h => Got.mv r U U' V V' h1 hal h2 h) ?_
  intro p e s m args below meth c s₁ X0 hexec hbytes hml hret hlk hnm hown hh0 W hP
  obtain ⟨rfl, hB, f1, f2, hA, s1, hz, l0, l1, l2, hp⟩ := hP
  have a31 := hA.1.2.2.2
  have c1 : Steps p.tables e below (s₁.setTop (entryFrame m #[.ref a, .ref b, .int (Int32.ofNat o), .int (Int32.ofNat len), .null] 6)) (s₁.setTop (mkF m 0 #[.val (.ref a), .val (.ref b), .val (.int (Int32.ofNat o)), .val (.int (Int32.ofNat len)), .val .null, .unset] [])) := entry rfl
  have c2 : Steps p.tables e below (s₁.setTop (entryFrame m #[.ref a, .ref b, .int (Int32.ofNat o), .int (Int32.ofNat len), .null] 6)) (s₁.setTop (mkF m 1 #[.val (.ref a), .val (.ref b), .val (.int (Int32.ofNat o)), .val (.int (Int32.ofNat len)), .val .null, .unset] [.ref a])) := c1.trans (by
    refine XS.aloadN X0.here hexec rfl (hb hbytes d0) rfl rfl ?_
    exact Steps.refl _)
  obtain ⟨T3, X3, q3, st3⟩ := X0.oinit hexec hown (wks W (objW "java/lang/String" 1)) (g := (mkF m 1 #[.val (.ref a), .val (.ref b), .val (.int (Int32.ofNat o)), .val (.int (Int32.ofNat len)), .val .null, .unset] [.ref a])) rfl (by rw [hml]; rfl) (rest := []) rfl (hb hbytes d1) (W := 0) (by show 2 * 0 + 0 ≤ _; decide) (Nat.le_of_ble_eq_true rfl) (Nat.le_of_ble_eq_true rfl)
  have hh3 := q3.trans hh0
  have c4 : Steps p.tables e below (s₁.setTop (entryFrame m #[.ref a, .ref b, .int (Int32.ofNat o), .int (Int32.ofNat len), .null] 6)) (T3.setTop (mkF m 27 #[.val (.ref a), .val (.ref b), .val (.int (Int32.ofNat o)), .val (.int (Int32.ofNat len)), .val .null, .unset] [])) := (c2.trans (st3 _ (Steps.refl _))).trans (by
    refine XS.iloadN X3.here hexec rfl (hb hbytes d4) rfl ?_
    refine XS.ifYes X3.here hexec rfl (pc0 := 5) rfl (hb hbytes d5) rfl (i0_ne_t (nz32 (by omega) l0)) (by decide) rfl ?_
    exact Steps.refl _)
  obtain ⟨T5, X5, q5, st5⟩ := X3.sget hexec hown (wk W (.fieldLink "java/lang/String" 38 "java/lang/String" "COMPACT_STRINGS" "Z")) s1 (fun _ _ h => by rw [hh3]; exact h) (g := (mkF m 27 #[.val (.ref a), .val (.ref b), .val (.int (Int32.ofNat o)), .val (.int (Int32.ofNat len)), .val .null, .unset] [])) rfl (hb hbytes d27)
  have hh5 := q5.trans hh3
  have c6 : Steps p.tables e below (s₁.setTop (entryFrame m #[.ref a, .ref b, .int (Int32.ofNat o), .int (Int32.ofNat len), .null] 6)) (T5.setTop (mkF m 30 #[.val (.ref a), .val (.ref b), .val (.int (Int32.ofNat o)), .val (.int (Int32.ofNat len)), .val .null, .unset] [.int z])) := c4.trans (st5 _ (Steps.refl _))
  have c7 : Steps p.tables e below (s₁.setTop (entryFrame m #[.ref a, .ref b, .int (Int32.ofNat o), .int (Int32.ofNat len), .null] 6)) (T5.setTop (mkF m 36 #[.val (.ref a), .val (.ref b), .val (.int (Int32.ofNat o)), .val (.int (Int32.ofNat len)), .val .null, .unset] [.int (Int32.ofNat len), .int (Int32.ofNat o), .ref b])) := c6.trans (by
    refine XS.ifNo X5.here hexec rfl (hb hbytes d30) rfl (i0_eq_f hz) ?_
    refine XS.aloadN X5.here hexec rfl (hb hbytes d33) rfl rfl ?_
    refine XS.iloadN X5.here hexec rfl (hb hbytes d34) rfl ?_
    refine XS.iloadN X5.here hexec rfl (hb hbytes d35) rfl ?_
    exact Steps.refl _)
  obtain ⟨v8, T8, X8, E8, g8⟩ := X5.callS hexec (Cmp3.law l b A o len) hown (wks W (staticW "java/lang/String" 177 Cmp3.yN)) (wk W Cmp3.tab) (W := 0) (Nat.le_of_ble_eq_true rfl) (Nat.le_of_ble_eq_true rfl) (Nat.le_refl _) (by show 0 + len ≤ len; omega) (g := (mkF m 36 #[.val (.ref a), .val (.ref b), .val (.int (Int32.ofNat o)), .val (.int (Int32.ofNat len)), .val .null, .unset] [.int (Int32.ofNat len), .int (Int32.ofNat o), .ref b])) rfl (by rw [hml]; rfl) c7 (argsL := [.ref b, .int (Int32.ofNat o), .int (Int32.ofNat len)]) (rest := []) rfl rfl (by show 2 * 0 + 0 ≤ _; decide) (hb hbytes d36) (⟨rfl, hA.mv X5.warmed.alike hh5, l1, l2, hp⟩)
  obtain ⟨e8, z8⟩ := E8
  obtain ⟨rfl, N, n1, n2, n3, n4, n5, n6⟩ := NewArr.mv _ T5 s _ _ hh5.symm (Vm.Alike.refl _) rfl e8
  rw [hh5] at z8
  have hB1 := hB.keep X8.warmed.alike (n6 _ _ hB.1)
  have hne : s.heap.size ≠ a := (Nat.ne_of_lt (Array.getElem?_eq_some_iff.mp hB.1).1).symm
  have c9 : Steps p.tables e below (s₁.setTop (entryFrame m #[.ref a, .ref b, .int (Int32.ofNat o), .int (Int32.ofNat len), .null] 6)) (T8.setTop (mkF m 39 #[.val (.ref a), .val (.ref b), .val (.int (Int32.ofNat o)), .val (.int (Int32.ofNat len)), .val .null, .unset] [.ref s.heap.size])) := g8
  have c10 : Steps p.tables e below (s₁.setTop (entryFrame m #[.ref a, .ref b, .int (Int32.ofNat o), .int (Int32.ofNat len), .null] 6)) (T8.setTop (mkF m 45 #[.val (.ref a), .val (.ref b), .val (.int (Int32.ofNat o)), .val (.int (Int32.ofNat len)), .val .null, .val (.ref s.heap.size)] [.int (Int32.ofNat N.slots.size), .ref s.heap.size, .ref a])) := by
    have hc : Steps p.tables e below (s₁.setTop (entryFrame m #[.ref a, .ref b, .int (Int32.ofNat o), .int (Int32.ofNat len), .null] 6)) (T8.setTop (mkF m 45 #[.val (.ref a), .val (.ref b), .val (.int (Int32.ofNat o)), .val (.int (Int32.ofNat len)), .val .null, .val (.ref s.heap.size)] [.int (Int32.ofNat len), .ref s.heap.size, .ref a])) := c9.trans (by
      refine XS.astore X8.here hexec rfl (hb hbytes d39) rfl rfl rfl ?_
      refine XS.aloadN X8.here hexec rfl (hb hbytes d41) rfl rfl ?_
      refine XS.aload X8.here hexec rfl (hb hbytes d42) rfl rfl ?_
      refine XS.iloadN X8.here hexec rfl (hb hbytes d44) rfl ?_
      exact Steps.refl _)
    rw [n4]; exact hc
  obtain ⟨v11, T11, X11, E11, g11⟩ := X8.callS hexec (CodL.law l s.heap.size N) hown (wks W (staticW "java/lang/String" 47 CodL.yN)) (wk W CodL.tab) (W := 1) (Nat.le_of_ble_eq_true rfl) (Nat.le_of_ble_eq_true rfl) (Nat.le_refl _) (by show 0 + len + 0 ≤ len; omega) (g := (mkF m 45 #[.val (.ref a), .val (.ref b), .val (.int (Int32.ofNat o)), .val (.int (Int32.ofNat len)), .val .null, .val (.ref s.heap.size)] [.int (Int32.ofNat N.slots.size), .ref s.heap.size, .ref a])) rfl (by rw [hml]; rfl) c10 (argsL := [.ref s.heap.size, .int (Int32.ofNat N.slots.size)]) (rest := [.ref a]) rfl rfl (by show 2 * 0 + (1 + 0) ≤ _; decide) (hb hbytes d45) (⟨rfl, n1⟩)
  obtain ⟨rfl, q11⟩ := E11
  have hB11 := hB1.mv (X8.warmed.alike.symm.trans X11.warmed.alike) q11
  have c12 : Steps p.tables e below (s₁.setTop (entryFrame m #[.ref a, .ref b, .int (Int32.ofNat o), .int (Int32.ofNat len), .null] 6)) (T11.setTop (mkF m 48 #[.val (.ref a), .val (.ref b), .val (.int (Int32.ofNat o)), .val (.int (Int32.ofNat len)), .val .null, .val (.ref s.heap.size)] [.int 0, .ref a])) := g11
  obtain ⟨T13, X13, p13, bl13, sl13, st13⟩ := X11.finit hexec hown (wk W (.fieldLink "java/lang/String" 15 "java/lang/String" "coder" "B")) (Or.inr ⟨_, (wk W (.laysFinal "java/lang/String" "java/lang/String" "coder" "B"))⟩) (Or.inl ⟨rfl, hnm⟩) f2 (Or.inl rfl) hB11 (t := .byte) (by decide +kernel) rfl (g := (mkF m 48 #[.val (.ref a), .val (.ref b), .val (.int (Int32.ofNat o)), .val (.int (Int32.ofNat len)), .val .null, .val (.ref s.heap.size)] [.int 0, .ref a])) rfl (rest := []) rfl (hb hbytes d48)
  have c14 : Steps p.tables e below (s₁.setTop (entryFrame m #[.ref a, .ref b, .int (Int32.ofNat o), .int (Int32.ofNat len), .null] 6)) (T13.setTop (mkF m 54 #[.val (.ref a), .val (.ref b), .val (.int (Int32.ofNat o)), .val (.int (Int32.ofNat len)), .val .null, .val (.ref s.heap.size)] [.ref s.heap.size, .ref a])) := (c12.trans (st13 _ (Steps.refl _))).trans (by
    refine XS.aloadN X13.here hexec rfl (hb hbytes d51) rfl rfl ?_
    refine XS.aload X13.here hexec rfl (hb hbytes d52) rfl rfl ?_
    exact Steps.refl _)
  obtain ⟨T15, X15, p15, bl15, sl15, st15⟩ := X13.finit hexec hown (wk W (.fieldLink "java/lang/String" 9 "java/lang/String" "value" "[B")) (Or.inr ⟨_, (wk W (.laysFinal "java/lang/String" "java/lang/String" "value" "[B"))⟩) (Or.inl ⟨rfl, hnm⟩) f1 (Or.inl rfl) bl13 (t := (.array .byte)) (by decide +kernel) rfl (g := (mkF m 54 #[.val (.ref a), .val (.ref b), .val (.int (Int32.ofNat o)), .val (.int (Int32.ofNat len)), .val .null, .val (.ref s.heap.size)] [.ref s.heap.size, .ref a])) rfl (rest := []) rfl (hb hbytes d54)
  have c16 : Steps p.tables e below (s₁.setTop (entryFrame m #[.ref a, .ref b, .int (Int32.ofNat o), .int (Int32.ofNat len), .null] 6)) (T15.setTop (mkF m 57 #[.val (.ref a), .val (.ref b), .val (.int (Int32.ofNat o)), .val (.int (Int32.ofNat len)), .val .null, .val (.ref s.heap.size)] [])) := c14.trans (st15 _ (Steps.refl _))
  have ap := apart (Or.inr ⟨_, (wk W (.laysFinal "java/lang/String" "java/lang/String" "value" "[B"))⟩) (Or.inr ⟨_, (wk W (.laysFinal "java/lang/String" "java/lang/String" "coder" "B"))⟩) f1 f2 (t₁ := .array .byte) (t₂ := .byte) (by decide +kernel) (by decide +kernel) (by decide)
  have al := X8.warmed.alike.symm.trans X15.warmed.alike
  have n7 : T11.heap[s.heap.size]? = some N := by rw [q11]; exact n1.1
  exact ⟨T15, none, _, _, _, X15, by simp, rfl, by omega, (fun _ => rfl), ⟨rfl, _, N, bl15, ((Same.refl D _).set _ (by simp)).set _ (by simp), sl15, (Cell.slots_setSlot_ne _ ap).trans sl13, n1.keep al (p15.other hne (p13.other hne n7)), n2, by rw [al.findClass]; exact n3, n4, n5, fun y c h1 h2 => p15.other h1 (p13.other h1 (by rw [q11]; exact n6 y c h2)), by rw [p15.2.2, p13.2.2, q11]; exact z8⟩, fun fs hl => c16.trans (X15.returnOut hexec hret (hb hbytes d57) hl)⟩
end New4
namespace New1
def yN : MethodName := ⟨"java/lang/String", "<init>", "([C)V"⟩
abbrev yB : ByteArray := jdk_42_method_3_code
theorem d0 : decode yB 0 = .ok (.aload_n 0, 1) := by decide +kernel
theorem d1 : decode yB 1 = .ok (.aload_n 1, 1) := by decide +kernel
theorem d2 : decode yB 2 = .ok (.iconst 0, 1) := by decide +kernel
theorem d3 : decode yB 3 = .ok (.aload_n 1, 1) := by decide +kernel
theorem d4 : decode yB 4 = .ok (.arraylength, 1) := by decide +kernel
theorem d5 : decode yB 5 = .ok (.aconst_null, 1) := by decide +kernel
theorem d6 : decode yB 6 = .ok (.invokespecial 27, 3) := by decide +kernel
theorem d9 : decode yB 9 = .ok (.return_, 1) := by decide +kernel
def site : List Cond := [New4.tab] ++ initW "java/lang/String" 27 New4.yN
def tab : Cond := tabOf yN yB 2 none site
def P (a : Addr) (D : Cell) (fV fC : Field) (b : Addr) (A : Cell) (z : Int32) (args : Array Value) (s : State) : Prop := args = #[.ref a, .ref b] ∧ Blank "java/lang/String" a D s ∧ Found "java/lang/String" "value" "[B" fV s ∧ Found "java/lang/String" "coder" "B" fC s ∧ Ch b A s ∧ StaticIs s "java/lang/String" "COMPACT_STRINGS" "Z" (.int z) ∧ ¬ z = 0 ∧ 0 < A.slots.size ∧ A.slots.size ≤ 536870912 ∧ ∀ i, i < A.slots.size → ¬ 255 < cv A i
def E (a : Addr) (D : Cell) (fV fC : Field) (A : Cell) (r : Option Value) (s u : State) : Prop := Got a D fV fC A 0 A.slots.size r s u
/-- new String(chars), not empty, no char above 255: a Latin-1 String of their low bytes -/
theorem law (l : Launch) (a : Addr) (D : Cell) (fV fC : Field) (b : Addr) (A : Cell) (z : Int32) : Law l yN 2 1 3 52 yB 2 none site (P a D fV fC b A z) (E a D fV fC A) [⟨a, fC.slot⟩, ⟨a, fV.slot⟩] 1 A.slots.size := by
  refine Law.of_walk (plainFor_of_name (by decide +kernel)) (by decide +kernel) (by decide +kernel) (by decide) (fun _ _ h => by rw [h.1]; rfl) (fun _ U U' hal hh h => ⟨h.1, h.2.1.mv hal hh, h.2.2.1.al hal, h.2.2.2.1.al hal, h.2.2.2.2.1.mv hal hh, h.2.2.2.2.2.1.there hal hh, h.2.2.2.2.2.2⟩) (fun r U U' V V' h1 hal h2 h => Got.mv r U U' V V' h1 hal h2 h) ?_
  intro p e s m args below meth c s₁ X0 hexec hbytes hml hret hlk hnm hown hh0 W hP
  obtain ⟨rfl, hB, f1, f2, hA, s1, hz, l0, l2, hp⟩ := hP
  have c1 : Steps p.tables e below (s₁.setTop (entryFrame m #[.ref a, .ref b] 2)) (s₁.setTop (mkF m 0 #[.val (.ref a), .val (.ref b)] [])) := entry rfl
  have c2 : Steps p.tables e below (s₁.setTop (entryFrame m #[.ref a, .ref b] 2)) (s₁.setTop (mkF m 6 #[.val (.ref a), .val (.ref b)] [.null, .int (Int32.ofNat A.slots.size), .int 0, .ref b, .ref a])) := c1.trans (by
    refine XS.aloadN X0.here hexec rfl (hb hbytes d0) rfl rfl ?_
    refine XS.aloadN X0.here hexec rfl (hb hbytes d1) rfl rfl ?_
    refine iconstV X0.here hexec rfl 0 (hb hbytes d2) (by decide) ?_
    refine XS.aloadN X0.here hexec rfl (hb hbytes d3) rfl rfl ?_
    refine X0.alen hexec (hA.1.mv X0.warmed.alike hh0) rfl rfl (hb hbytes d4) ?_
    refine XS.aconstNull X0.here hexec rfl (hb hbytes d5) ?_
    exact Steps.refl _)
  obtain ⟨v3, T3, X3, E3, g3⟩ := X0.callN hexec (New4.law l a D fV fC b A z 0 A.slots.size) rfl hown (wks W (initW "java/lang/String" 27 New4.yN)) (W New4.tab (by simp only [site, List.mem_cons, List.mem_append, true_or, or_true])) (W := 0) (Nat.le_of_ble_eq_true rfl) (Nat.le_of_ble_eq_true rfl) (Nat.le_refl _) (by show 0 + A.slots.size ≤ A.slots.size; omega) (g := (mkF m 6 #[.val (.ref a), .val (.ref b)] [.null, .int (Int32.ofNat A.slots.size), .int (Int32.ofNat 0), .ref b, .ref a])) rfl (by rw [hml]; rfl) c2 (argsL := [.ref b, .int (Int32.ofNat 0), .int (Int32.ofNat A.slots.size), .null]) (rest := []) rfl rfl (by show 2 * 0 + 0 ≤ _; decide) (hb hbytes d6) (⟨rfl, hB.mv X0.warmed.alike hh0, f1.al X0.warmed.alike, f2.al X0.warmed.alike, hA.mv X0.warmed.alike hh0, s1.there X0.warmed.alike hh0, hz, l0, by omega, l2, fun i hi => by rw [Nat.zero_add]; exact hp i hi⟩)
  have e0 := Got.mv _ s₁ s _ _ hh0.symm (Vm.Alike.refl _) rfl E3
  obtain rfl := e0.1
  have c4 : Steps p.tables e below (s₁.setTop (entryFrame m #[.ref a, .ref b] 2)) (T3.setTop (mkF m 9 #[.val (.ref a), .val (.ref b)] [])) := g3
  exact ⟨T3, none, _, _, _, X3, by simp, rfl, by omega, (fun _ => rfl), e0, fun fs hl => c4.trans (X3.returnOut hexec hret (hb hbytes d9) hl)⟩
theorem pays {l : Launch} {R : Room} {p : Program} {e : Env} {below : List Frame} {s : State} {sargs : Array Value} {len W : Nat} (a : Addr) (D : Cell) (fV fC : Field) (b : Addr) (A : Cell) (z : Int32) (htab : tab.before sargs s = true) (hfr : 4 ≤ R.frames) (hlo : W + 65 ≤ R.locals) :
    Back l R p e below s sargs yN len W (fun A₁ a₁ => A₁.cells + 1 ≤ R.cells ∧ A₁.slots + A.slots.size ≤ R.slots ∧ P a D fV fC b A z a₁ A₁.U) (fun A₁ _ v₁ B₁ => E a D fV fC A v₁ A₁.U B₁.U ∧ B₁.locs = A₁.locs ++ [⟨a, fC.slot⟩, ⟨a, fV.slot⟩] ∧ B₁.cells = A₁.cells + 1 ∧ B₁.slots = A₁.slots + A.slots.size) :=
  (law l a D fV fC b A z).pays htab hfr (by omega)
end New1
end StrChars
namespace StrChars.Road
open Jvm Sem ClassFile Op Lib Jvm.Stand Jvm.Free Jvm.Free.XT
open Jvm.Lib.Cold (StaticIs)
abbrev ST : String := "java/lang/String"
/-- every table word that New1's law asks, flat -/
abbrev words : List Jvm.Cond := [.code New1.yN New1.yB 2 none, .initialized ST, .methodLink ST 27 New4.yN, .instanceMethod New4.yN,
  .code New4.yN New4.yB 6 none, .fieldLink ST 38 ST "COMPACT_STRINGS" "Z", .laysFinal ST ST "value" "[B", .fieldLink ST 9 ST "value" "[B", .laysFinal ST ST "coder" "B", .fieldLink ST 15 ST "coder" "B",
  .methodLink ST 1 Lib.objectInit, .instanceMethod Lib.objectInit, .code Lib.objectInit ⟨#[0xb1]⟩ 1 none, .methodLink ST 177 Cmp3.yN, .static Cmp3.yN, .methodLink ST 47 CodL.yN, .static CodL.yN,
  .code Cmp3.yN Cmp3.yB 6 (some (.array .byte)), .initialized U16, .arrayClass .byte, .methodLink U16 115 Cmp5.yN, .static Cmp5.yN, .code Cmp5.yN Cmp5.yB 7 (some .int), .code CodL.yN CodL.yB 2 (some .byte)]
theorem tab_of {a : Array Value} {s : State} (h : ∀ w ∈ words, w.before a s = true) : New1.tab.before a s = true := by
  have h5 : Cmp5.tab.before a s = true := unparts (wk h (.code Cmp5.yN Cmp5.yB 7 (some .int))) (wks h (.initialized Cmp5.yN.cls :: Cmp5.site))
  have hc : CodL.tab.before a s = true := unparts (wk h (.code CodL.yN CodL.yB 2 (some .byte))) (wks h (.initialized CodL.yN.cls :: CodL.site))
  have q5 : ∀ w ∈ Cmp5.tab :: words, w.before a s = true := fun w hw => (List.mem_cons.mp hw).elim (fun e => e ▸ h5) (h w)
  have h3 : Cmp3.tab.before a s = true := unparts (wk q5 (.code Cmp3.yN Cmp3.yB 6 (some (.array .byte)))) (wks q5 (.initialized Cmp3.yN.cls :: Cmp3.site))
  have q3 : ∀ w ∈ Cmp3.tab :: CodL.tab :: words, w.before a s = true := fun w hw => (List.mem_cons.mp hw).elim (fun e => e ▸ h3) fun hw => (List.mem_cons.mp hw).elim (fun e => e ▸ hc) (h w)
  have h4 : New4.tab.before a s = true := unparts (wk q3 (.code New4.yN New4.yB 6 none)) (wks q3 (.initialized New4.yN.cls :: New4.site))
  have q4 : ∀ w ∈ New4.tab :: words, w.before a s = true := fun w hw => (List.mem_cons.mp hw).elim (fun e => e ▸ h4) (h w)
  exact unparts (wk q4 (.code New1.yN New1.yB 2 none)) (wks q4 (.initialized New1.yN.cls :: New1.site))
/-- the words ride from the start Z to the walk's own state -/
theorem moved {Z s : State} {a0 args : Array Value} (hZ : Z.Warmed39 s.vm) (hw : ∀ d ∈ words, d.before a0 Z = true) : ∀ d ∈ words, d.before args s = true := fun d hd => by
  have q := hw d hd
  have t : ∀ d ∈ words, d = .arrayClass .byte ∨ (d.onTables && d.keepsFace) = true := by decide +kernel
  rcases t d hd with rfl | t
  · exact RoadKit.mvA hZ q
  · exact RoadKit.mv hZ q t
/-- WHAT COMES BACK, over the tables of the start Z: h the heap at the call, h' behind it -/
def Q (Z : State) (x : Addr) (A : Cell) (h : Heap) (v : Option Value) (h' : Heap) (L : List Loc) : Prop := v = none ∧ (∀ y ∈ L, y.base = x) ∧ RoadKit.Keep h h' [x] ∧ h'.size = h.size + 1 ∧ RoadKit.Exa Z h' x ST ∧ RoadKit.Fld Z h' x ST "value" "[B" (.ref h.size) ∧ RoadKit.Fld Z h' x ST "coder" "B" (.int 0) ∧
  (∃ V : Cell, RoadKit.Arr Z h' h.size V .byte ∧ V.vm = .none ∧ Z.vm.findClass "[B" = some V.cls ∧ V.slots.size = A.slots.size ∧ ∀ j, j < A.slots.size → V.slots[j]? = some (.int (lo8 (cv A j)))) ∧
  ∀ (O n d : String) (w : Value), RoadKit.Fld Z h x O n d w → RoadKit.slotOf Z O n d ≠ RoadKit.slotOf Z ST "value" "[B" → RoadKit.slotOf Z O n d ≠ RoadKit.slotOf Z ST "coder" "B" → RoadKit.Fld Z h' x O n d w
/-- **new String(chars) AT A CALL, IN THE ROAD'S FORM**: for specialBack behind newO: x the fresh String, b the char[] with the cell A -/
theorem back {p : Program} {l : Launch} {e : Env} {R : Room} {s : State} {args : Array Value} {below : List Frame} {len W : Nat} {Z : State} {a0 : Array Value} {h : Heap} (hZ : Z.Warmed39 s.vm) (hw : ∀ d ∈ words, d.before a0 Z = true) {kI : Nat} (wi : (Jvm.Cond.instantiable ST kI).before a0 Z = true)
    {x b : Addr} {A : Cell} {z : Int32} {v0 c0 : Value} (E : RoadKit.Exa Z h x ST) (V : RoadKit.Fld Z h x ST "value" "[B" v0) (C : RoadKit.Fld Z h x ST "coder" "B" c0) (K : RoadKit.Arr Z h b A .char) (hty : Typed .char A) (S : RoadKit.Sta Z h ST "COMPACT_STRINGS" "Z" (.int z)) (hz : ¬ z = 0)
    (l0 : 0 < A.slots.size) (l2 : A.slots.size ≤ 536870912) (hp : ∀ i, i < A.slots.size → ¬ 255 < cv A i) (hfr : 4 ≤ R.frames) (hlo : W + 65 ≤ R.locals) :
    Back l R p e below s args New1.yN len W (fun P a => a = #[.ref x, .ref b] ∧ P.U.heap = h ∧ P.cells + 1 ≤ R.cells ∧ P.slots + A.slots.size ≤ R.slots)
      (fun P _ v B => ∃ L, Q Z x A h v B.U.heap L ∧ B.locs = P.locs ++ L ∧ B.cells = P.cells + 1 ∧ B.slots = P.slots + A.slots.size) := by
  intro m meth c P g ig mk a X hg hsize hdg hW hn hp'
  obtain ⟨rfl, rfl, r1, r2⟩ := hp'
  have al : Z.vm.Alike P.U.vm := hZ.alike.trans X.warmed.alike
  obtain ⟨D, cfV, kV, iV, fV, hD, gV, stV, knV, obV, asV, slV⟩ := id V
  obtain ⟨D', cfC, kC, iC, fC, hD', gC, stC, -, -, asC, slC⟩ := id C
  cases hD.symm.trans hD'
  obtain ⟨D2, kD, e1, e2, e3, e4, e5⟩ := id E
  cases hD.symm.trans e1
  obtain ⟨c2, k2, i1, i2, i3, -⟩ := Cond.instantiable_spec wi
  cases e2.symm.trans i1
  cases e3.symm.trans i2
  obtain ⟨kU, u1, u2⟩ := al.2.2 _ _ e3
  have hB : Blank ST x D P.U := ⟨hD, ⟨knV, fun q hq => by rw [hq] at obV; cases obV⟩, by rw [al.findClass]; exact e2, kU, u1, by rw [u2]; exact i3, by rw [u2]; exact e5 i3⟩
  have F1 : Found ST "value" "[B" fV P.U := ⟨SBG.found_only al ⟨cfV, kV, iV, gV⟩, stV⟩
  have F2 : Found ST "coder" "B" fC P.U := ⟨SBG.found_only al ⟨cfC, kC, iC, gC⟩, stC⟩
  have hA : Ch b A P.U := ⟨⟨K.1, State.isArrayOf_alike al K.2.1, K.2.2, by omega⟩, hty⟩
  have hS : StaticIs P.U ST "COMPACT_STRINGS" "Z" (.int z) := by
    obtain ⟨cfS, iS, kS, fS, st, cS, t1, t2, t3, t4, t5, t6, t7⟩ := S
    exact StaticIs.there (s := { Z with heap := P.U.heap }) ⟨cfS, iS, kS, fS, st, cS, t1, t2, t3, t4, t5, (fun q => by rw [q] at t6; cases t6), t7⟩ al rfl
  obtain ⟨v, B, X', ⟨⟨hv, E', V', q1, q2, q3, q4, q5, q6, q7, q8, q9, q10, q11⟩, hl, hc, hs⟩, st⟩ := New1.pays x D fV fC b A z (tab_of (moved hZ hw)) hfr hlo m meth c P g ig mk _ X hg hsize hdg hW hn ⟨r1, r2, rfl, hB, F1, F2, hA, hS, hz, l0, l2, hp⟩
  have al' : Z.vm.Alike B.U.vm := hZ.alike.trans X'.warmed.alike
  have hsz : E'.slots.size = D.slots.size := by
    obtain ⟨-, -, -, kB, w1, w2, w3⟩ := q1
    obtain ⟨kB', y1, y2⟩ := al'.2.2 _ _ e3
    rw [q2.2.1] at w1
    cases w1.symm.trans y1
    rw [w3, e5 i3, y2]
  refine ⟨v, B, X', ⟨_, ⟨hv, ?_, ⟨by omega, fun y cy hy hn' => q10 y cy (by simpa using hn') hy, fun y cy hy => ?_⟩, q11, ⟨E', _, q1.1, by rw [q2.2.1]; exact e2, by rw [q2.2.1]; exact e3, by rw [q2.1]; exact obV, fun _ => by rw [hsz]; exact e5 i3⟩,
    ⟨E', cfV, kV, iV, fV, q1.1, gV, stV, by rw [q2.1]; exact knV, by rw [q2.1]; exact obV, by rw [q2.2.1]; exact asV, q3⟩, ⟨E', cfC, kC, iC, fC, q1.1, gC, stC, by rw [q2.1]; exact knV, by rw [q2.1]; exact obV, by rw [q2.2.1]; exact asC, q4⟩,
    ⟨V', ⟨q5.1, State.isArrayOf_alike al'.symm q5.2.1, q5.2.2.1⟩, q6, by rw [← al'.findClass]; exact q7, q8, fun j hj => by have := q9 j hj; rwa [Nat.zero_add] at this⟩, fun O n d w F n1 n2 => ?_⟩, hl, hc, hs⟩, st⟩
  · intro y hy
    simp only [List.mem_cons, List.not_mem_nil, or_false] at hy
    rcases hy with rfl | rfl <;> rfl
  · by_cases q : y = x
    · subst q
      cases hD.symm.trans hy
      exact ⟨E', q1.1, q2.2.1, q2.1, hsz⟩
    · exact ⟨cy, q10 y cy q hy, rfl, rfl, rfl⟩
  · obtain ⟨D3, cf, k, i, f, g1, g2, g3, g4, g5, g6, g7⟩ := F
    cases hD.symm.trans g1
    simp only [RoadKit.slotOf, g2, gV, gC, Option.map_some, Option.getD_some] at n1 n2
    exact ⟨E', cf, k, i, f, q1.1, g2, g3, by rw [q2.1]; exact g4, by rw [q2.1]; exact g5, by rw [q2.2.1]; exact g6, by rw [q2.2.2 f.slot (by simp [n1, n2])]; exact g7⟩
end StrChars.Road
namespace StrChars.Road
open Jvm Sem ClassFile Op Lib Jvm.Stand Jvm.Free Jvm.Free.XT
/-- WHAT COMES BACK, the byte[] as a list of values -/
def QA (Z : State) (x : Addr) (zn : Int32) (cs : List Int32) (h : Heap) (v : Option Value) (h' : Heap) (L : List Loc) : Prop := v = none ∧ (∀ y ∈ L, y.base = x) ∧ RoadKit.Keep h h' [x] ∧ h'.size = h.size + 1 ∧ RoadKit.Exa Z h' x ST ∧ RoadKit.Fld Z h' x ST "value" "[B" (.ref h.size) ∧ RoadKit.Fld Z h' x ST "coder" "B" (.int 0) ∧
  (∃ kb, Z.vm.findClass "[B" = some kb ∧ RoadKit.Arv Z h' h.size kb .byte zn (cs.map fun c => .int (lo8 c)) (.int 0)) ∧
  ∀ (O n d : String) (w : Value), RoadKit.Fld Z h x O n d w → RoadKit.slotOf Z O n d ≠ RoadKit.slotOf Z ST "value" "[B" → RoadKit.slotOf Z O n d ≠ RoadKit.slotOf Z ST "coder" "B" → RoadKit.Fld Z h' x O n d w
/-- **new String(chars) AT A CALL, THE ARRAYS AS LISTS**: the char[] at b holds cs, not empty, no char above 255 -/
theorem backArv {p : Program} {l : Launch} {e : Env} {R : Room} {s : State} {args : Array Value} {below : List Frame} {len W : Nat} {Z : State} {a0 : Array Value} {h : Heap} (hZ : Z.Warmed39 s.vm) (hw : ∀ d ∈ words, d.before a0 Z = true) {kI : Nat} (wi : (Jvm.Cond.instantiable ST kI).before a0 Z = true)
    {x b : Addr} {k : ClassId} {zn z : Int32} {cs : List Int32} {dv v0 c0 : Value} (E : RoadKit.Exa Z h x ST) (V : RoadKit.Fld Z h x ST "value" "[B" v0) (C : RoadKit.Fld Z h x ST "coder" "B" c0) (K : RoadKit.Arv Z h b k .char zn (cs.map Value.int) dv) (S : RoadKit.Sta Z h ST "COMPACT_STRINGS" "Z" (.int z)) (hz : ¬ z = 0)
    (hlen : zn.toNatClampNeg = cs.length) (h0 : 0 < cs.length) (hbig : cs.length ≤ 536870912) (hall : ∀ c ∈ cs, ¬ 255 < c) (hfr : 4 ≤ R.frames) (hlo : W + 65 ≤ R.locals) :
    Back l R p e below s args New1.yN len W (fun P a => a = #[.ref x, .ref b] ∧ P.U.heap = h ∧ P.cells + 1 ≤ R.cells ∧ P.slots + cs.length ≤ R.slots)
      (fun P _ v B => ∃ L, QA Z x zn cs h v B.U.heap L ∧ B.locs = P.locs ++ L ∧ B.cells = P.cells + 1 ∧ B.slots = P.slots + cs.length) := by
  obtain ⟨A, K1, K2, K3, K4, K5, K6⟩ := K
  have e : A.slots.size = cs.length := K3.trans hlen
  have hat : ∀ (i : Nat) (hi : i < cs.length), A.slots[i]? = some (.int cs[i]) := fun i hi => by rw [K5 i (by omega)]; simp [List.getD_eq_getElem?_getD, hi]
  have hcv : ∀ (i : Nat) (hi : i < cs.length), cv A i = cs[i] := fun i hi => by unfold cv; rw [hat i hi]
  have hty : Typed .char A := fun i v hv => by
    have hi : i < A.slots.size := (Array.getElem?_eq_some_iff.mp hv).1
    have q := K5 i hi
    rw [hv] at q
    rw [Option.some.inj q]
    exact K6 i hi
  refine Back.mono (back hZ hw wi E V C K1 hty S hz (by omega) (by omega) (fun i hi => by rw [hcv i (by omega)]; exact hall _ (List.getElem_mem _)) hfr hlo) (fun P a hp => ⟨hp.1, hp.2.1, hp.2.2.1, by rw [e]; exact hp.2.2.2⟩) (fun P a v B hp hq => ?_)
  obtain ⟨L, ⟨q1, q2, q3, q4, q5, q6, q7, ⟨V', v1, v2, v3, v4, v5⟩, q9⟩, hl, hc, hs⟩ := hq
  refine ⟨L, ⟨q1, q2, q3, q4, q5, q6, q7, ⟨V'.cls, v3, V', v1, rfl, by rw [v4, e, hlen], K4, fun i hi => ?_, fun i hi => ?_⟩, q9⟩, hl, hc, by rw [hs, e]⟩
  · have hi' : i < cs.length := by omega
    rw [v5 i (by omega), hcv i hi']; simp [List.getD_eq_getElem?_getD, hi']
  · have hi' : i < cs.length := by omega
    simp only [List.getD_eq_getElem?_getD, List.getElem?_map, List.getElem?_eq_getElem hi', Option.map_some, Option.getD_some]
    exact fits_lo8 _
end StrChars.Road
namespace StrChars.Road
open Jvm Sem ClassFile Op Lib Jvm.Stand Jvm.Free Jvm.Free.XT
/-- WHAT COMES BACK, in the writer's own shape -/
def QV (Z : State) (x : Addr) (N : Int32) (bs : List Int32) (h : Heap) (n0 : Nat) (v : Option Value) (h' : Heap) (L : List Loc) : Prop := v = none ∧ RoadKit.Fr n0 L ∧ RoadKit.Keep h h' [x] ∧ RoadKit.Exa Z h' x ST ∧ RoadKit.Fld Z h' x ST "coder" "B" (.int 0) ∧
  ∃ (t : Addr) (kb : ClassId), n0 ≤ t ∧ h.size ≤ t ∧ ¬ t = x ∧ RoadKit.Fld Z h' x ST "value" "[B" (.ref t) ∧ RoadKit.Arv Z h' t kb .byte N (bs.map Value.int) (.int 0)
/-- **new String(chars) AT A CALL, FOR THE WRITER**: a char[] of n known ints, each 0 to 255 -/
theorem backV {p : Program} {l : Launch} {e : Env} {R : Room} {s : State} {args : Array Value} {below : List Frame} {len W : Nat} {Z : State} {a0 : Array Value} {h : Heap} (hZ : Z.Warmed39 s.vm) (hw : ∀ d ∈ words, d.before a0 Z = true) {kI : Nat} (wi : (Jvm.Cond.instantiable ST kI).before a0 Z = true)
    {x b : Addr} {kC : ClassId} {cs bs : List Int32} {d v0 c0 : Value} {z N : Int32} {n n0 : Nat} (hx0 : n0 ≤ x) (hh0 : n0 ≤ h.size) (E : RoadKit.Exa Z h x ST) (V : RoadKit.Fld Z h x ST "value" "[B" v0) (C : RoadKit.Fld Z h x ST "coder" "B" c0) (K : RoadKit.Arv Z h b kC .char N (cs.map Value.int) d) (S : RoadKit.Sta Z h ST "COMPACT_STRINGS" "Z" (.int z)) (hz : ¬ z = 0)
    (hn : cs.length = n) (hN : N = Int32.ofNat n) (l0 : 0 < n) (l2 : n ≤ 4000) (hp : ∀ c ∈ cs, ¬ c < 0 ∧ ¬ (255 : Int32) < c) (hb : bs = cs.map (fun c => c.toInt8.toInt32)) (hfr : 4 ≤ R.frames) (hlo : W + 65 ≤ R.locals) :
    Back l R p e below s args (⟨"java/lang/String", "<init>", "([C)V"⟩ : MethodName) len W (fun P a => a = #[.ref x, .ref b] ∧ P.U.heap = h ∧ P.cells + 1 ≤ R.cells ∧ P.slots + n ≤ R.slots)
      (fun P _ v B => ∃ L, QV Z x N bs h n0 v B.U.heap L ∧ B.locs = P.locs ++ L ∧ B.cells = P.cells + 1 ∧ B.slots = P.slots + n) := by
  subst hn hN hb
  refine Back.mono (backArv hZ hw wi E V C K S hz (n32 (by omega)) l0 (by omega) (fun c hc => (hp c hc).2) hfr hlo) (fun P a hp => hp) (fun P a v B hp hq => ?_)
  obtain ⟨L, ⟨q1, q2, q3, q4, q5, q6, q7, ⟨kb, v1, v2⟩, q9⟩, hl, hc, hs⟩ := hq
  exact ⟨L, ⟨q1, fun y hy => by rw [q2 y hy]; exact hx0, q3, q5, q7, h.size, kb, hh0, Nat.le_refl _, Nat.ne_of_gt E.lt, q6, by rw [List.map_map]; exact v2⟩, hl, hc, hs⟩
end StrChars.Road
namespace StrChars
open Jvm Sem ClassFile Op Lib Jvm.Stand Jvm.Free.XT Jvm.Free.ALB Jvm.Free.JM Jvm.Free
open Jvm.Lib.Cold (StaticIs)
def hi8 (x : Int32) : Int32 := lo8 (x >>> ((8 : Int32) &&& 31))
end StrChars
namespace StrChars.Road
open Jvm Sem ClassFile Op Lib Jvm.Stand Jvm.Free Jvm.Free.XT
open Jvm.Lib.Cold (StaticIs)
/-- the bytes of the chars cs, low before high -/
def wideBytes : List Int32 → List Value
  | [] => []
  | c :: cs => .int (lo8 c) :: .int (hi8 c) :: wideBytes cs
/-- an array of N2 bytes vs codes the chars cs by the coder cd -/
def CodA (cs : List Int32) (cd N2 : Int32) (vs : List Value) : Prop := (cd = 0 ∧ N2 = Int32.ofNat cs.length ∧ vs = (cs.map fun c => Value.int (lo8 c)) ∧ ∀ c ∈ cs, ¬ 255 < c) ∨ (cd = 1 ∧ N2 = Int32.ofNat (2 * cs.length) ∧ vs = wideBytes cs ∧ ∃ c ∈ cs, 255 < c)
end StrChars.Road
namespace StrChars.Road
open Jvm Sem ClassFile Op Lib Jvm.Stand Jvm.Free Jvm.Free.XT
open Jvm.Lib.Cold (StaticIs)
/-- what backV says of its String, as the contracts of this text ask it: cs's low bytes, coder 0 -/
theorem codOf {cs : List Int32} {n : Nat} (hn : cs.length = n) (hb : ∀ c ∈ cs, ¬ 255 < c) : CodA cs 0 (Int32.ofNat n) ((cs.map lo8).map Value.int) := Or.inl ⟨rfl, by rw [hn], by simp [List.map_map, Function.comp_def], hb⟩
end StrChars.Road
end Jvm.Pilot.@@N@@
namespace Jvm.Pilot.@@N@@
open Jvm Jvm.ClassFile Sem Op Lib Jvm.Free Jvm.Stand Jvm.LawKit Jvm.RoadKit Jvm.OwnKit Bundle Jvm.Pilot.@@N@@.Jvm.D
def EL1 : List (String × Nat) := [("com/example/nodewarden/nodewarden/core/AsidesIsCommentPinLaw", 7)]
abbrev HW (a0 : Array Value) (Z : State) : Prop := ∀ d ∈ tables_1, d.before a0 Z = true
theorem w0 {a0 : Array Value} {Z : State} (hw : HW a0 Z) : (Jvm.Cond.classLink "com/example/nodewarden/nodewarden/core/AsidesIsCommentPinLaw" (25 : Nat) "com/example/nodewarden/nodewarden/core/Asides" : Jvm.Cond).before a0 Z = true := hw _ (List.mem_of_getElem? (i := 0) rfl)
theorem w1 {a0 : Array Value} {Z : State} (hw : HW a0 Z) : (Jvm.Cond.instantiable "com/example/nodewarden/nodewarden/core/Asides" (3 : Nat) : Jvm.Cond).before a0 Z = true := hw _ (List.mem_of_getElem? (i := 1) rfl)
theorem w2 {a0 : Array Value} {Z : State} (hw : HW a0 Z) : (Jvm.Cond.initialized "com/example/nodewarden/nodewarden/core/Asides" : Jvm.Cond).before a0 Z = true := hw _ (List.mem_of_getElem? (i := 2) rfl)
theorem w3 {a0 : Array Value} {Z : State} (hw : HW a0 Z) : (Jvm.Cond.methodLink "com/example/nodewarden/nodewarden/core/AsidesIsCommentPinLaw" (40 : Nat) ({ cls := "com/example/nodewarden/nodewarden/core/Asides", name := "<init>", desc := "()V" } : Jvm.MethodName) : Jvm.Cond).before a0 Z = true := hw _ (List.mem_of_getElem? (i := 3) rfl)
theorem w4 {a0 : Array Value} {Z : State} (hw : HW a0 Z) : (Jvm.Cond.instanceMethod ({ cls := "com/example/nodewarden/nodewarden/core/Asides", name := "<init>", desc := "()V" } : Jvm.MethodName) : Jvm.Cond).before a0 Z = true := hw _ (List.mem_of_getElem? (i := 4) rfl)
theorem w5 {a0 : Array Value} {Z : State} (hw : HW a0 Z) : (Jvm.Cond.code ({ cls := "com/example/nodewarden/nodewarden/core/Asides", name := "<init>", desc := "()V" } : Jvm.MethodName) prog_3_method_1_code (1 : Nat) (Option.none : Option Jvm.ClassFile.FieldType) : Jvm.Cond).before a0 Z = true := hw _ (List.mem_of_getElem? (i := 5) rfl)
theorem w6 {a0 : Array Value} {Z : State} (hw : HW a0 Z) : (Jvm.Cond.methodLink "com/example/nodewarden/nodewarden/core/Asides" (1 : Nat) ({ cls := "java/lang/Object", name := "<init>", desc := "()V" } : Jvm.MethodName) : Jvm.Cond).before a0 Z = true := hw _ (List.mem_of_getElem? (i := 6) rfl)
theorem w7 {a0 : Array Value} {Z : State} (hw : HW a0 Z) : (Jvm.Cond.instanceMethod ({ cls := "java/lang/Object", name := "<init>", desc := "()V" } : Jvm.MethodName) : Jvm.Cond).before a0 Z = true := hw _ (List.mem_of_getElem? (i := 7) rfl)
theorem w8 {a0 : Array Value} {Z : State} (hw : HW a0 Z) : (Jvm.Cond.code ({ cls := "java/lang/Object", name := "<init>", desc := "()V" } : Jvm.MethodName) object_method_1_code (1 : Nat) (Option.none : Option Jvm.ClassFile.FieldType) : Jvm.Cond).before a0 Z = true := hw _ (List.mem_of_getElem? (i := 8) rfl)
theorem w9 {a0 : Array Value} {Z : State} (hw : HW a0 Z) : (Jvm.Cond.classLink "com/example/nodewarden/nodewarden/core/Asides" (7 : Nat) "java/lang/StringBuilder" : Jvm.Cond).before a0 Z = true := hw _ (List.mem_of_getElem? (i := 9) rfl)
theorem w10 {a0 : Array Value} {Z : State} (hw : HW a0 Z) : (Jvm.Cond.instantiable "java/lang/StringBuilder" (4 : Nat) : Jvm.Cond).before a0 Z = true := hw _ (List.mem_of_getElem? (i := 10) rfl)
theorem w11 {a0 : Array Value} {Z : State} (hw : HW a0 Z) : (Jvm.Cond.initialized "java/lang/StringBuilder" : Jvm.Cond).before a0 Z = true := hw _ (List.mem_of_getElem? (i := 11) rfl)
theorem w12 {a0 : Array Value} {Z : State} (hw : HW a0 Z) : (Jvm.Cond.methodLink "com/example/nodewarden/nodewarden/core/Asides" (9 : Nat) ({ cls := "java/lang/StringBuilder", name := "<init>", desc := "()V" } : Jvm.MethodName) : Jvm.Cond).before a0 Z = true := hw _ (List.mem_of_getElem? (i := 12) rfl)
theorem w13 {a0 : Array Value} {Z : State} (hw : HW a0 Z) : (Jvm.Cond.instanceMethod ({ cls := "java/lang/StringBuilder", name := "<init>", desc := "()V" } : Jvm.MethodName) : Jvm.Cond).before a0 Z = true := hw _ (List.mem_of_getElem? (i := 13) rfl)
theorem w14 {a0 : Array Value} {Z : State} (hw : HW a0 Z) : (Jvm.Cond.code ({ cls := "java/lang/StringBuilder", name := "<init>", desc := "()V" } : Jvm.MethodName) jdk_67_method_1_code (1 : Nat) (Option.none : Option Jvm.ClassFile.FieldType) : Jvm.Cond).before a0 Z = true := hw _ (List.mem_of_getElem? (i := 14) rfl)
theorem w15 {a0 : Array Value} {Z : State} (hw : HW a0 Z) : (Jvm.Cond.methodLink "java/lang/StringBuilder" (1 : Nat) ({ cls := "java/lang/AbstractStringBuilder", name := "<init>", desc := "(I)V" } : Jvm.MethodName) : Jvm.Cond).before a0 Z = true := hw _ (List.mem_of_getElem? (i := 15) rfl)
theorem w16 {a0 : Array Value} {Z : State} (hw : HW a0 Z) : (Jvm.Cond.instanceMethod ({ cls := "java/lang/AbstractStringBuilder", name := "<init>", desc := "(I)V" } : Jvm.MethodName) : Jvm.Cond).before a0 Z = true := hw _ (List.mem_of_getElem? (i := 16) rfl)
theorem w19 {a0 : Array Value} {Z : State} (hw : HW a0 Z) : (Jvm.Cond.initialized "java/lang/AbstractStringBuilder" : Jvm.Cond).before a0 Z = true := hw _ (List.mem_of_getElem? (i := 19) rfl)
theorem w20 {a0 : Array Value} {Z : State} (hw : HW a0 Z) : (Jvm.Cond.code ({ cls := "java/lang/AbstractStringBuilder", name := "<init>", desc := "(I)V" } : Jvm.MethodName) jdk_68_method_2_code (2 : Nat) (Option.none : Option Jvm.ClassFile.FieldType) : Jvm.Cond).before a0 Z = true := hw _ (List.mem_of_getElem? (i := 20) rfl)
theorem w21 {a0 : Array Value} {Z : State} (hw : HW a0 Z) : (Jvm.Cond.methodLink "java/lang/AbstractStringBuilder" (3 : Nat) ({ cls := "java/lang/Object", name := "<init>", desc := "()V" } : Jvm.MethodName) : Jvm.Cond).before a0 Z = true := hw _ (List.mem_of_getElem? (i := 21) rfl)
theorem w22 {a0 : Array Value} {Z : State} (hw : HW a0 Z) : (Jvm.Cond.fieldLink "java/lang/AbstractStringBuilder" (18 : Nat) "java/lang/String" "COMPACT_STRINGS" "Z" : Jvm.Cond).before a0 Z = true := hw _ (List.mem_of_getElem? (i := 22) rfl)
theorem w23 {a0 : Array Value} {Z : State} (hw : HW a0 Z) : (Jvm.Cond.initialized "java/lang/String" : Jvm.Cond).before a0 Z = true := hw _ (List.mem_of_getElem? (i := 23) rfl)
theorem w24 {a0 : Array Value} {Z : State} (hw : HW a0 Z) : (Jvm.Cond.arrayClass Jvm.ClassFile.FieldType.byte : Jvm.Cond).before a0 Z = true := hw _ (List.mem_of_getElem? (i := 24) rfl)
theorem w25 {a0 : Array Value} {Z : State} (hw : HW a0 Z) : (Jvm.Cond.fieldLink "java/lang/AbstractStringBuilder" (15 : Nat) "java/lang/AbstractStringBuilder" "value" "[B" : Jvm.Cond).before a0 Z = true := hw _ (List.mem_of_getElem? (i := 25) rfl)
theorem w26 {a0 : Array Value} {Z : State} (hw : HW a0 Z) : (Jvm.Cond.lays "java/lang/StringBuilder" "java/lang/AbstractStringBuilder" "value" "[B" : Jvm.Cond).before a0 Z = true := hw _ (List.mem_of_getElem? (i := 26) rfl)
theorem w27 {a0 : Array Value} {Z : State} (hw : HW a0 Z) : (Jvm.Cond.fieldLink "java/lang/AbstractStringBuilder" (22 : Nat) "java/lang/AbstractStringBuilder" "coder" "B" : Jvm.Cond).before a0 Z = true := hw _ (List.mem_of_getElem? (i := 27) rfl)
theorem w28 {a0 : Array Value} {Z : State} (hw : HW a0 Z) : (Jvm.Cond.lays "java/lang/StringBuilder" "java/lang/AbstractStringBuilder" "coder" "B" : Jvm.Cond).before a0 Z = true := hw _ (List.mem_of_getElem? (i := 28) rfl)
theorem w29 {a0 : Array Value} {Z : State} (hw : HW a0 Z) : (Jvm.Cond.fieldLink "com/example/nodewarden/nodewarden/core/Asides" (10 : Nat) "com/example/nodewarden/nodewarden/core/Asides" "text" "Ljava/lang/StringBuilder;" : Jvm.Cond).before a0 Z = true := hw _ (List.mem_of_getElem? (i := 29) rfl)
theorem w30 {a0 : Array Value} {Z : State} (hw : HW a0 Z) : (Jvm.Cond.laysFinal "com/example/nodewarden/nodewarden/core/Asides" "com/example/nodewarden/nodewarden/core/Asides" "text" "Ljava/lang/StringBuilder;" : Jvm.Cond).before a0 Z = true := hw _ (List.mem_of_getElem? (i := 30) rfl)
theorem w31 {a0 : Array Value} {Z : State} (hw : HW a0 Z) : (Jvm.Cond.arrayClass Jvm.ClassFile.FieldType.int : Jvm.Cond).before a0 Z = true := hw _ (List.mem_of_getElem? (i := 31) rfl)
theorem w32 {a0 : Array Value} {Z : State} (hw : HW a0 Z) : (Jvm.Cond.fieldLink "com/example/nodewarden/nodewarden/core/Asides" (16 : Nat) "com/example/nodewarden/nodewarden/core/Asides" "table" "[I" : Jvm.Cond).before a0 Z = true := hw _ (List.mem_of_getElem? (i := 32) rfl)
theorem w33 {a0 : Array Value} {Z : State} (hw : HW a0 Z) : (Jvm.Cond.lays "com/example/nodewarden/nodewarden/core/Asides" "com/example/nodewarden/nodewarden/core/Asides" "table" "[I" : Jvm.Cond).before a0 Z = true := hw _ (List.mem_of_getElem? (i := 33) rfl)
theorem w34 {a0 : Array Value} {Z : State} (hw : HW a0 Z) : (Jvm.Cond.methodLink "com/example/nodewarden/nodewarden/core/AsidesIsCommentPinLaw" (41 : Nat) ({ cls := "com/example/nodewarden/nodewarden/core/AsidesIsCommentPinLaw", name := "add", desc := "(Lcom/example/nodewarden/nodewarden/core/Asides;ZIIIII)V" } : Jvm.MethodName) : Jvm.Cond).before a0 Z = true := hw _ (List.mem_of_getElem? (i := 34) rfl)
theorem w35 {a0 : Array Value} {Z : State} (hw : HW a0 Z) : (Jvm.Cond.static ({ cls := "com/example/nodewarden/nodewarden/core/AsidesIsCommentPinLaw", name := "add", desc := "(Lcom/example/nodewarden/nodewarden/core/Asides;ZIIIII)V" } : Jvm.MethodName) : Jvm.Cond).before a0 Z = true := hw _ (List.mem_of_getElem? (i := 35) rfl)
theorem w36 {a0 : Array Value} {Z : State} (hw : HW a0 Z) : (Jvm.Cond.initialized "com/example/nodewarden/nodewarden/core/AsidesIsCommentPinLaw" : Jvm.Cond).before a0 Z = true := hw _ (List.mem_of_getElem? (i := 36) rfl)
theorem w37 {a0 : Array Value} {Z : State} (hw : HW a0 Z) : (Jvm.Cond.code ({ cls := "com/example/nodewarden/nodewarden/core/AsidesIsCommentPinLaw", name := "add", desc := "(Lcom/example/nodewarden/nodewarden/core/Asides;ZIIIII)V" } : Jvm.MethodName) method_3_code (10 : Nat) (Option.none : Option Jvm.ClassFile.FieldType) : Jvm.Cond).before a0 Z = true := hw _ (List.mem_of_getElem? (i := 37) rfl)
theorem w38 {a0 : Array Value} {Z : State} (hw : HW a0 Z) : (Jvm.Cond.methodLink "com/example/nodewarden/nodewarden/core/AsidesIsCommentPinLaw" (30 : Nat) ({ cls := "com/example/nodewarden/nodewarden/core/AsidesIsCommentPinLaw", name := "str", desc := "(II)Ljava/lang/String;" } : Jvm.MethodName) : Jvm.Cond).before a0 Z = true := hw _ (List.mem_of_getElem? (i := 38) rfl)
theorem w39 {a0 : Array Value} {Z : State} (hw : HW a0 Z) : (Jvm.Cond.static ({ cls := "com/example/nodewarden/nodewarden/core/AsidesIsCommentPinLaw", name := "str", desc := "(II)Ljava/lang/String;" } : Jvm.MethodName) : Jvm.Cond).before a0 Z = true := hw _ (List.mem_of_getElem? (i := 39) rfl)
theorem w40 {a0 : Array Value} {Z : State} (hw : HW a0 Z) : (Jvm.Cond.code ({ cls := "com/example/nodewarden/nodewarden/core/AsidesIsCommentPinLaw", name := "str", desc := "(II)Ljava/lang/String;" } : Jvm.MethodName) method_2_code (5 : Nat) (Option.some (Jvm.ClassFile.FieldType.object "java/lang/String")) : Jvm.Cond).before a0 Z = true := hw _ (List.mem_of_getElem? (i := 40) rfl)
theorem w41 {a0 : Array Value} {Z : State} (hw : HW a0 Z) : (Jvm.Cond.classLink "com/example/nodewarden/nodewarden/core/AsidesIsCommentPinLaw" (10 : Nat) "java/lang/String" : Jvm.Cond).before a0 Z = true := hw _ (List.mem_of_getElem? (i := 41) rfl)
theorem w42 {a0 : Array Value} {Z : State} (hw : HW a0 Z) : (Jvm.Cond.instantiable "java/lang/String" (4 : Nat) : Jvm.Cond).before a0 Z = true := hw _ (List.mem_of_getElem? (i := 42) rfl)
theorem w43 {a0 : Array Value} {Z : State} (hw : HW a0 Z) : (Jvm.Cond.arrayClass Jvm.ClassFile.FieldType.char : Jvm.Cond).before a0 Z = true := hw _ (List.mem_of_getElem? (i := 43) rfl)
theorem w44 {a0 : Array Value} {Z : State} (hw : HW a0 Z) : (Jvm.Cond.methodLink "com/example/nodewarden/nodewarden/core/AsidesIsCommentPinLaw" (15 : Nat) ({ cls := "java/lang/String", name := "<init>", desc := "([C)V" } : Jvm.MethodName) : Jvm.Cond).before a0 Z = true := hw _ (List.mem_of_getElem? (i := 44) rfl)
theorem w45 {a0 : Array Value} {Z : State} (hw : HW a0 Z) : (Jvm.Cond.instanceMethod ({ cls := "java/lang/String", name := "<init>", desc := "([C)V" } : Jvm.MethodName) : Jvm.Cond).before a0 Z = true := hw _ (List.mem_of_getElem? (i := 45) rfl)
theorem w46 {a0 : Array Value} {Z : State} (hw : HW a0 Z) : (Jvm.Cond.code ({ cls := "java/lang/String", name := "<init>", desc := "([C)V" } : Jvm.MethodName) jdk_42_method_3_code (2 : Nat) (Option.none : Option Jvm.ClassFile.FieldType) : Jvm.Cond).before a0 Z = true := hw _ (List.mem_of_getElem? (i := 46) rfl)
theorem w51 {a0 : Array Value} {Z : State} (hw : HW a0 Z) : (Jvm.Cond.methodLink "java/lang/String" (1 : Nat) ({ cls := "java/lang/Object", name := "<init>", desc := "()V" } : Jvm.MethodName) : Jvm.Cond).before a0 Z = true := hw _ (List.mem_of_getElem? (i := 51) rfl)
theorem w52 {a0 : Array Value} {Z : State} (hw : HW a0 Z) : (Jvm.Cond.fieldLink "java/lang/String" (38 : Nat) "java/lang/String" "COMPACT_STRINGS" "Z" : Jvm.Cond).before a0 Z = true := hw _ (List.mem_of_getElem? (i := 52) rfl)
theorem w63 {a0 : Array Value} {Z : State} (hw : HW a0 Z) : (Jvm.Cond.fieldLink "java/lang/String" (15 : Nat) "java/lang/String" "coder" "B" : Jvm.Cond).before a0 Z = true := hw _ (List.mem_of_getElem? (i := 63) rfl)
theorem w64 {a0 : Array Value} {Z : State} (hw : HW a0 Z) : (Jvm.Cond.laysFinal "java/lang/String" "java/lang/String" "coder" "B" : Jvm.Cond).before a0 Z = true := hw _ (List.mem_of_getElem? (i := 64) rfl)
theorem w65 {a0 : Array Value} {Z : State} (hw : HW a0 Z) : (Jvm.Cond.fieldLink "java/lang/String" (9 : Nat) "java/lang/String" "value" "[B" : Jvm.Cond).before a0 Z = true := hw _ (List.mem_of_getElem? (i := 65) rfl)
theorem w66 {a0 : Array Value} {Z : State} (hw : HW a0 Z) : (Jvm.Cond.laysFinal "java/lang/String" "java/lang/String" "value" "[B" : Jvm.Cond).before a0 Z = true := hw _ (List.mem_of_getElem? (i := 66) rfl)
theorem w67 {a0 : Array Value} {Z : State} (hw : HW a0 Z) : (Jvm.Cond.stringLink "com/example/nodewarden/nodewarden/core/AsidesIsCommentPinLaw" (7 : Nat) "" : Jvm.Cond).before a0 Z = true := hw _ (List.mem_of_getElem? (i := 67) rfl)
theorem w70 {a0 : Array Value} {Z : State} (hw : HW a0 Z) : (Jvm.Cond.methodLink "com/example/nodewarden/nodewarden/core/AsidesIsCommentPinLaw" (36 : Nat) ({ cls := "com/example/nodewarden/nodewarden/core/Asides", name := "addInstruction", desc := "(IIILjava/lang/String;Ljava/lang/String;)V" } : Jvm.MethodName) : Jvm.Cond).before a0 Z = true := hw _ (List.mem_of_getElem? (i := 70) rfl)
theorem w71 {a0 : Array Value} {Z : State} (hw : HW a0 Z) : (Jvm.Cond.declares ({ cls := "com/example/nodewarden/nodewarden/core/Asides", name := "addInstruction", desc := "(IIILjava/lang/String;Ljava/lang/String;)V" } : Jvm.MethodName) : Jvm.Cond).before a0 Z = true := hw _ (List.mem_of_getElem? (i := 71) rfl)
theorem w72 {a0 : Array Value} {Z : State} (hw : HW a0 Z) : (Jvm.Cond.instanceMethod ({ cls := "com/example/nodewarden/nodewarden/core/Asides", name := "addInstruction", desc := "(IIILjava/lang/String;Ljava/lang/String;)V" } : Jvm.MethodName) : Jvm.Cond).before a0 Z = true := hw _ (List.mem_of_getElem? (i := 72) rfl)
theorem w73 {a0 : Array Value} {Z : State} (hw : HW a0 Z) : (Jvm.Cond.selects "com/example/nodewarden/nodewarden/core/Asides" ({ cls := "com/example/nodewarden/nodewarden/core/Asides", name := "addInstruction", desc := "(IIILjava/lang/String;Ljava/lang/String;)V" } : Jvm.MethodName) ({ cls := "com/example/nodewarden/nodewarden/core/Asides", name := "addInstruction", desc := "(IIILjava/lang/String;Ljava/lang/String;)V" } : Jvm.MethodName) : Jvm.Cond).before a0 Z = true := hw _ (List.mem_of_getElem? (i := 73) rfl)
theorem w74 {a0 : Array Value} {Z : State} (hw : HW a0 Z) : (Jvm.Cond.code ({ cls := "com/example/nodewarden/nodewarden/core/Asides", name := "addInstruction", desc := "(IIILjava/lang/String;Ljava/lang/String;)V" } : Jvm.MethodName) prog_3_method_3_code (7 : Nat) (Option.none : Option Jvm.ClassFile.FieldType) : Jvm.Cond).before a0 Z = true := hw _ (List.mem_of_getElem? (i := 74) rfl)
theorem w75 {a0 : Array Value} {Z : State} (hw : HW a0 Z) : (Jvm.Cond.methodLink "com/example/nodewarden/nodewarden/core/Asides" (28 : Nat) ({ cls := "java/lang/StringBuilder", name := "append", desc := "(Ljava/lang/String;)Ljava/lang/StringBuilder;" } : Jvm.MethodName) : Jvm.Cond).before a0 Z = true := hw _ (List.mem_of_getElem? (i := 75) rfl)
theorem w76 {a0 : Array Value} {Z : State} (hw : HW a0 Z) : (Jvm.Cond.declares ({ cls := "java/lang/StringBuilder", name := "append", desc := "(Ljava/lang/String;)Ljava/lang/StringBuilder;" } : Jvm.MethodName) : Jvm.Cond).before a0 Z = true := hw _ (List.mem_of_getElem? (i := 76) rfl)
theorem w77 {a0 : Array Value} {Z : State} (hw : HW a0 Z) : (Jvm.Cond.instanceMethod ({ cls := "java/lang/StringBuilder", name := "append", desc := "(Ljava/lang/String;)Ljava/lang/StringBuilder;" } : Jvm.MethodName) : Jvm.Cond).before a0 Z = true := hw _ (List.mem_of_getElem? (i := 77) rfl)
theorem w78 {a0 : Array Value} {Z : State} (hw : HW a0 Z) : (Jvm.Cond.selects "java/lang/StringBuilder" ({ cls := "java/lang/StringBuilder", name := "append", desc := "(Ljava/lang/String;)Ljava/lang/StringBuilder;" } : Jvm.MethodName) ({ cls := "java/lang/StringBuilder", name := "append", desc := "(Ljava/lang/String;)Ljava/lang/StringBuilder;" } : Jvm.MethodName) : Jvm.Cond).before a0 Z = true := hw _ (List.mem_of_getElem? (i := 78) rfl)
theorem w79 {a0 : Array Value} {Z : State} (hw : HW a0 Z) : (Jvm.Cond.code ({ cls := "java/lang/StringBuilder", name := "append", desc := "(Ljava/lang/String;)Ljava/lang/StringBuilder;" } : Jvm.MethodName) jdk_67_method_7_code (2 : Nat) (Option.some (Jvm.ClassFile.FieldType.object "java/lang/StringBuilder")) : Jvm.Cond).before a0 Z = true := hw _ (List.mem_of_getElem? (i := 79) rfl)
theorem w80 {a0 : Array Value} {Z : State} (hw : HW a0 Z) : (Jvm.Cond.methodLink "java/lang/StringBuilder" (29 : Nat) ({ cls := "java/lang/AbstractStringBuilder", name := "append", desc := "(Ljava/lang/String;)Ljava/lang/AbstractStringBuilder;" } : Jvm.MethodName) : Jvm.Cond).before a0 Z = true := hw _ (List.mem_of_getElem? (i := 80) rfl)
theorem w81 {a0 : Array Value} {Z : State} (hw : HW a0 Z) : (Jvm.Cond.instanceMethod ({ cls := "java/lang/AbstractStringBuilder", name := "append", desc := "(Ljava/lang/String;)Ljava/lang/AbstractStringBuilder;" } : Jvm.MethodName) : Jvm.Cond).before a0 Z = true := hw _ (List.mem_of_getElem? (i := 81) rfl)
theorem w82 {a0 : Array Value} {Z : State} (hw : HW a0 Z) : (Jvm.Cond.superclass "java/lang/StringBuilder" "java/lang/AbstractStringBuilder" : Jvm.Cond).before a0 Z = true := hw _ (List.mem_of_getElem? (i := 82) rfl)
theorem w84 {a0 : Array Value} {Z : State} (hw : HW a0 Z) : (Jvm.Cond.code ({ cls := "java/lang/AbstractStringBuilder", name := "append", desc := "(Ljava/lang/String;)Ljava/lang/AbstractStringBuilder;" } : Jvm.MethodName) jdk_68_method_22_code (3 : Nat) (Option.some (Jvm.ClassFile.FieldType.object "java/lang/AbstractStringBuilder")) : Jvm.Cond).before a0 Z = true := hw _ (List.mem_of_getElem? (i := 84) rfl)
theorem w85 {a0 : Array Value} {Z : State} (hw : HW a0 Z) : (Jvm.Cond.methodLink "java/lang/AbstractStringBuilder" (32 : Nat) ({ cls := "java/lang/String", name := "length", desc := "()I" } : Jvm.MethodName) : Jvm.Cond).before a0 Z = true := hw _ (List.mem_of_getElem? (i := 85) rfl)
theorem w86 {a0 : Array Value} {Z : State} (hw : HW a0 Z) : (Jvm.Cond.declares ({ cls := "java/lang/String", name := "length", desc := "()I" } : Jvm.MethodName) : Jvm.Cond).before a0 Z = true := hw _ (List.mem_of_getElem? (i := 86) rfl)
theorem w87 {a0 : Array Value} {Z : State} (hw : HW a0 Z) : (Jvm.Cond.instanceMethod ({ cls := "java/lang/String", name := "length", desc := "()I" } : Jvm.MethodName) : Jvm.Cond).before a0 Z = true := hw _ (List.mem_of_getElem? (i := 87) rfl)
theorem w88 {a0 : Array Value} {Z : State} (hw : HW a0 Z) : (Jvm.Cond.selects "java/lang/String" ({ cls := "java/lang/String", name := "length", desc := "()I" } : Jvm.MethodName) ({ cls := "java/lang/String", name := "length", desc := "()I" } : Jvm.MethodName) : Jvm.Cond).before a0 Z = true := hw _ (List.mem_of_getElem? (i := 88) rfl)
theorem w89 {a0 : Array Value} {Z : State} (hw : HW a0 Z) : (Jvm.Cond.code ({ cls := "java/lang/String", name := "length", desc := "()I" } : Jvm.MethodName) jdk_42_method_54_code (1 : Nat) (Option.some Jvm.ClassFile.FieldType.int) : Jvm.Cond).before a0 Z = true := hw _ (List.mem_of_getElem? (i := 89) rfl)
theorem w90 {a0 : Array Value} {Z : State} (hw : HW a0 Z) : (Jvm.Cond.methodLink "java/lang/String" (335 : Nat) ({ cls := "java/lang/String", name := "coder", desc := "()B" } : Jvm.MethodName) : Jvm.Cond).before a0 Z = true := hw _ (List.mem_of_getElem? (i := 90) rfl)
theorem w91 {a0 : Array Value} {Z : State} (hw : HW a0 Z) : (Jvm.Cond.declares ({ cls := "java/lang/String", name := "coder", desc := "()B" } : Jvm.MethodName) : Jvm.Cond).before a0 Z = true := hw _ (List.mem_of_getElem? (i := 91) rfl)
theorem w92 {a0 : Array Value} {Z : State} (hw : HW a0 Z) : (Jvm.Cond.instanceMethod ({ cls := "java/lang/String", name := "coder", desc := "()B" } : Jvm.MethodName) : Jvm.Cond).before a0 Z = true := hw _ (List.mem_of_getElem? (i := 92) rfl)
theorem w93 {a0 : Array Value} {Z : State} (hw : HW a0 Z) : (Jvm.Cond.selects "java/lang/String" ({ cls := "java/lang/String", name := "coder", desc := "()B" } : Jvm.MethodName) ({ cls := "java/lang/String", name := "coder", desc := "()B" } : Jvm.MethodName) : Jvm.Cond).before a0 Z = true := hw _ (List.mem_of_getElem? (i := 93) rfl)
theorem w94 {a0 : Array Value} {Z : State} (hw : HW a0 Z) : (Jvm.Cond.code ({ cls := "java/lang/String", name := "coder", desc := "()B" } : Jvm.MethodName) jdk_42_method_152_code (1 : Nat) (Option.some Jvm.ClassFile.FieldType.byte) : Jvm.Cond).before a0 Z = true := hw _ (List.mem_of_getElem? (i := 94) rfl)
theorem w95 {a0 : Array Value} {Z : State} (hw : HW a0 Z) : (Jvm.Cond.fieldLink "java/lang/AbstractStringBuilder" (79 : Nat) "java/lang/AbstractStringBuilder" "count" "I" : Jvm.Cond).before a0 Z = true := hw _ (List.mem_of_getElem? (i := 95) rfl)
theorem w96 {a0 : Array Value} {Z : State} (hw : HW a0 Z) : (Jvm.Cond.lays "java/lang/StringBuilder" "java/lang/AbstractStringBuilder" "count" "I" : Jvm.Cond).before a0 Z = true := hw _ (List.mem_of_getElem? (i := 96) rfl)
theorem w97 {a0 : Array Value} {Z : State} (hw : HW a0 Z) : (Jvm.Cond.methodLink "java/lang/AbstractStringBuilder" (100 : Nat) ({ cls := "java/lang/AbstractStringBuilder", name := "ensureCapacityInternal", desc := "(I)V" } : Jvm.MethodName) : Jvm.Cond).before a0 Z = true := hw _ (List.mem_of_getElem? (i := 97) rfl)
theorem w98 {a0 : Array Value} {Z : State} (hw : HW a0 Z) : (Jvm.Cond.instanceMethod ({ cls := "java/lang/AbstractStringBuilder", name := "ensureCapacityInternal", desc := "(I)V" } : Jvm.MethodName) : Jvm.Cond).before a0 Z = true := hw _ (List.mem_of_getElem? (i := 98) rfl)
theorem w99 {a0 : Array Value} {Z : State} (hw : HW a0 Z) : (Jvm.Cond.privateMethod ({ cls := "java/lang/AbstractStringBuilder", name := "ensureCapacityInternal", desc := "(I)V" } : Jvm.MethodName) : Jvm.Cond).before a0 Z = true := hw _ (List.mem_of_getElem? (i := 99) rfl)
theorem w100 {a0 : Array Value} {Z : State} (hw : HW a0 Z) : (Jvm.Cond.selects "java/lang/StringBuilder" ({ cls := "java/lang/AbstractStringBuilder", name := "ensureCapacityInternal", desc := "(I)V" } : Jvm.MethodName) ({ cls := "java/lang/AbstractStringBuilder", name := "ensureCapacityInternal", desc := "(I)V" } : Jvm.MethodName) : Jvm.Cond).before a0 Z = true := hw _ (List.mem_of_getElem? (i := 100) rfl)
theorem w101 {a0 : Array Value} {Z : State} (hw : HW a0 Z) : (Jvm.Cond.code ({ cls := "java/lang/AbstractStringBuilder", name := "ensureCapacityInternal", desc := "(I)V" } : Jvm.MethodName) jdk_68_method_9_code (3 : Nat) (Option.none : Option Jvm.ClassFile.FieldType) : Jvm.Cond).before a0 Z = true := hw _ (List.mem_of_getElem? (i := 101) rfl)
theorem w102 {a0 : Array Value} {Z : State} (hw : HW a0 Z) : (Jvm.Cond.methodLink "java/lang/AbstractStringBuilder" (208 : Nat) ({ cls := "java/lang/AbstractStringBuilder", name := "putStringAt", desc := "(ILjava/lang/String;)V" } : Jvm.MethodName) : Jvm.Cond).before a0 Z = true := hw _ (List.mem_of_getElem? (i := 102) rfl)
theorem w103 {a0 : Array Value} {Z : State} (hw : HW a0 Z) : (Jvm.Cond.instanceMethod ({ cls := "java/lang/AbstractStringBuilder", name := "putStringAt", desc := "(ILjava/lang/String;)V" } : Jvm.MethodName) : Jvm.Cond).before a0 Z = true := hw _ (List.mem_of_getElem? (i := 103) rfl)
theorem w104 {a0 : Array Value} {Z : State} (hw : HW a0 Z) : (Jvm.Cond.privateMethod ({ cls := "java/lang/AbstractStringBuilder", name := "putStringAt", desc := "(ILjava/lang/String;)V" } : Jvm.MethodName) : Jvm.Cond).before a0 Z = true := hw _ (List.mem_of_getElem? (i := 104) rfl)
theorem w106 {a0 : Array Value} {Z : State} (hw : HW a0 Z) : (Jvm.Cond.code ({ cls := "java/lang/AbstractStringBuilder", name := "putStringAt", desc := "(ILjava/lang/String;)V" } : Jvm.MethodName) jdk_68_method_73_code (3 : Nat) (Option.none : Option Jvm.ClassFile.FieldType) : Jvm.Cond).before a0 Z = true := hw _ (List.mem_of_getElem? (i := 106) rfl)
theorem w107 {a0 : Array Value} {Z : State} (hw : HW a0 Z) : (Jvm.Cond.methodLink "java/lang/AbstractStringBuilder" (397 : Nat) ({ cls := "java/lang/AbstractStringBuilder", name := "inflateIfNeededFor", desc := "(Ljava/lang/String;)V" } : Jvm.MethodName) : Jvm.Cond).before a0 Z = true := hw _ (List.mem_of_getElem? (i := 107) rfl)
theorem w108 {a0 : Array Value} {Z : State} (hw : HW a0 Z) : (Jvm.Cond.instanceMethod ({ cls := "java/lang/AbstractStringBuilder", name := "inflateIfNeededFor", desc := "(Ljava/lang/String;)V" } : Jvm.MethodName) : Jvm.Cond).before a0 Z = true := hw _ (List.mem_of_getElem? (i := 108) rfl)
theorem w109 {a0 : Array Value} {Z : State} (hw : HW a0 Z) : (Jvm.Cond.privateMethod ({ cls := "java/lang/AbstractStringBuilder", name := "inflateIfNeededFor", desc := "(Ljava/lang/String;)V" } : Jvm.MethodName) : Jvm.Cond).before a0 Z = true := hw _ (List.mem_of_getElem? (i := 109) rfl)
theorem w111 {a0 : Array Value} {Z : State} (hw : HW a0 Z) : (Jvm.Cond.code ({ cls := "java/lang/AbstractStringBuilder", name := "inflateIfNeededFor", desc := "(Ljava/lang/String;)V" } : Jvm.MethodName) jdk_68_method_71_code (2 : Nat) (Option.none : Option Jvm.ClassFile.FieldType) : Jvm.Cond).before a0 Z = true := hw _ (List.mem_of_getElem? (i := 111) rfl)
theorem w112 {a0 : Array Value} {Z : State} (hw : HW a0 Z) : (Jvm.Cond.methodLink "java/lang/AbstractStringBuilder" (40 : Nat) ({ cls := "java/lang/String", name := "coder", desc := "()B" } : Jvm.MethodName) : Jvm.Cond).before a0 Z = true := hw _ (List.mem_of_getElem? (i := 112) rfl)
theorem w113 {a0 : Array Value} {Z : State} (hw : HW a0 Z) : (Jvm.Cond.methodLink "java/lang/AbstractStringBuilder" (399 : Nat) ({ cls := "java/lang/String", name := "getBytes", desc := "([BIB)V" } : Jvm.MethodName) : Jvm.Cond).before a0 Z = true := hw _ (List.mem_of_getElem? (i := 113) rfl)
theorem w114 {a0 : Array Value} {Z : State} (hw : HW a0 Z) : (Jvm.Cond.declares ({ cls := "java/lang/String", name := "getBytes", desc := "([BIB)V" } : Jvm.MethodName) : Jvm.Cond).before a0 Z = true := hw _ (List.mem_of_getElem? (i := 114) rfl)
theorem w115 {a0 : Array Value} {Z : State} (hw : HW a0 Z) : (Jvm.Cond.instanceMethod ({ cls := "java/lang/String", name := "getBytes", desc := "([BIB)V" } : Jvm.MethodName) : Jvm.Cond).before a0 Z = true := hw _ (List.mem_of_getElem? (i := 115) rfl)
theorem w116 {a0 : Array Value} {Z : State} (hw : HW a0 Z) : (Jvm.Cond.selects "java/lang/String" ({ cls := "java/lang/String", name := "getBytes", desc := "([BIB)V" } : Jvm.MethodName) ({ cls := "java/lang/String", name := "getBytes", desc := "([BIB)V" } : Jvm.MethodName) : Jvm.Cond).before a0 Z = true := hw _ (List.mem_of_getElem? (i := 116) rfl)
theorem w117 {a0 : Array Value} {Z : State} (hw : HW a0 Z) : (Jvm.Cond.code ({ cls := "java/lang/String", name := "getBytes", desc := "([BIB)V" } : Jvm.MethodName) jdk_42_method_147_code (4 : Nat) (Option.none : Option Jvm.ClassFile.FieldType) : Jvm.Cond).before a0 Z = true := hw _ (List.mem_of_getElem? (i := 117) rfl)
theorem w118 {a0 : Array Value} {Z : State} (hw : HW a0 Z) : (Jvm.Cond.methodLink "java/lang/String" (212 : Nat) ({ cls := "java/lang/System", name := "arraycopy", desc := "(Ljava/lang/Object;ILjava/lang/Object;II)V" } : Jvm.MethodName) : Jvm.Cond).before a0 Z = true := hw _ (List.mem_of_getElem? (i := 118) rfl)
theorem w119 {a0 : Array Value} {Z : State} (hw : HW a0 Z) : (Jvm.Cond.static ({ cls := "java/lang/System", name := "arraycopy", desc := "(Ljava/lang/Object;ILjava/lang/Object;II)V" } : Jvm.MethodName) : Jvm.Cond).before a0 Z = true := hw _ (List.mem_of_getElem? (i := 119) rfl)
theorem w120 {a0 : Array Value} {Z : State} (hw : HW a0 Z) : (Jvm.Cond.initialized "java/lang/System" : Jvm.Cond).before a0 Z = true := hw _ (List.mem_of_getElem? (i := 120) rfl)
theorem w121 {a0 : Array Value} {Z : State} (hw : HW a0 Z) : (Jvm.Cond.native ({ cls := "java/lang/System", name := "arraycopy", desc := "(Ljava/lang/Object;ILjava/lang/Object;II)V" } : Jvm.MethodName) : Jvm.Cond).before a0 Z = true := hw _ (List.mem_of_getElem? (i := 121) rfl)
theorem w122 {a0 : Array Value} {Z : State} (hw : HW a0 Z) : (Jvm.Cond.methodLink "com/example/nodewarden/nodewarden/core/Asides" (31 : Nat) ({ cls := "java/lang/StringBuilder", name := "length", desc := "()I" } : Jvm.MethodName) : Jvm.Cond).before a0 Z = true := hw _ (List.mem_of_getElem? (i := 122) rfl)
theorem w123 {a0 : Array Value} {Z : State} (hw : HW a0 Z) : (Jvm.Cond.declares ({ cls := "java/lang/StringBuilder", name := "length", desc := "()I" } : Jvm.MethodName) : Jvm.Cond).before a0 Z = true := hw _ (List.mem_of_getElem? (i := 123) rfl)
theorem w124 {a0 : Array Value} {Z : State} (hw : HW a0 Z) : (Jvm.Cond.instanceMethod ({ cls := "java/lang/StringBuilder", name := "length", desc := "()I" } : Jvm.MethodName) : Jvm.Cond).before a0 Z = true := hw _ (List.mem_of_getElem? (i := 124) rfl)
theorem w125 {a0 : Array Value} {Z : State} (hw : HW a0 Z) : (Jvm.Cond.selects "java/lang/StringBuilder" ({ cls := "java/lang/StringBuilder", name := "length", desc := "()I" } : Jvm.MethodName) ({ cls := "java/lang/StringBuilder", name := "length", desc := "()I" } : Jvm.MethodName) : Jvm.Cond).before a0 Z = true := hw _ (List.mem_of_getElem? (i := 125) rfl)
theorem w126 {a0 : Array Value} {Z : State} (hw : HW a0 Z) : (Jvm.Cond.code ({ cls := "java/lang/StringBuilder", name := "length", desc := "()I" } : Jvm.MethodName) jdk_67_method_93_code (1 : Nat) (Option.some Jvm.ClassFile.FieldType.int) : Jvm.Cond).before a0 Z = true := hw _ (List.mem_of_getElem? (i := 126) rfl)
theorem w127 {a0 : Array Value} {Z : State} (hw : HW a0 Z) : (Jvm.Cond.methodLink "java/lang/StringBuilder" (343 : Nat) ({ cls := "java/lang/AbstractStringBuilder", name := "length", desc := "()I" } : Jvm.MethodName) : Jvm.Cond).before a0 Z = true := hw _ (List.mem_of_getElem? (i := 127) rfl)
theorem w128 {a0 : Array Value} {Z : State} (hw : HW a0 Z) : (Jvm.Cond.instanceMethod ({ cls := "java/lang/AbstractStringBuilder", name := "length", desc := "()I" } : Jvm.MethodName) : Jvm.Cond).before a0 Z = true := hw _ (List.mem_of_getElem? (i := 128) rfl)
theorem w130 {a0 : Array Value} {Z : State} (hw : HW a0 Z) : (Jvm.Cond.code ({ cls := "java/lang/AbstractStringBuilder", name := "length", desc := "()I" } : Jvm.MethodName) jdk_68_method_6_code (1 : Nat) (Option.some Jvm.ClassFile.FieldType.int) : Jvm.Cond).before a0 Z = true := hw _ (List.mem_of_getElem? (i := 130) rfl)
theorem w131 {a0 : Array Value} {Z : State} (hw : HW a0 Z) : (Jvm.Cond.methodLink "com/example/nodewarden/nodewarden/core/Asides" (24 : Nat) ({ cls := "com/example/nodewarden/nodewarden/core/Asides", name := "add", desc := "(IIII)V" } : Jvm.MethodName) : Jvm.Cond).before a0 Z = true := hw _ (List.mem_of_getElem? (i := 131) rfl)
theorem w132 {a0 : Array Value} {Z : State} (hw : HW a0 Z) : (Jvm.Cond.instanceMethod ({ cls := "com/example/nodewarden/nodewarden/core/Asides", name := "add", desc := "(IIII)V" } : Jvm.MethodName) : Jvm.Cond).before a0 Z = true := hw _ (List.mem_of_getElem? (i := 132) rfl)
theorem w133 {a0 : Array Value} {Z : State} (hw : HW a0 Z) : (Jvm.Cond.privateMethod ({ cls := "com/example/nodewarden/nodewarden/core/Asides", name := "add", desc := "(IIII)V" } : Jvm.MethodName) : Jvm.Cond).before a0 Z = true := hw _ (List.mem_of_getElem? (i := 133) rfl)
theorem w134 {a0 : Array Value} {Z : State} (hw : HW a0 Z) : (Jvm.Cond.code ({ cls := "com/example/nodewarden/nodewarden/core/Asides", name := "add", desc := "(IIII)V" } : Jvm.MethodName) prog_3_method_13_code (6 : Nat) (Option.none : Option Jvm.ClassFile.FieldType) : Jvm.Cond).before a0 Z = true := hw _ (List.mem_of_getElem? (i := 134) rfl)
theorem w135 {a0 : Array Value} {Z : State} (hw : HW a0 Z) : (Jvm.Cond.fieldLink "com/example/nodewarden/nodewarden/core/Asides" (38 : Nat) "com/example/nodewarden/nodewarden/core/Asides" "count" "I" : Jvm.Cond).before a0 Z = true := hw _ (List.mem_of_getElem? (i := 135) rfl)
theorem w136 {a0 : Array Value} {Z : State} (hw : HW a0 Z) : (Jvm.Cond.lays "com/example/nodewarden/nodewarden/core/Asides" "com/example/nodewarden/nodewarden/core/Asides" "count" "I" : Jvm.Cond).before a0 Z = true := hw _ (List.mem_of_getElem? (i := 136) rfl)
theorem w137 {a0 : Array Value} {Z : State} (hw : HW a0 Z) : (Jvm.Cond.methodLink "com/example/nodewarden/nodewarden/core/Asides" (56 : Nat) ({ cls := "java/lang/Math", name := "max", desc := "(II)I" } : Jvm.MethodName) : Jvm.Cond).before a0 Z = true := hw _ (List.mem_of_getElem? (i := 137) rfl)
theorem w138 {a0 : Array Value} {Z : State} (hw : HW a0 Z) : (Jvm.Cond.static ({ cls := "java/lang/Math", name := "max", desc := "(II)I" } : Jvm.MethodName) : Jvm.Cond).before a0 Z = true := hw _ (List.mem_of_getElem? (i := 138) rfl)
theorem w139 {a0 : Array Value} {Z : State} (hw : HW a0 Z) : (Jvm.Cond.initialized "java/lang/Math" : Jvm.Cond).before a0 Z = true := hw _ (List.mem_of_getElem? (i := 139) rfl)
theorem w140 {a0 : Array Value} {Z : State} (hw : HW a0 Z) : (Jvm.Cond.code ({ cls := "java/lang/Math", name := "max", desc := "(II)I" } : Jvm.MethodName) jdk_29_method_65_code (2 : Nat) (Option.some Jvm.ClassFile.FieldType.int) : Jvm.Cond).before a0 Z = true := hw _ (List.mem_of_getElem? (i := 140) rfl)
theorem w141 {a0 : Array Value} {Z : State} (hw : HW a0 Z) : (Jvm.Cond.methodLink "com/example/nodewarden/nodewarden/core/Asides" (42 : Nat) ({ cls := "java/util/Arrays", name := "copyOf", desc := "([II)[I" } : Jvm.MethodName) : Jvm.Cond).before a0 Z = true := hw _ (List.mem_of_getElem? (i := 141) rfl)
theorem w142 {a0 : Array Value} {Z : State} (hw : HW a0 Z) : (Jvm.Cond.static ({ cls := "java/util/Arrays", name := "copyOf", desc := "([II)[I" } : Jvm.MethodName) : Jvm.Cond).before a0 Z = true := hw _ (List.mem_of_getElem? (i := 142) rfl)
theorem w143 {a0 : Array Value} {Z : State} (hw : HW a0 Z) : (Jvm.Cond.initialized "java/util/Arrays" : Jvm.Cond).before a0 Z = true := hw _ (List.mem_of_getElem? (i := 143) rfl)
theorem w144 {a0 : Array Value} {Z : State} (hw : HW a0 Z) : (Jvm.Cond.code ({ cls := "java/util/Arrays", name := "copyOf", desc := "([II)[I" } : Jvm.MethodName) jdk_65_method_123_code (3 : Nat) (Option.some (Jvm.ClassFile.FieldType.array Jvm.ClassFile.FieldType.int)) : Jvm.Cond).before a0 Z = true := hw _ (List.mem_of_getElem? (i := 144) rfl)
theorem w145 {a0 : Array Value} {Z : State} (hw : HW a0 Z) : (Jvm.Cond.methodLink "java/util/Arrays" (304 : Nat) ({ cls := "java/lang/Math", name := "min", desc := "(II)I" } : Jvm.MethodName) : Jvm.Cond).before a0 Z = true := hw _ (List.mem_of_getElem? (i := 145) rfl)
theorem w146 {a0 : Array Value} {Z : State} (hw : HW a0 Z) : (Jvm.Cond.static ({ cls := "java/lang/Math", name := "min", desc := "(II)I" } : Jvm.MethodName) : Jvm.Cond).before a0 Z = true := hw _ (List.mem_of_getElem? (i := 146) rfl)
theorem w147 {a0 : Array Value} {Z : State} (hw : HW a0 Z) : (Jvm.Cond.code ({ cls := "java/lang/Math", name := "min", desc := "(II)I" } : Jvm.MethodName) jdk_29_method_69_code (2 : Nat) (Option.some Jvm.ClassFile.FieldType.int) : Jvm.Cond).before a0 Z = true := hw _ (List.mem_of_getElem? (i := 147) rfl)
theorem w148 {a0 : Array Value} {Z : State} (hw : HW a0 Z) : (Jvm.Cond.methodLink "java/util/Arrays" (150 : Nat) ({ cls := "java/lang/System", name := "arraycopy", desc := "(Ljava/lang/Object;ILjava/lang/Object;II)V" } : Jvm.MethodName) : Jvm.Cond).before a0 Z = true := hw _ (List.mem_of_getElem? (i := 148) rfl)
theorem w149 {a0 : Array Value} {Z : State} (hw : HW a0 Z) : (Jvm.Cond.methodLink "com/example/nodewarden/nodewarden/core/AsidesIsCommentPinLaw" (48 : Nat) ({ cls := "com/example/nodewarden/nodewarden/core/Asides", name := "isComment", desc := "(I)Z" } : Jvm.MethodName) : Jvm.Cond).before a0 Z = true := hw _ (List.mem_of_getElem? (i := 149) rfl)
theorem w150 {a0 : Array Value} {Z : State} (hw : HW a0 Z) : (Jvm.Cond.declares ({ cls := "com/example/nodewarden/nodewarden/core/Asides", name := "isComment", desc := "(I)Z" } : Jvm.MethodName) : Jvm.Cond).before a0 Z = true := hw _ (List.mem_of_getElem? (i := 150) rfl)
theorem w151 {a0 : Array Value} {Z : State} (hw : HW a0 Z) : (Jvm.Cond.instanceMethod ({ cls := "com/example/nodewarden/nodewarden/core/Asides", name := "isComment", desc := "(I)Z" } : Jvm.MethodName) : Jvm.Cond).before a0 Z = true := hw _ (List.mem_of_getElem? (i := 151) rfl)
theorem w152 {a0 : Array Value} {Z : State} (hw : HW a0 Z) : (Jvm.Cond.selects "com/example/nodewarden/nodewarden/core/Asides" ({ cls := "com/example/nodewarden/nodewarden/core/Asides", name := "isComment", desc := "(I)Z" } : Jvm.MethodName) ({ cls := "com/example/nodewarden/nodewarden/core/Asides", name := "isComment", desc := "(I)Z" } : Jvm.MethodName) : Jvm.Cond).before a0 Z = true := hw _ (List.mem_of_getElem? (i := 152) rfl)
theorem w153 {a0 : Array Value} {Z : State} (hw : HW a0 Z) : (Jvm.Cond.code ({ cls := "com/example/nodewarden/nodewarden/core/Asides", name := "isComment", desc := "(I)Z" } : Jvm.MethodName) prog_3_method_8_code (2 : Nat) (Option.some Jvm.ClassFile.FieldType.boolean) : Jvm.Cond).before a0 Z = true := hw _ (List.mem_of_getElem? (i := 153) rfl)
theorem w154 {a0 : Array Value} {Z : State} (hw : HW a0 Z) : (Jvm.Cond.methodLink "com/example/nodewarden/nodewarden/core/AsidesIsCommentPinLaw" (18 : Nat) ({ cls := "java/lang/Math", name := "min", desc := "(II)I" } : Jvm.MethodName) : Jvm.Cond).before a0 Z = true := hw _ (List.mem_of_getElem? (i := 154) rfl)
theorem w155 {a0 : Array Value} {Z : State} (hw : HW a0 Z) : (Jvm.Cond.methodLink "com/example/nodewarden/nodewarden/core/AsidesIsCommentPinLaw" (24 : Nat) ({ cls := "com/example/nodewarden/nodewarden/core/Asides", name := "addComment", desc := "(III[CII)V" } : Jvm.MethodName) : Jvm.Cond).before a0 Z = true := hw _ (List.mem_of_getElem? (i := 155) rfl)
theorem w156 {a0 : Array Value} {Z : State} (hw : HW a0 Z) : (Jvm.Cond.declares ({ cls := "com/example/nodewarden/nodewarden/core/Asides", name := "addComment", desc := "(III[CII)V" } : Jvm.MethodName) : Jvm.Cond).before a0 Z = true := hw _ (List.mem_of_getElem? (i := 156) rfl)
theorem w157 {a0 : Array Value} {Z : State} (hw : HW a0 Z) : (Jvm.Cond.instanceMethod ({ cls := "com/example/nodewarden/nodewarden/core/Asides", name := "addComment", desc := "(III[CII)V" } : Jvm.MethodName) : Jvm.Cond).before a0 Z = true := hw _ (List.mem_of_getElem? (i := 157) rfl)
theorem w158 {a0 : Array Value} {Z : State} (hw : HW a0 Z) : (Jvm.Cond.selects "com/example/nodewarden/nodewarden/core/Asides" ({ cls := "com/example/nodewarden/nodewarden/core/Asides", name := "addComment", desc := "(III[CII)V" } : Jvm.MethodName) ({ cls := "com/example/nodewarden/nodewarden/core/Asides", name := "addComment", desc := "(III[CII)V" } : Jvm.MethodName) : Jvm.Cond).before a0 Z = true := hw _ (List.mem_of_getElem? (i := 158) rfl)
theorem w159 {a0 : Array Value} {Z : State} (hw : HW a0 Z) : (Jvm.Cond.code ({ cls := "com/example/nodewarden/nodewarden/core/Asides", name := "addComment", desc := "(III[CII)V" } : Jvm.MethodName) prog_3_method_2_code (7 : Nat) (Option.none : Option Jvm.ClassFile.FieldType) : Jvm.Cond).before a0 Z = true := hw _ (List.mem_of_getElem? (i := 159) rfl)
theorem w160 {a0 : Array Value} {Z : State} (hw : HW a0 Z) : (Jvm.Cond.methodLink "com/example/nodewarden/nodewarden/core/Asides" (20 : Nat) ({ cls := "java/lang/StringBuilder", name := "append", desc := "([CII)Ljava/lang/StringBuilder;" } : Jvm.MethodName) : Jvm.Cond).before a0 Z = true := hw _ (List.mem_of_getElem? (i := 160) rfl)
theorem w161 {a0 : Array Value} {Z : State} (hw : HW a0 Z) : (Jvm.Cond.declares ({ cls := "java/lang/StringBuilder", name := "append", desc := "([CII)Ljava/lang/StringBuilder;" } : Jvm.MethodName) : Jvm.Cond).before a0 Z = true := hw _ (List.mem_of_getElem? (i := 161) rfl)
theorem w162 {a0 : Array Value} {Z : State} (hw : HW a0 Z) : (Jvm.Cond.instanceMethod ({ cls := "java/lang/StringBuilder", name := "append", desc := "([CII)Ljava/lang/StringBuilder;" } : Jvm.MethodName) : Jvm.Cond).before a0 Z = true := hw _ (List.mem_of_getElem? (i := 162) rfl)
theorem w163 {a0 : Array Value} {Z : State} (hw : HW a0 Z) : (Jvm.Cond.selects "java/lang/StringBuilder" ({ cls := "java/lang/StringBuilder", name := "append", desc := "([CII)Ljava/lang/StringBuilder;" } : Jvm.MethodName) ({ cls := "java/lang/StringBuilder", name := "append", desc := "([CII)Ljava/lang/StringBuilder;" } : Jvm.MethodName) : Jvm.Cond).before a0 Z = true := hw _ (List.mem_of_getElem? (i := 163) rfl)
theorem w164 {a0 : Array Value} {Z : State} (hw : HW a0 Z) : (Jvm.Cond.code ({ cls := "java/lang/StringBuilder", name := "append", desc := "([CII)Ljava/lang/StringBuilder;" } : Jvm.MethodName) jdk_67_method_12_code (4 : Nat) (Option.some (Jvm.ClassFile.FieldType.object "java/lang/StringBuilder")) : Jvm.Cond).before a0 Z = true := hw _ (List.mem_of_getElem? (i := 164) rfl)
theorem w165 {a0 : Array Value} {Z : State} (hw : HW a0 Z) : (Jvm.Cond.methodLink "java/lang/StringBuilder" (44 : Nat) ({ cls := "java/lang/AbstractStringBuilder", name := "append", desc := "([CII)Ljava/lang/AbstractStringBuilder;" } : Jvm.MethodName) : Jvm.Cond).before a0 Z = true := hw _ (List.mem_of_getElem? (i := 165) rfl)
theorem w166 {a0 : Array Value} {Z : State} (hw : HW a0 Z) : (Jvm.Cond.instanceMethod ({ cls := "java/lang/AbstractStringBuilder", name := "append", desc := "([CII)Ljava/lang/AbstractStringBuilder;" } : Jvm.MethodName) : Jvm.Cond).before a0 Z = true := hw _ (List.mem_of_getElem? (i := 166) rfl)
theorem w168 {a0 : Array Value} {Z : State} (hw : HW a0 Z) : (Jvm.Cond.code ({ cls := "java/lang/AbstractStringBuilder", name := "append", desc := "([CII)Ljava/lang/AbstractStringBuilder;" } : Jvm.MethodName) jdk_68_method_29_code (5 : Nat) (Option.some (Jvm.ClassFile.FieldType.object "java/lang/AbstractStringBuilder")) : Jvm.Cond).before a0 Z = true := hw _ (List.mem_of_getElem? (i := 168) rfl)
theorem w169 {a0 : Array Value} {Z : State} (hw : HW a0 Z) : (Jvm.Cond.fieldLink "java/lang/AbstractStringBuilder" (183 : Nat) "jdk/internal/util/Preconditions" "IOOBE_FORMATTER" "Ljava/util/function/BiFunction;" : Jvm.Cond).before a0 Z = true := hw _ (List.mem_of_getElem? (i := 169) rfl)
theorem w170 {a0 : Array Value} {Z : State} (hw : HW a0 Z) : (Jvm.Cond.initialized "jdk/internal/util/Preconditions" : Jvm.Cond).before a0 Z = true := hw _ (List.mem_of_getElem? (i := 170) rfl)
theorem w171 {a0 : Array Value} {Z : State} (hw : HW a0 Z) : (Jvm.Cond.laysStatic "jdk/internal/util/Preconditions" "IOOBE_FORMATTER" "Ljava/util/function/BiFunction;" : Jvm.Cond).before a0 Z = true := hw _ (List.mem_of_getElem? (i := 171) rfl)
theorem w172 {a0 : Array Value} {Z : State} (hw : HW a0 Z) : (Jvm.Cond.methodLink "java/lang/AbstractStringBuilder" (161 : Nat) ({ cls := "jdk/internal/util/Preconditions", name := "checkFromToIndex", desc := "(IIILjava/util/function/BiFunction;)I" } : Jvm.MethodName) : Jvm.Cond).before a0 Z = true := hw _ (List.mem_of_getElem? (i := 172) rfl)
theorem w173 {a0 : Array Value} {Z : State} (hw : HW a0 Z) : (Jvm.Cond.static ({ cls := "jdk/internal/util/Preconditions", name := "checkFromToIndex", desc := "(IIILjava/util/function/BiFunction;)I" } : Jvm.MethodName) : Jvm.Cond).before a0 Z = true := hw _ (List.mem_of_getElem? (i := 173) rfl)
theorem w174 {a0 : Array Value} {Z : State} (hw : HW a0 Z) : (Jvm.Cond.code ({ cls := "jdk/internal/util/Preconditions", name := "checkFromToIndex", desc := "(IIILjava/util/function/BiFunction;)I" } : Jvm.MethodName) jdk_41_method_12_code (4 : Nat) (Option.some Jvm.ClassFile.FieldType.int) : Jvm.Cond).before a0 Z = true := hw _ (List.mem_of_getElem? (i := 174) rfl)
theorem w175 {a0 : Array Value} {Z : State} (hw : HW a0 Z) : (Jvm.Cond.methodLink "java/lang/AbstractStringBuilder" (239 : Nat) ({ cls := "java/lang/AbstractStringBuilder", name := "appendChars", desc := "([CII)V" } : Jvm.MethodName) : Jvm.Cond).before a0 Z = true := hw _ (List.mem_of_getElem? (i := 175) rfl)
theorem w176 {a0 : Array Value} {Z : State} (hw : HW a0 Z) : (Jvm.Cond.instanceMethod ({ cls := "java/lang/AbstractStringBuilder", name := "appendChars", desc := "([CII)V" } : Jvm.MethodName) : Jvm.Cond).before a0 Z = true := hw _ (List.mem_of_getElem? (i := 176) rfl)
theorem w177 {a0 : Array Value} {Z : State} (hw : HW a0 Z) : (Jvm.Cond.privateMethod ({ cls := "java/lang/AbstractStringBuilder", name := "appendChars", desc := "([CII)V" } : Jvm.MethodName) : Jvm.Cond).before a0 Z = true := hw _ (List.mem_of_getElem? (i := 177) rfl)
theorem w179 {a0 : Array Value} {Z : State} (hw : HW a0 Z) : (Jvm.Cond.code ({ cls := "java/lang/AbstractStringBuilder", name := "appendChars", desc := "([CII)V" } : Jvm.MethodName) jdk_68_method_74_code (9 : Nat) (Option.none : Option Jvm.ClassFile.FieldType) : Jvm.Cond).before a0 Z = true := hw _ (List.mem_of_getElem? (i := 179) rfl)
theorem w180 {a0 : Array Value} {Z : State} (hw : HW a0 Z) : (Jvm.Cond.methodLink "java/lang/AbstractStringBuilder" (83 : Nat) ({ cls := "java/lang/AbstractStringBuilder", name := "isLatin1", desc := "()Z" } : Jvm.MethodName) : Jvm.Cond).before a0 Z = true := hw _ (List.mem_of_getElem? (i := 180) rfl)
theorem w181 {a0 : Array Value} {Z : State} (hw : HW a0 Z) : (Jvm.Cond.declares ({ cls := "java/lang/AbstractStringBuilder", name := "isLatin1", desc := "()Z" } : Jvm.MethodName) : Jvm.Cond).before a0 Z = true := hw _ (List.mem_of_getElem? (i := 181) rfl)
theorem w182 {a0 : Array Value} {Z : State} (hw : HW a0 Z) : (Jvm.Cond.instanceMethod ({ cls := "java/lang/AbstractStringBuilder", name := "isLatin1", desc := "()Z" } : Jvm.MethodName) : Jvm.Cond).before a0 Z = true := hw _ (List.mem_of_getElem? (i := 182) rfl)
theorem w183 {a0 : Array Value} {Z : State} (hw : HW a0 Z) : (Jvm.Cond.selects "java/lang/StringBuilder" ({ cls := "java/lang/AbstractStringBuilder", name := "isLatin1", desc := "()Z" } : Jvm.MethodName) ({ cls := "java/lang/AbstractStringBuilder", name := "isLatin1", desc := "()Z" } : Jvm.MethodName) : Jvm.Cond).before a0 Z = true := hw _ (List.mem_of_getElem? (i := 183) rfl)
theorem w184 {a0 : Array Value} {Z : State} (hw : HW a0 Z) : (Jvm.Cond.code ({ cls := "java/lang/AbstractStringBuilder", name := "isLatin1", desc := "()Z" } : Jvm.MethodName) jdk_68_method_68_code (1 : Nat) (Option.some Jvm.ClassFile.FieldType.boolean) : Jvm.Cond).before a0 Z = true := hw _ (List.mem_of_getElem? (i := 184) rfl)
theorem w185 {a0 : Array Value} {Z : State} (hw : HW a0 Z) : (Jvm.Cond.methodLink "java/lang/AbstractStringBuilder" (191 : Nat) ({ cls := "java/lang/StringLatin1", name := "canEncode", desc := "(C)Z" } : Jvm.MethodName) : Jvm.Cond).before a0 Z = true := hw _ (List.mem_of_getElem? (i := 185) rfl)
theorem w186 {a0 : Array Value} {Z : State} (hw : HW a0 Z) : (Jvm.Cond.static ({ cls := "java/lang/StringLatin1", name := "canEncode", desc := "(C)Z" } : Jvm.MethodName) : Jvm.Cond).before a0 Z = true := hw _ (List.mem_of_getElem? (i := 186) rfl)
theorem w187 {a0 : Array Value} {Z : State} (hw : HW a0 Z) : (Jvm.Cond.initialized "java/lang/StringLatin1" : Jvm.Cond).before a0 Z = true := hw _ (List.mem_of_getElem? (i := 187) rfl)
theorem w188 {a0 : Array Value} {Z : State} (hw : HW a0 Z) : (Jvm.Cond.code ({ cls := "java/lang/StringLatin1", name := "canEncode", desc := "(C)Z" } : Jvm.MethodName) jdk_43_method_3_code (1 : Nat) (Option.some Jvm.ClassFile.FieldType.boolean) : Jvm.Cond).before a0 Z = true := hw _ (List.mem_of_getElem? (i := 188) rfl)
theorem w189 {a0 : Array Value} {Z : State} (hw : HW a0 Z) : (Jvm.Cond.methodLink "com/example/nodewarden/nodewarden/core/AsidesIsCommentPinLaw" (45 : Nat) ({ cls := "com/example/nodewarden/nodewarden/core/Asides", name := "close", desc := "()V" } : Jvm.MethodName) : Jvm.Cond).before a0 Z = true := hw _ (List.mem_of_getElem? (i := 189) rfl)
theorem w190 {a0 : Array Value} {Z : State} (hw : HW a0 Z) : (Jvm.Cond.declares ({ cls := "com/example/nodewarden/nodewarden/core/Asides", name := "close", desc := "()V" } : Jvm.MethodName) : Jvm.Cond).before a0 Z = true := hw _ (List.mem_of_getElem? (i := 190) rfl)
theorem w191 {a0 : Array Value} {Z : State} (hw : HW a0 Z) : (Jvm.Cond.instanceMethod ({ cls := "com/example/nodewarden/nodewarden/core/Asides", name := "close", desc := "()V" } : Jvm.MethodName) : Jvm.Cond).before a0 Z = true := hw _ (List.mem_of_getElem? (i := 191) rfl)
theorem w192 {a0 : Array Value} {Z : State} (hw : HW a0 Z) : (Jvm.Cond.selects "com/example/nodewarden/nodewarden/core/Asides" ({ cls := "com/example/nodewarden/nodewarden/core/Asides", name := "close", desc := "()V" } : Jvm.MethodName) ({ cls := "com/example/nodewarden/nodewarden/core/Asides", name := "close", desc := "()V" } : Jvm.MethodName) : Jvm.Cond).before a0 Z = true := hw _ (List.mem_of_getElem? (i := 192) rfl)
theorem w193 {a0 : Array Value} {Z : State} (hw : HW a0 Z) : (Jvm.Cond.code ({ cls := "com/example/nodewarden/nodewarden/core/Asides", name := "close", desc := "()V" } : Jvm.MethodName) prog_3_method_4_code (1 : Nat) (Option.none : Option Jvm.ClassFile.FieldType) : Jvm.Cond).before a0 Z = true := hw _ (List.mem_of_getElem? (i := 193) rfl)
theorem w194 {a0 : Array Value} {Z : State} (hw : HW a0 Z) : (Jvm.Cond.methodLink "com/example/nodewarden/nodewarden/core/Asides" (35 : Nat) ({ cls := "java/lang/StringBuilder", name := "trimToSize", desc := "()V" } : Jvm.MethodName) : Jvm.Cond).before a0 Z = true := hw _ (List.mem_of_getElem? (i := 194) rfl)
theorem w195 {a0 : Array Value} {Z : State} (hw : HW a0 Z) : (Jvm.Cond.declares ({ cls := "java/lang/StringBuilder", name := "trimToSize", desc := "()V" } : Jvm.MethodName) : Jvm.Cond).before a0 Z = true := hw _ (List.mem_of_getElem? (i := 195) rfl)
theorem w196 {a0 : Array Value} {Z : State} (hw : HW a0 Z) : (Jvm.Cond.instanceMethod ({ cls := "java/lang/StringBuilder", name := "trimToSize", desc := "()V" } : Jvm.MethodName) : Jvm.Cond).before a0 Z = true := hw _ (List.mem_of_getElem? (i := 196) rfl)
theorem w197 {a0 : Array Value} {Z : State} (hw : HW a0 Z) : (Jvm.Cond.selects "java/lang/StringBuilder" ({ cls := "java/lang/StringBuilder", name := "trimToSize", desc := "()V" } : Jvm.MethodName) ({ cls := "java/lang/StringBuilder", name := "trimToSize", desc := "()V" } : Jvm.MethodName) : Jvm.Cond).before a0 Z = true := hw _ (List.mem_of_getElem? (i := 197) rfl)
theorem w198 {a0 : Array Value} {Z : State} (hw : HW a0 Z) : (Jvm.Cond.code ({ cls := "java/lang/StringBuilder", name := "trimToSize", desc := "()V" } : Jvm.MethodName) jdk_67_method_90_code (1 : Nat) (Option.none : Option Jvm.ClassFile.FieldType) : Jvm.Cond).before a0 Z = true := hw _ (List.mem_of_getElem? (i := 198) rfl)
theorem w199 {a0 : Array Value} {Z : State} (hw : HW a0 Z) : (Jvm.Cond.methodLink "java/lang/StringBuilder" (336 : Nat) ({ cls := "java/lang/AbstractStringBuilder", name := "trimToSize", desc := "()V" } : Jvm.MethodName) : Jvm.Cond).before a0 Z = true := hw _ (List.mem_of_getElem? (i := 199) rfl)
theorem w200 {a0 : Array Value} {Z : State} (hw : HW a0 Z) : (Jvm.Cond.instanceMethod ({ cls := "java/lang/AbstractStringBuilder", name := "trimToSize", desc := "()V" } : Jvm.MethodName) : Jvm.Cond).before a0 Z = true := hw _ (List.mem_of_getElem? (i := 200) rfl)
theorem w202 {a0 : Array Value} {Z : State} (hw : HW a0 Z) : (Jvm.Cond.code ({ cls := "java/lang/AbstractStringBuilder", name := "trimToSize", desc := "()V" } : Jvm.MethodName) jdk_68_method_12_code (2 : Nat) (Option.none : Option Jvm.ClassFile.FieldType) : Jvm.Cond).before a0 Z = true := hw _ (List.mem_of_getElem? (i := 202) rfl)
theorem w203 {a0 : Array Value} {Z : State} (hw : HW a0 Z) : (Jvm.Cond.methodLink "java/lang/AbstractStringBuilder" (108 : Nat) ({ cls := "java/util/Arrays", name := "copyOf", desc := "([BI)[B" } : Jvm.MethodName) : Jvm.Cond).before a0 Z = true := hw _ (List.mem_of_getElem? (i := 203) rfl)
theorem w204 {a0 : Array Value} {Z : State} (hw : HW a0 Z) : (Jvm.Cond.static ({ cls := "java/util/Arrays", name := "copyOf", desc := "([BI)[B" } : Jvm.MethodName) : Jvm.Cond).before a0 Z = true := hw _ (List.mem_of_getElem? (i := 204) rfl)
theorem w205 {a0 : Array Value} {Z : State} (hw : HW a0 Z) : (Jvm.Cond.code ({ cls := "java/util/Arrays", name := "copyOf", desc := "([BI)[B" } : Jvm.MethodName) jdk_65_method_121_code (3 : Nat) (Option.some (Jvm.ClassFile.FieldType.array Jvm.ClassFile.FieldType.byte)) : Jvm.Cond).before a0 Z = true := hw _ (List.mem_of_getElem? (i := 205) rfl)
theorem w206 {a0 : Array Value} {Z : State} (hw : HW a0 Z) : (Jvm.Cond.methodLink "com/example/nodewarden/nodewarden/core/AsidesIsCommentPinLaw" (9 : Nat) ({ cls := "java/lang/String", name := "valueOf", desc := "(C)Ljava/lang/String;" } : Jvm.MethodName) : Jvm.Cond).before a0 Z = true := hw _ (List.mem_of_getElem? (i := 206) rfl)
theorem w207 {a0 : Array Value} {Z : State} (hw : HW a0 Z) : (Jvm.Cond.static ({ cls := "java/lang/String", name := "valueOf", desc := "(C)Ljava/lang/String;" } : Jvm.MethodName) : Jvm.Cond).before a0 Z = true := hw _ (List.mem_of_getElem? (i := 207) rfl)
theorem w208 {a0 : Array Value} {Z : State} (hw : HW a0 Z) : (Jvm.Cond.code ({ cls := "java/lang/String", name := "valueOf", desc := "(C)Ljava/lang/String;" } : Jvm.MethodName) jdk_42_method_139_code (1 : Nat) (Option.some (Jvm.ClassFile.FieldType.object "java/lang/String")) : Jvm.Cond).before a0 Z = true := hw _ (List.mem_of_getElem? (i := 208) rfl)
theorem w209 {a0 : Array Value} {Z : State} (hw : HW a0 Z) : (Jvm.Cond.methodLink "java/lang/String" (1015 : Nat) ({ cls := "java/lang/StringLatin1", name := "canEncode", desc := "(C)Z" } : Jvm.MethodName) : Jvm.Cond).before a0 Z = true := hw _ (List.mem_of_getElem? (i := 209) rfl)
theorem w210 {a0 : Array Value} {Z : State} (hw : HW a0 Z) : (Jvm.Cond.classLink "java/lang/String" (10 : Nat) "java/lang/String" : Jvm.Cond).before a0 Z = true := hw _ (List.mem_of_getElem? (i := 210) rfl)
theorem w211 {a0 : Array Value} {Z : State} (hw : HW a0 Z) : (Jvm.Cond.methodLink "java/lang/String" (1018 : Nat) ({ cls := "java/lang/StringLatin1", name := "toBytes", desc := "(C)[B" } : Jvm.MethodName) : Jvm.Cond).before a0 Z = true := hw _ (List.mem_of_getElem? (i := 211) rfl)
theorem w212 {a0 : Array Value} {Z : State} (hw : HW a0 Z) : (Jvm.Cond.static ({ cls := "java/lang/StringLatin1", name := "toBytes", desc := "(C)[B" } : Jvm.MethodName) : Jvm.Cond).before a0 Z = true := hw _ (List.mem_of_getElem? (i := 212) rfl)
theorem w213 {a0 : Array Value} {Z : State} (hw : HW a0 Z) : (Jvm.Cond.code ({ cls := "java/lang/StringLatin1", name := "toBytes", desc := "(C)[B" } : Jvm.MethodName) jdk_43_method_46_code (1 : Nat) (Option.some (Jvm.ClassFile.FieldType.array Jvm.ClassFile.FieldType.byte)) : Jvm.Cond).before a0 Z = true := hw _ (List.mem_of_getElem? (i := 213) rfl)
theorem w214 {a0 : Array Value} {Z : State} (hw : HW a0 Z) : (Jvm.Cond.methodLink "java/lang/String" (209 : Nat) ({ cls := "java/lang/String", name := "<init>", desc := "([BB)V" } : Jvm.MethodName) : Jvm.Cond).before a0 Z = true := hw _ (List.mem_of_getElem? (i := 214) rfl)
theorem w215 {a0 : Array Value} {Z : State} (hw : HW a0 Z) : (Jvm.Cond.instanceMethod ({ cls := "java/lang/String", name := "<init>", desc := "([BB)V" } : Jvm.MethodName) : Jvm.Cond).before a0 Z = true := hw _ (List.mem_of_getElem? (i := 215) rfl)
theorem w216 {a0 : Array Value} {Z : State} (hw : HW a0 Z) : (Jvm.Cond.code ({ cls := "java/lang/String", name := "<init>", desc := "([BB)V" } : Jvm.MethodName) jdk_42_method_151_code (3 : Nat) (Option.none : Option Jvm.ClassFile.FieldType) : Jvm.Cond).before a0 Z = true := hw _ (List.mem_of_getElem? (i := 216) rfl)
theorem pd0 : parseMethodDescriptor "(I)V" = some ⟨[.int], none⟩ := by decide +kernel
theorem pd1 : parseMethodDescriptor "()I" = some ⟨[], some .int⟩ := by decide +kernel
theorem pd2 : parseMethodDescriptor "()V" = some ⟨[], none⟩ := by decide +kernel
theorem pd3 : parseMethodDescriptor "(II)I" = some ⟨[.int, .int], some .int⟩ := by decide +kernel
theorem pd4 : parseMethodDescriptor "([II)[I" = some ⟨[(.array .int), .int], some (.array .int)⟩ := by decide +kernel
theorem pd5 : parseMethodDescriptor "()B" = some ⟨[], some .byte⟩ := by decide +kernel
theorem pd6 : parseMethodDescriptor "(Ljava/lang/String;)V" = some ⟨[(.object "java/lang/String")], none⟩ := by decide +kernel
theorem pd7 : parseMethodDescriptor "([BIB)V" = some ⟨[(.array .byte), .int, .byte], none⟩ := by decide +kernel
theorem pd8 : parseMethodDescriptor "(ILjava/lang/String;)V" = some ⟨[.int, (.object "java/lang/String")], none⟩ := by decide +kernel
theorem pd9 : parseMethodDescriptor "(Ljava/lang/String;)Ljava/lang/AbstractStringBuilder;" = some ⟨[(.object "java/lang/String")], some (.object "java/lang/AbstractStringBuilder")⟩ := by decide +kernel
theorem pd10 : parseMethodDescriptor "(Ljava/lang/String;)Ljava/lang/StringBuilder;" = some ⟨[(.object "java/lang/String")], some (.object "java/lang/StringBuilder")⟩ := by decide +kernel
theorem pd11 : parseMethodDescriptor "(IIII)V" = some ⟨[.int, .int, .int, .int], none⟩ := by decide +kernel
theorem pd12 : parseMethodDescriptor "([BI)[B" = some ⟨[(.array .byte), .int], some (.array .byte)⟩ := by decide +kernel
theorem pd13 : parseMethodDescriptor "(C)Z" = some ⟨[.char], some .boolean⟩ := by decide +kernel
theorem pd14 : parseMethodDescriptor "(C)[B" = some ⟨[.char], some (.array .byte)⟩ := by decide +kernel
theorem pd15 : parseMethodDescriptor "([BB)V" = some ⟨[(.array .byte), .byte], none⟩ := by decide +kernel
theorem pd16 : parseMethodDescriptor "()Z" = some ⟨[], some .boolean⟩ := by decide +kernel
theorem pd17 : parseMethodDescriptor "(IIILjava/util/function/BiFunction;)I" = some ⟨[.int, .int, .int, (.object "java/util/function/BiFunction")], some .int⟩ := by decide +kernel
theorem pd18 : parseMethodDescriptor "([CII)V" = some ⟨[(.array .char), .int, .int], none⟩ := by decide +kernel
theorem pd19 : parseMethodDescriptor "([CII)Ljava/lang/AbstractStringBuilder;" = some ⟨[(.array .char), .int, .int], some (.object "java/lang/AbstractStringBuilder")⟩ := by decide +kernel
theorem pd20 : parseMethodDescriptor "([CII)Ljava/lang/StringBuilder;" = some ⟨[(.array .char), .int, .int], some (.object "java/lang/StringBuilder")⟩ := by decide +kernel
theorem pd21 : parseMethodDescriptor "(C)Ljava/lang/String;" = some ⟨[.char], some (.object "java/lang/String")⟩ := by decide +kernel
theorem pd22 : parseMethodDescriptor "(III[CII)V" = some ⟨[.int, .int, .int, (.array .char), .int, .int], none⟩ := by decide +kernel
theorem pd23 : parseMethodDescriptor "(II)Ljava/lang/String;" = some ⟨[.int, .int], some (.object "java/lang/String")⟩ := by decide +kernel
theorem pd24 : parseMethodDescriptor "(IIILjava/lang/String;Ljava/lang/String;)V" = some ⟨[.int, .int, .int, (.object "java/lang/String"), (.object "java/lang/String")], none⟩ := by decide +kernel
theorem pd25 : parseMethodDescriptor "(Lcom/example/nodewarden/nodewarden/core/Asides;ZIIIII)V" = some ⟨[(.object "com/example/nodewarden/nodewarden/core/Asides"), .boolean, .int, .int, .int, .int, .int], none⟩ := by decide +kernel
theorem pd26 : parseMethodDescriptor "(I)Z" = some ⟨[.int], some .boolean⟩ := by decide +kernel
theorem pd27 : parseMethodDescriptor "([C)V" = some ⟨[(.array .char)], none⟩ := by decide +kernel
theorem pn0 : plainName "java/lang/AbstractStringBuilder" = true := by first | (simp [plainName, overriddenIn]; done) | decide +kernel
theorem pn1 : plainName "java/lang/StringBuilder" = true := by first | (simp [plainName, overriddenIn]; done) | decide +kernel
theorem pn2 : plainName "jdk/internal/util/Preconditions" = true := by first | (simp [plainName, overriddenIn]; done) | decide +kernel
theorem pn3 : plainName "com/example/nodewarden/nodewarden/core/Asides" = true := by first | (simp [plainName, overriddenIn]; done) | decide +kernel
theorem pn4 : plainName "java/util/Arrays" = true := by first | (simp [plainName, overriddenIn]; done) | decide +kernel
theorem pn5 : plainName "java/lang/String" = true := by first | (simp [plainName, overriddenIn]; done) | decide +kernel
theorem pn6 : plainName "java/lang/StringLatin1" = true := by first | (simp [plainName, overriddenIn]; done) | decide +kernel
theorem pn7 : plainName "com/example/nodewarden/nodewarden/core/AsidesIsCommentPinLaw" = true := by first | (simp [plainName, overriddenIn]; done) | decide +kernel
theorem ef0 (m : MethodId) (x0 : Int32) (x1 : Int32) : entryFrame m #[(.int x0), (.int x1)] 2 = mkF m 0 #[.val (.int x0), .val (.int x1)] [] := by first | (simp [entryFrame, mkF, argsToLocals, Value.category]; done) | rfl
theorem ef1 (m : MethodId) (x0 : Addr) (x1 : Int32) : entryFrame m #[(.ref x0), (.int x1)] 2 = mkF m 0 #[.val (.ref x0), .val (.int x1)] [] := by first | (simp [entryFrame, mkF, argsToLocals, Value.category]; done) | rfl
theorem ef2 (m : MethodId) (x0 : Addr) : entryFrame m #[(.ref x0)] 1 = mkF m 0 #[.val (.ref x0)] [] := by first | (simp [entryFrame, mkF, argsToLocals, Value.category]; done) | rfl
theorem ef3 (m : MethodId) (x0 : Int32) (x1 : Int32) (x2 : Int32) (x3 : Addr) : entryFrame m #[(.int x0), (.int x1), (.int x2), (.ref x3)] 4 = mkF m 0 #[.val (.int x0), .val (.int x1), .val (.int x2), .val (.ref x3)] [] := by first | (simp [entryFrame, mkF, argsToLocals, Value.category]; done) | rfl
theorem ef4 (m : MethodId) (x0 : Int32) (x1 : Int32) (x2 : Int32) : entryFrame m #[(.int x0), (.int x1), (.int x2), .null] 4 = mkF m 0 #[.val (.int x0), .val (.int x1), .val (.int x2), .val .null] [] := by first | (simp [entryFrame, mkF, argsToLocals, Value.category]; done) | rfl
theorem ef5 (m : MethodId) (x0 : Addr) (x1 : Int32) : entryFrame m #[(.ref x0), (.int x1)] 3 = mkF m 0 #[.val (.ref x0), .val (.int x1), .unset] [] := by first | (simp [entryFrame, mkF, argsToLocals, Value.category]; done) | rfl
theorem ef6 (m : MethodId) (x0 : Addr) (x1 : Int32) (x2 : Int32) (x3 : Int32) (x4 : Int32) : entryFrame m #[(.ref x0), (.int x1), (.int x2), (.int x3), (.int x4)] 6 = mkF m 0 #[.val (.ref x0), .val (.int x1), .val (.int x2), .val (.int x3), .val (.int x4), .unset] [] := by first | (simp [entryFrame, mkF, argsToLocals, Value.category]; done) | rfl
theorem ef7 (m : MethodId) (x0 : Addr) (x1 : Addr) : entryFrame m #[(.ref x0), (.ref x1)] 2 = mkF m 0 #[.val (.ref x0), .val (.ref x1)] [] := by first | (simp [entryFrame, mkF, argsToLocals, Value.category]; done) | rfl
theorem ef8 (m : MethodId) (x0 : Addr) (x1 : Addr) (x2 : Int32) (x3 : Int32) : entryFrame m #[(.ref x0), (.ref x1), (.int x2), (.int x3)] 4 = mkF m 0 #[.val (.ref x0), .val (.ref x1), .val (.int x2), .val (.int x3)] [] := by first | (simp [entryFrame, mkF, argsToLocals, Value.category]; done) | rfl
theorem ef9 (m : MethodId) (x0 : Addr) (x1 : Int32) (x2 : Addr) : entryFrame m #[(.ref x0), (.int x1), (.ref x2)] 3 = mkF m 0 #[.val (.ref x0), .val (.int x1), .val (.ref x2)] [] := by first | (simp [entryFrame, mkF, argsToLocals, Value.category]; done) | rfl
theorem ef10 (m : MethodId) (x0 : Addr) (x1 : Addr) : entryFrame m #[(.ref x0), (.ref x1)] 3 = mkF m 0 #[.val (.ref x0), .val (.ref x1), .unset] [] := by first | (simp [entryFrame, mkF, argsToLocals, Value.category]; done) | rfl
theorem ef11 (m : MethodId) (x0 : Addr) (x1 : Int32) (x2 : Int32) (x3 : Int32) (x4 : Addr) (x5 : Addr) : entryFrame m #[(.ref x0), (.int x1), (.int x2), (.int x3), (.ref x4), (.ref x5)] 7 = mkF m 0 #[.val (.ref x0), .val (.int x1), .val (.int x2), .val (.int x3), .val (.ref x4), .val (.ref x5), .unset] [] := by first | (simp [entryFrame, mkF, argsToLocals, Value.category]; done) | rfl
theorem ef12 (m : MethodId) (x0 : Addr) : entryFrame m #[(.ref x0)] 2 = mkF m 0 #[.val (.ref x0), .unset] [] := by first | (simp [entryFrame, mkF, argsToLocals, Value.category]; done) | rfl
theorem ef13 (m : MethodId) (x0 : Int32) : entryFrame m #[(.int x0)] 1 = mkF m 0 #[.val (.int x0)] [] := by first | (simp [entryFrame, mkF, argsToLocals, Value.category]; done) | rfl
theorem ef14 (m : MethodId) (x0 : Addr) (x1 : Addr) (x2 : Int32) : entryFrame m #[(.ref x0), (.ref x1), (.int x2)] 3 = mkF m 0 #[.val (.ref x0), .val (.ref x1), .val (.int x2)] [] := by first | (simp [entryFrame, mkF, argsToLocals, Value.category]; done) | rfl
theorem ef15 (m : MethodId) (x0 : Addr) (x1 : Addr) (x2 : Int32) (x3 : Int32) : entryFrame m #[(.ref x0), (.ref x1), (.int x2), (.int x3)] 9 = mkF m 0 #[.val (.ref x0), .val (.ref x1), .val (.int x2), .val (.int x3), .unset, .unset, .unset, .unset, .unset] [] := by first | (simp [entryFrame, mkF, argsToLocals, Value.category]; done) | rfl
theorem ef16 (m : MethodId) (x0 : Addr) (x1 : Addr) (x2 : Int32) (x3 : Int32) : entryFrame m #[(.ref x0), (.ref x1), (.int x2), (.int x3)] 5 = mkF m 0 #[.val (.ref x0), .val (.ref x1), .val (.int x2), .val (.int x3), .unset] [] := by first | (simp [entryFrame, mkF, argsToLocals, Value.category]; done) | rfl
theorem ef17 (m : MethodId) (x0 : Addr) (x1 : Int32) (x2 : Int32) (x3 : Int32) (x4 : Addr) (x5 : Int32) (x6 : Int32) : entryFrame m #[(.ref x0), (.int x1), (.int x2), (.int x3), (.ref x4), (.int x5), (.int x6)] 7 = mkF m 0 #[.val (.ref x0), .val (.int x1), .val (.int x2), .val (.int x3), .val (.ref x4), .val (.int x5), .val (.int x6)] [] := by first | (simp [entryFrame, mkF, argsToLocals, Value.category]; done) | rfl
theorem ef18 (m : MethodId) (x0 : Int32) (x1 : Int32) : entryFrame m #[(.int x0), (.int x1)] 5 = mkF m 0 #[.val (.int x0), .val (.int x1), .unset, .unset, .unset] [] := by first | (simp [entryFrame, mkF, argsToLocals, Value.category]; done) | rfl
theorem ef19 (m : MethodId) (x0 : Addr) (x1 : Int32) (x2 : Int32) (x3 : Int32) (x4 : Int32) (x5 : Int32) (x6 : Int32) : entryFrame m #[(.ref x0), (.int x1), (.int x2), (.int x3), (.int x4), (.int x5), (.int x6)] 10 = mkF m 0 #[.val (.ref x0), .val (.int x1), .val (.int x2), .val (.int x3), .val (.int x4), .val (.int x5), .val (.int x6), .unset, .unset, .unset] [] := by first | (simp [entryFrame, mkF, argsToLocals, Value.category]; done) | rfl
theorem ef20 (m : MethodId) (x0 : Int32) (x1 : Int32) (x2 : Int32) (x3 : Int32) (x4 : Int32) (x5 : Int32) : entryFrame m #[(.int x0), (.int x1), (.int x2), (.int x3), (.int x4), (.int x5)] maxLocals = mkF m 0 #[.val (.int x0), .val (.int x1), .val (.int x2), .val (.int x3), .val (.int x4), .val (.int x5), .unset, .unset, .unset, .unset, .unset] [] := by first | (simp [entryFrame, mkF, argsToLocals, Value.category, maxLocals]; done) | rfl
abbrev ST : String := "java/lang/String"
def Ctx (Z : State) (a0 : Array Value) : Prop := HW a0 Z ∧ EW Z a0 EL1 ∧ (∃ z1 : Int32, Sta Z Z.heap "java/lang/String" "COMPACT_STRINGS" "Z" (.int z1) ∧ ¬ z1 = 0) ∧ (∃ fm : Value, Sta Z Z.heap "jdk/internal/util/Preconditions" "SIOOBE_FORMATTER" "Ljava/util/function/BiFunction;" fm ∧ fm.isRef = true) ∧ (∃ fm : Value, Sta Z Z.heap "jdk/internal/util/Preconditions" "IOOBE_FORMATTER" "Ljava/util/function/BiFunction;" fm ∧ fm.isRef = true)
theorem Ctx.fm {Z : State} {a0 : Array Value} (X : Ctx Z a0) : ∃ fm : Value, Sta Z Z.heap "jdk/internal/util/Preconditions" "SIOOBE_FORMATTER" "Ljava/util/function/BiFunction;" fm ∧ fm.isRef = true := X.2.2.2.1
theorem Ctx.hw {Z : State} {a0 : Array Value} (X : Ctx Z a0) : HW a0 Z := X.1
theorem Ctx.ew {Z : State} {a0 : Array Value} (X : Ctx Z a0) : EW Z a0 EL1 := X.2.1
theorem sAtoms {Z : State} {a0 : Array Value} (hw : HW a0 Z) : ∀ a ∈ Bundle.stringAtoms, a.before a0 Z = true := fun d hd => hw d ((by decide +kernel : ∀ d ∈ Bundle.stringAtoms, d ∈ tables_1) d hd)
/-- the String at a spells cs -/
def StrF (Z : State) (h : Heap) (a : Addr) (cs : List Int32) : Prop := ∃ (t : Addr) (kb : ClassId) (cd N2 : Int32) (vs : List Value), Exa Z h a ST ∧ Fld Z h a ST "value" "[B" (.ref t) ∧ Fld Z h a ST "coder" "B" (.int cd) ∧ Arv Z h t kb .byte N2 vs (.int 0) ∧ StrChars.Road.CodA cs cd N2 vs ∧ (∀ c ∈ cs, ¬ c < 0 ∧ ¬ (65535 : Int32) < c) ∧ cs.length ≤ 4000
theorem StrF.ext {Z : State} {h h' : Heap} {a : Addr} {cs : List Int32} (F : StrF Z h a cs) (E : Ext h h') : StrF Z h' a cs := by
  obtain ⟨t, kb, cd, N2, vs, f1, f2, f3, f4, r⟩ := F; exact ⟨t, kb, cd, N2, vs, f1.ext E, f2.ext E, f3.ext E, f4.ext E, r⟩
theorem StrF.keep {Z : State} {h h' : Heap} {a x : Addr} {cs : List Int32} {C : String} {a0 : Array Value} {kk : Nat} (F : StrF Z h a cs) (K : Keep h h' [x]) (Ex : Exa Z h x C) (hC : C ≠ "java/lang/String") (wi : (Jvm.Cond.instantiable C kk).before a0 Z = true) : StrF Z h' a cs := by
  obtain ⟨t, kb, cd, N2, vs, f1, f2, f3, f4, r⟩ := F
  have n1 : a ∉ [x] := ninS (fun e => ne_exa Ex f1 hC e.symm) nin0
  have n2 : t ∉ [x] := ninS (fun e => by obtain ⟨c, A, -⟩ := f4; exact ne_arr Ex wi A e.symm) nin0
  exact ⟨t, kb, cd, N2, vs, f1.keep K, f2.keep K n1, f3.keep K n1, f4.keep K n2, r⟩
theorem StrF.exa {Z : State} {h : Heap} {a : Addr} {cs : List Int32} (F : StrF Z h a cs) : Exa Z h a ST := by obtain ⟨t, kb, cd, N2, vs, f1, r⟩ := F; exact f1
theorem StrF.lt {Z : State} {h : Heap} {a : Addr} {cs : List Int32} (F : StrF Z h a cs) : a < h.size := F.exa.lt
theorem up255 {cs : List Int32} (h : ∀ c ∈ cs, ¬ c < 0 ∧ ¬ (255 : Int32) < c) : ∀ c ∈ cs, ¬ c < 0 ∧ ¬ (65535 : Int32) < c := fun c hc => ⟨(h c hc).1, fun q => (h c hc).2 (by rw [Int32.lt_iff_toInt_lt] at q ⊢; have e1 : (65535 : Int32).toInt = 65535 := rfl; have e2 : (255 : Int32).toInt = 255 := rfl; omega)⟩
/-- a literal of EL1 is such a String -/
theorem StrF.lit {Z : State} {h : Heap} {a t : Addr} {kt : ClassId} {cs : List Int32} {z : Int32} {vs : List Value} (f1 : Exa Z h a ST) (f2 : Fld Z h a ST "coder" "B" (.int 0)) (f3 : Fld Z h a ST "value" "[B" (.ref t)) (f4 : Arv Z h t kt .byte z vs (.int 0)) (hz : z = Int32.ofNat cs.length) (hv : vs = (cs.map StrChars.lo8).map Value.int) (hp : ∀ c ∈ cs, ¬ c < 0 ∧ ¬ (255 : Int32) < c) (hl : cs.length ≤ 4000) : StrF Z h a cs := by
  subst hz hv
  exact ⟨t, kt, 0, _, _, f1, f3, f2, f4, StrChars.Road.codOf rfl (fun c hc => (hp c hc).2), up255 hp, hl⟩
theorem wdsV {Z : State} {a0 : Array Value} (hw : HW a0 Z) : ∀ d ∈ StrChars.Road.words, d.before a0 Z = true := fun d hd => hw d ((by decide +kernel : ∀ d ∈ StrChars.Road.words, d ∈ tables_1) d hd)
theorem g_newStr {p : Program} {l : Launch} {e : Env} {R : Room} {s : State} {m : MethodId} {args : Array Value} {below : List Frame} {meth : Method} {c : Code} {Z : State} {a0 : Array Value} {EL : List (String × Nat)} {n0 : Nat} {own : String} {T : State} {V : Vm} {h : Heap} {k n : Nat} {Q : Outcome → State → Prop} {pc : Nat} {Ls : Array Slot} {rest : List Value} (S : St p l e R s m args below meth c Z a0 EL n0 own T V h k n) (X : Ctx Z a0) {x b : Addr} {kC : ClassId} {cs : List Int32} {N : Int32} {dv v0 c0 : Value} {index : Nat} (l0 : 0 < cs.length) (l2 : cs.length ≤ 4000) (hN : N = Int32.ofNat cs.length) (na : n0 ≤ x) (sf : Safe Z EL V h x) (E : Exa Z h x ST) (Fv : Fld Z h x ST "value" "[B" v0) (Fc : Fld Z h x ST "coder" "B" c0) (K : Arv Z h b kC .char N (cs.map Value.int) dv) (hp : ∀ c ∈ cs, ¬ c < 0 ∧ ¬ (255 : Int32) < c)
    (wl : (Jvm.Cond.methodLink own index (⟨"java/lang/String", "<init>", "([C)V"⟩ : MethodName)).before a0 Z = true) (hd : decode c.code pc = .ok (.invokespecial index, 3)) (hsz : Ls.size = c.maxLocals) (hfr : 4 ≤ R.frames) (hlo : (rest.map fun v => v.category).sum + 65 ≤ R.locals) (hc : k + 1 ≤ R.cells) (hs : n + cs.length ≤ R.slots)
    (go : ∀ T' h', St p l e R s m args below meth c Z a0 EL n0 own T' V h' (k + 1) (n + cs.length) → Keep h h' [x] → StrF Z h' x cs → Go p e below Q (T'.setTop (mkF m (pc + 3) Ls rest))) : Go p e below Q (T.setTop (mkF m pc Ls (.ref b :: .ref x :: rest))) := by
  have hw := X.hw
  obtain ⟨z1, hz1, hz2⟩ := X.2.2.1
  refine g_specialB S (rc := 1) (rs := cs.length) (as' := #[.ref x, .ref b]) (W := (rest.map fun v => v.category).sum) (fun s' hZ' => StrChars.Road.backV hZ' (wdsV hw) (w42 hw) (n0 := n0) na S.le E Fv Fc K (hz1.ext S.old.2) hz2 rfl hN l0 l2 hp rfl hfr hlo) rfl wl (w45 hw) (w46 hw) (by decide) hd hsz x [.ref b] (lenOf pd27 rfl) rfl rfl (Nat.le_refl _) hc hs ?_ ?_
  · intro v h' L q
    exact ⟨q.2.1, [x], q.2.2.1, sfS sf sf0, allS na all0⟩
  · intro v T' h' L S' q
    obtain ⟨rfl, -, K', f1, f2, t, kb, -, -, -, f3, f4⟩ := q
    refine go T' h' S' K' ?_
    subst hN
    exact ⟨t, kb, 0, _, _, f1, f3, f2, f4, StrChars.Road.codOf rfl (fun c hc => (hp c hc).2), up255 hp, l2⟩
theorem tlt_no {x y : Int32} (h : ¬ y < x) : if_icmp.holds .gt x y = false := (flt h).2.2.1
theorem lo8_lo8 (x : Int32) : StrChars.lo8 (StrChars.lo8 x) = StrChars.lo8 x := by simp [StrChars.lo8]
abbrev SBN : String := "java/lang/StringBuilder"
abbrev ASB : String := "java/lang/AbstractStringBuilder"
abbrev AD : String := "com/example/nodewarden/nodewarden/core/Asides"
/-- a builder of count sc over 16 bytes -/
def SBF (Z : State) (h : Heap) (sb tb : Addr) (kb : ClassId) (zb sc : Int32) (bs : List Value) : Prop := Exa Z h sb "java/lang/StringBuilder" ∧ Fld Z h sb "java/lang/AbstractStringBuilder" "value" "[B" (.ref tb) ∧ Fld Z h sb "java/lang/AbstractStringBuilder" "coder" "B" (.int (0 : Int32)) ∧ Fld Z h sb "java/lang/AbstractStringBuilder" "count" "I" (.int sc) ∧ Arv Z h tb kb .byte zb bs (.int (0 : Int32))
theorem SBF.ext {Z : State} {h h' : Heap} {sb tb : Addr} {kb : ClassId} {zb sc : Int32} {bs : List Value} (F : SBF Z h sb tb kb zb sc bs) (E : Ext h h') : SBF Z h' sb tb kb zb sc bs := ⟨F.1.ext E, F.2.1.ext E, F.2.2.1.ext E, F.2.2.2.1.ext E, F.2.2.2.2.ext E⟩
/-- the Asides at x: cnt rows in the table t, of length zt, that opens with vs -/
def AS (Z : State) (h : Heap) (n0 : Nat) (x sb tb t : Addr) (kb kt : ClassId) (cnt zt : Int32) (vs : List Value) (zb sc : Int32) (bs : List Value) : Prop := Exa Z h x "com/example/nodewarden/nodewarden/core/Asides" ∧ Fld Z h x "com/example/nodewarden/nodewarden/core/Asides" "text" "Ljava/lang/StringBuilder;" (.ref sb) ∧ Fld Z h x "com/example/nodewarden/nodewarden/core/Asides" "table" "[I" (.ref t) ∧ Fld Z h x "com/example/nodewarden/nodewarden/core/Asides" "count" "I" (.int cnt) ∧ Arv Z h t kt .int zt vs (.int (0 : Int32)) ∧ SBF Z h sb tb kb zb sc bs ∧ n0 ≤ x ∧ n0 ≤ sb ∧ n0 ≤ tb ∧ n0 ≤ t
theorem AS.ext {Z : State} {h h' : Heap} {n0 : Nat} {x sb tb t : Addr} {kb kt : ClassId} {cnt zt : Int32} {vs : List Value} {zb sc : Int32} {bs : List Value} (F : AS Z h n0 x sb tb t kb kt cnt zt vs zb sc bs) (E : Ext h h') : AS Z h' n0 x sb tb t kb kt cnt zt vs zb sc bs := ⟨F.1.ext E, F.2.1.ext E, F.2.2.1.ext E, F.2.2.2.1.ext E, F.2.2.2.2.1.ext E, F.2.2.2.2.2.1.ext E, F.2.2.2.2.2.2⟩
/-- a Latin-1 String over the bytes vs -/
def LS (Z : State) (h : Heap) (a t : Addr) (kt : ClassId) (z : Int32) (vs : List Value) : Prop := Exa Z h a "java/lang/String" ∧ Fld Z h a "java/lang/String" "value" "[B" (.ref t) ∧ Fld Z h a "java/lang/String" "coder" "B" (.int (0 : Int32)) ∧ Arv Z h t kt .byte z vs (.int (0 : Int32))
theorem LS.ext {Z : State} {h h' : Heap} {a t : Addr} {kt : ClassId} {z : Int32} {vs : List Value} (F : LS Z h a t kt z vs) (E : Ext h h') : LS Z h' a t kt z vs := ⟨F.1.ext E, F.2.1.ext E, F.2.2.1.ext E, F.2.2.2.ext E⟩
theorem own_shr0 (c : Int32) : c >>> ((0 : Int32) &&& 31) = c := by
  apply Int32.toBitVec_inj.mp
  rw [Int32.toBitVec_shiftRight]
  have e : (((0 : Int32) &&& 31).toBitVec.smod 32) = 0#32 := by decide
  rw [e]
  exact BitVec.sshiftRight_zero
theorem own_shl0 (c : Int32) : c <<< ((0 : Int32) &&& 31) = c := by
  apply Int32.toBitVec_inj.mp
  rw [Int32.toBitVec_shiftLeft]
  have e : (((0 : Int32) &&& 31).toBitVec.smod 32) = 0#32 := by decide
  rw [e]
  exact BitVec.shiftLeft_zero _
theorem own_nn {x : Int32} (h : 0 ≤ x.toInt) : ¬ x < 0 := by
  rw [Int32.lt_iff_toInt_lt]; have e : (0 : Int32).toInt = 0 := rfl; omega
theorem own_lt16 {x : Int32} (h : x.toInt < 16) : x < (16 : Int32) := by
  rw [Int32.lt_iff_toInt_lt]; have e : (16 : Int32).toInt = 16 := rfl; omega
theorem own_nat {x : Int32} (h : 0 ≤ x.toInt) : (x.toNatClampNeg : Int) = x.toInt := by
  simp only [Int32.toNatClampNeg]; omega
theorem own_add {x y : Int32} (h0 : 0 ≤ x.toInt) (h1 : 0 ≤ y.toInt) (h : x.toInt + y.toInt ≤ 1000000) : (x + y).toInt = x.toInt + y.toInt := by
  have q := c_iadd x y
  have r := rng32 (x + y)
  omega
theorem own_cap {x : Int32} (h0 : 0 ≤ x.toInt) (h1 : x.toInt ≤ 16) : ¬ (0 : Int32) < x - (16 : Int32) := by
  have q := c_isub x 16
  have r := rng32 (x - 16)
  have e : (16 : Int32).toInt = 16 := rfl
  have e0 : (0 : Int32).toInt = 0 := rfl
  rw [Int32.lt_iff_toInt_lt]; omega
theorem own_ne16 {x : Int32} (h : x.toInt < 16) : ¬ x = (16 : Int32) := fun q => by
  subst q; have e : (16 : Int32).toInt = 16 := rfl; omega
theorem own_fit {x z : Int32} {bs : List Value} (h0 : 0 ≤ x.toInt) (h1 : 0 ≤ z.toInt) (h : x.toInt + z.toInt ≤ 16) (hbl : bs.length = 16) : x.toNatClampNeg + z.toNatClampNeg ≤ (16 : Int32).toNatClampNeg ∧ x.toNatClampNeg + z.toNatClampNeg ≤ bs.length := by
  have a := own_nat h0
  have b := own_nat h1
  have e : (16 : Int32).toNatClampNeg = 16 := rfl
  rw [e, hbl]; omega
theorem own_len {x z : Int32} {bs us : List Value} (h0 : 0 ≤ x.toInt) (h1 : 0 ≤ z.toInt) (h : x.toInt + z.toInt ≤ 16) (hbl : bs.length = 16) (hu : us.length = z.toNatClampNeg) : (bs.take x.toNatClampNeg ++ us ++ bs.drop (x.toNatClampNeg + z.toNatClampNeg)).length = 16 := by
  have a := own_nat h0
  have b := own_nat h1
  simp only [List.length_append, List.length_take, List.length_drop, hu, hbl]; omega
theorem ls_of {Z : State} {h : Heap} {a : Addr} {cs : List Int32} (F : StrF Z h a cs) (hl : ∀ c ∈ cs, ¬ (255 : Int32) < c) : ∃ (t : Addr) (kt : ClassId) (z : Int32) (vs : List Value), LS Z h a t kt z vs ∧ z = Int32.ofNat cs.length := by
  obtain ⟨t, kb, cd, N2, vs, f1, f2, f3, f4, f5, f6, f7⟩ := F
  rcases f5 with ⟨rfl, rfl, rfl, -⟩ | ⟨-, -, -, c, hc, hb⟩
  · exact ⟨t, kb, _, _, ⟨f1, f2, f3, f4⟩, rfl⟩
  · exact absurd hb (hl c hc)
theorem arv_zne {Z : State} {h : Heap} {a b : Addr} {k1 k2 : ClassId} {t1 t2 : FieldType} {z1 z2 : Int32} {v1 v2 : List Value} {d1 d2 : Value} (A : Arv Z h a k1 t1 z1 v1 d1) (B : Arv Z h b k2 t2 z2 v2 d2) (hn : z1.toNatClampNeg ≠ z2.toNatClampNeg) : a ≠ b := fun e => by
  subst e
  obtain ⟨c1, ⟨a1, -⟩, -, s1, -⟩ := A
  obtain ⟨c2, ⟨b1, -⟩, -, s2, -⟩ := B
  cases a1.symm.trans b1
  exact hn (s1.symm.trans s2)
theorem own_inc {x : Int32} (h0 : 0 ≤ x.toInt) (h : x.toInt ≤ 1000) : (x + (1 : Int32)).toInt = x.toInt + 1 := own_add (y := 1) h0 (by decide) (by have e : (1 : Int32).toInt = 1 := rfl; omega)
theorem own_addl {x : Int32} (e : Int32) (E : Int) (he : e.toInt = E) (h0 : 0 ≤ x.toInt) (h1 : 0 ≤ E) (h : x.toInt + E ≤ 1000) : (x + e).toInt = x.toInt + E := by
  rw [own_add h0 (by omega) (by omega), he]
theorem own_cnt {x : Int32} (e s : Int32) (E S : Int) (he : e.toInt = E) (hs : s.toInt = S) (h0 : 0 ≤ x.toInt) (h1 : 0 ≤ S) (h2 : S ≤ E) (h : x.toInt + E ≤ 1000) {D : Int} (hD : E - S = D := by decide) : ((x + e) - s).toInt = x.toInt + D := by
  have a := own_addl (x := x) e E he h0 (by omega) h
  have b := c_isub (x + e) s
  have r := rng32 ((x + e) - s)
  omega
theorem own_le2 {x : Int32} (h : x = 0 ∨ x = 1 ∨ x = 2) : 0 ≤ x.toInt ∧ x.toInt ≤ 2 := by
  rcases h with rfl | rfl | rfl <;> decide
theorem own_same {c d r : Int32} (h : (c = 1 ∧ d < 0) ∨ (c = 0 ∧ ¬ d < 0)) (g : (r = 1 ∧ d < 0) ∨ (r = 0 ∧ ¬ d < 0)) : c = r := by
  rcases h with ⟨rfl, h⟩ | ⟨rfl, h⟩ <;> rcases g with ⟨rfl, g⟩ | ⟨rfl, g⟩ <;> first | rfl | exact absurd h g | exact absurd g h
theorem own_and1 (k n : Int32) (e : (k &&& (1 : Int32)) = n) : n = 0 ∨ n = 1 := by
  subst e
  have q := c_mask k 1 1 (by decide) (by decide)
  have hlt : ∀ x : Int32, 0 ≤ x.toInt → x.toInt < 2 → x = 0 ∨ x = 1 := fun x h1 h2 => by
    have e0 : (0 : Int32).toInt = 0 := rfl
    have e1 : (1 : Int32).toInt = 1 := rfl
    simp only [← Int32.toInt_inj, e0, e1]
    omega
  exact hlt _ (by omega) (by omega)
theorem own_and3 (k n : Int32) (e : (k &&& (3 : Int32)) = n) : n = 0 ∨ n = 1 ∨ n = 2 ∨ n = 3 := by
  subst e
  have q := c_mask k 3 2 (by decide) (by decide)
  have hlt : ∀ x : Int32, 0 ≤ x.toInt → x.toInt < 4 → x = 0 ∨ x = 1 ∨ x = 2 ∨ x = 3 := fun x h1 h2 => by
    have e0 : (0 : Int32).toInt = 0 := rfl
    have e1 : (1 : Int32).toInt = 1 := rfl
    have e2 : (2 : Int32).toInt = 2 := rfl
    have e3 : (3 : Int32).toInt = 3 := rfl
    simp only [← Int32.toInt_inj, e0, e1, e2, e3]
    omega
  exact hlt _ (by omega) (by omega)
theorem own_min3 (k n : Int32) (e : (if (2 : Int32) < (k &&& (3 : Int32)) then (2 : Int32) else (k &&& (3 : Int32))) = n) : n = 0 ∨ n = 1 ∨ n = 2 := by
  rcases own_and3 k _ rfl with q | q | q | q <;> rw [q] at e <;> subst e <;> decide

end Jvm.Pilot.@@N@@

namespace Jvm.Pilot.@@N@@
open Jvm Jvm.ClassFile Sem Op Lib Jvm.Free Jvm.Stand Jvm.LawKit Jvm.RoadKit Jvm.OwnKit Bundle Jvm.Pilot.@@N@@.Jvm.D
theorem dMX_0 : decode jdk_29_method_65_code 0 = .ok (.iload_n 0, 1) := by decide +kernel
theorem dMX_1 : decode jdk_29_method_65_code 1 = .ok (.iload_n 1, 1) := by decide +kernel
theorem dMX_2 : decode jdk_29_method_65_code 2 = .ok (.if_icmp .lt 7, 3) := by decide +kernel
theorem dMX_5 : decode jdk_29_method_65_code 5 = .ok (.iload_n 0, 1) := by decide +kernel
theorem dMX_6 : decode jdk_29_method_65_code 6 = .ok (.goto 4, 3) := by decide +kernel
theorem dMX_9 : decode jdk_29_method_65_code 9 = .ok (.iload_n 1, 1) := by decide +kernel
theorem dMX_10 : decode jdk_29_method_65_code 10 = .ok (.ireturn, 1) := by decide +kernel
set_option maxRecDepth 65536 in
set_option maxHeartbeats 40000000 in
theorem rmMX {l : Launch} {Z : State} {a0 : Array Value} {n0 : Nat} (X : Ctx Z a0) {a b z : Int32} (hz : (if a < b then b else a) = z) {h : Heap} (hO : Old Z n0 h)  :
    Ctr l Z EL1 n0 (⟨"java/lang/Math", "max", "(II)I"⟩ : MethodName) jdk_29_method_65_code 2 (some .int) ({ frames := 0, cells := 0, slots := 0, locals := 0 } : Room) #[(.int a), (.int b)] h [] (fun v h' => v = some (.int z) ∧ h' = h) := by
  have hw := X.hw
  obtain ⟨z1, hz1, hz2⟩ := X.2.2.1
  refine Ctr.intro (a0 := a0) (by decide +kernel) hO X.ew ?_
  intro p e s m below meth c T0 V0 S0 hby hml hret hnm hsf
  rw [ef0]
  refine s_iloadN S0 (hb hby dMX_0) rfl (pc' := 1) rfl ?_
  refine s_iloadN S0 (hb hby dMX_1) rfl (pc' := 2) rfl ?_
  refine g_icmp S0 (hb hby dMX_2) (by decide) (pcT := 9) (by decide) (fun q => ?_) (fun q => ?_)
  · have hc2_1 : a < b := icT_lt q
    show Go p e below _ (T0.setTop (mkF m 9 #[.val (.int a), .val (.int b)] []))
    refine s_iloadN S0 (hb hby dMX_9) rfl (pc' := 10) rfl ?_
    show Go p e below _ (T0.setTop (mkF m 10 #[.val (.int a), .val (.int b)] [(.int b)]))
    exact g_iret S0 (hb hby dMX_10) hret ⟨by rw [← hz, if_pos hc2_1], rfl⟩
  · have hc2_1 : ¬ a < b := icF_lt q
    show Go p e below _ (T0.setTop (mkF m 5 #[.val (.int a), .val (.int b)] []))
    refine s_iloadN S0 (hb hby dMX_5) rfl (pc' := 6) rfl ?_
    refine s_goto S0 (hb hby dMX_6) (by decide) (pcT := 10) (by decide) ?_
    show Go p e below _ (T0.setTop (mkF m 10 #[.val (.int a), .val (.int b)] [(.int a)]))
    exact g_iret S0 (hb hby dMX_10) hret ⟨by rw [← hz, if_neg hc2_1], rfl⟩
theorem dMN_0 : decode jdk_29_method_69_code 0 = .ok (.iload_n 0, 1) := by decide +kernel
theorem dMN_1 : decode jdk_29_method_69_code 1 = .ok (.iload_n 1, 1) := by decide +kernel
theorem dMN_2 : decode jdk_29_method_69_code 2 = .ok (.if_icmp .gt 7, 3) := by decide +kernel
theorem dMN_5 : decode jdk_29_method_69_code 5 = .ok (.iload_n 0, 1) := by decide +kernel
theorem dMN_6 : decode jdk_29_method_69_code 6 = .ok (.goto 4, 3) := by decide +kernel
theorem dMN_9 : decode jdk_29_method_69_code 9 = .ok (.iload_n 1, 1) := by decide +kernel
theorem dMN_10 : decode jdk_29_method_69_code 10 = .ok (.ireturn, 1) := by decide +kernel
set_option maxRecDepth 65536 in
set_option maxHeartbeats 40000000 in
theorem rmMN {l : Launch} {Z : State} {a0 : Array Value} {n0 : Nat} (X : Ctx Z a0) {a b z : Int32} (hz : (if b < a then b else a) = z) {h : Heap} (hO : Old Z n0 h)  :
    Ctr l Z EL1 n0 (⟨"java/lang/Math", "min", "(II)I"⟩ : MethodName) jdk_29_method_69_code 2 (some .int) ({ frames := 0, cells := 0, slots := 0, locals := 0 } : Room) #[(.int a), (.int b)] h [] (fun v h' => v = some (.int z) ∧ h' = h) := by
  have hw := X.hw
  obtain ⟨z1, hz1, hz2⟩ := X.2.2.1
  refine Ctr.intro (a0 := a0) (by decide +kernel) hO X.ew ?_
  intro p e s m below meth c T0 V0 S0 hby hml hret hnm hsf
  rw [ef0]
  refine s_iloadN S0 (hb hby dMN_0) rfl (pc' := 1) rfl ?_
  refine s_iloadN S0 (hb hby dMN_1) rfl (pc' := 2) rfl ?_
  refine g_icmp S0 (hb hby dMN_2) (by decide) (pcT := 9) (by decide) (fun q => ?_) (fun q => ?_)
  · have hc2_2 : b < a := icT_gt q
    show Go p e below _ (T0.setTop (mkF m 9 #[.val (.int a), .val (.int b)] []))
    refine s_iloadN S0 (hb hby dMN_9) rfl (pc' := 10) rfl ?_
    show Go p e below _ (T0.setTop (mkF m 10 #[.val (.int a), .val (.int b)] [(.int b)]))
    exact g_iret S0 (hb hby dMN_10) hret ⟨by rw [← hz, if_pos hc2_2], rfl⟩
  · have hc2_2 : ¬ b < a := icF_gt q
    show Go p e below _ (T0.setTop (mkF m 5 #[.val (.int a), .val (.int b)] []))
    refine s_iloadN S0 (hb hby dMN_5) rfl (pc' := 6) rfl ?_
    refine s_goto S0 (hb hby dMN_6) (by decide) (pcT := 10) (by decide) ?_
    show Go p e below _ (T0.setTop (mkF m 10 #[.val (.int a), .val (.int b)] [(.int a)]))
    exact g_iret S0 (hb hby dMN_10) hret ⟨by rw [← hz, if_neg hc2_2], rfl⟩
theorem dAI_0 : decode jdk_68_method_2_code 0 = .ok (.aload_n 0, 1) := by decide +kernel
theorem dAI_1 : decode jdk_68_method_2_code 1 = .ok (.invokespecial 3, 3) := by decide +kernel
theorem dAI_4 : decode jdk_68_method_2_code 4 = .ok (.getstatic 18, 3) := by decide +kernel
theorem dAI_7 : decode jdk_68_method_2_code 7 = .ok (.ifCond .eq 18, 3) := by decide +kernel
theorem dAI_10 : decode jdk_68_method_2_code 10 = .ok (.aload_n 0, 1) := by decide +kernel
theorem dAI_11 : decode jdk_68_method_2_code 11 = .ok (.iload_n 1, 1) := by decide +kernel
theorem dAI_12 : decode jdk_68_method_2_code 12 = .ok (.newarray .byte, 2) := by decide +kernel
theorem dAI_14 : decode jdk_68_method_2_code 14 = .ok (.putfield 15, 3) := by decide +kernel
theorem dAI_17 : decode jdk_68_method_2_code 17 = .ok (.aload_n 0, 1) := by decide +kernel
theorem dAI_18 : decode jdk_68_method_2_code 18 = .ok (.iconst 0, 1) := by decide +kernel
theorem dAI_19 : decode jdk_68_method_2_code 19 = .ok (.putfield 22, 3) := by decide +kernel
theorem dAI_22 : decode jdk_68_method_2_code 22 = .ok (.goto 16, 3) := by decide +kernel
theorem dAI_38 : decode jdk_68_method_2_code 38 = .ok (.return_, 1) := by decide +kernel
set_option maxRecDepth 65536 in
set_option maxHeartbeats 40000000 in
theorem rmAI {l : Launch} {Z : State} {a0 : Array Value} {n0 : Nat} (X : Ctx Z a0) {x : Addr} {v0 c0 : Value} (na : n0 ≤ x) {h : Heap} (hO : Old Z n0 h) (Ex : Exa Z h x "java/lang/StringBuilder") (Fv : Fld Z h x "java/lang/AbstractStringBuilder" "value" "[B" v0) (Fk : Fld Z h x "java/lang/AbstractStringBuilder" "coder" "B" c0) (Fs : Fld Z h x "java/lang/AbstractStringBuilder" "count" "I" (.int (0 : Int32))) :
    CtrV l Z EL1 n0 (⟨"java/lang/AbstractStringBuilder", "<init>", "(I)V"⟩ : MethodName) jdk_68_method_2_code 2 none ({ frames := 1, cells := 1, slots := 16, locals := 12 } : Room) #[(.ref x), (.int (16 : Int32))] h [] (fun v h' vm => v = none ∧ ∃ tb kb, Keep h h' [x] ∧ n0 ≤ tb ∧ h.size ≤ tb ∧ SBF Z h' x tb kb (16 : Int32) (0 : Int32) (List.replicate 16 (.int (0 : Int32))) ∧ Safe Z EL1 vm h' tb) := by
  have hw := X.hw
  obtain ⟨z1, hz1, hz2⟩ := X.2.2.1
  refine CtrV.intro (a0 := a0) (plainFor_of_name pn0) hO X.ew ?_
  intro p e s m below meth c T0 V0 S0 hby hml hret hnm hsf
  rw [ef1]
  refine s_aloadN S0 (hb hby dAI_0) rfl rfl (pc' := 1) rfl ?_
  refine g_initO S0 (w21 hw) (w7 hw) (w8 hw) (by rw [hml]; rfl) (hb hby dAI_1) (Nat.le_of_ble_eq_true rfl) (Nat.le_of_ble_eq_true rfl) ?_
  intro T3 ST3
  show Go p e below _ (T3.setTop (mkF m 4 #[.val (.ref x), .val (.int (16 : Int32))] []))
  refine g_getS ST3 (w22 hw) Via.refl (hz1.ext ST3.old.2) (hb hby dAI_4) ?_
  intro T4 ST4
  show Go p e below _ (T4.setTop (mkF m 7 #[.val (.ref x), .val (.int (16 : Int32))] [(.int z1)]))
  refine s_ifN ST4 (hb hby dAI_7) ((if0 _ _).trans (feq hz2).1) (pc' := 10) rfl ?_
  refine s_aloadN ST4 (hb hby dAI_10) rfl rfl (pc' := 11) rfl ?_
  refine s_iloadN ST4 (hb hby dAI_11) rfl (pc' := 12) rfl ?_
  refine g_newarr (aty := .byte) ST4 (w24 hw) (hb hby dAI_12) (by decide) (cap := 16) (by decide) (by decide) (Nat.le_of_ble_eq_true rfl) (Nat.le_of_ble_eq_true rfl) ?_
  intro T5 h5 b5 kc5 S5 E5 fr5 lt5 na5 sf5 A5
  have V5 : Arv Z h5 b5 kc5 .byte (16 : Int32) (List.replicate 16 (.int (0 : Int32))) (.int (0 : Int32)) := A5 16
  show Go p e below _ (T5.setTop (mkF m 14 #[.val (.ref x), .val (.int (16 : Int32))] [(.ref b5), (.ref x)]))
  show Go p e below _ (T5.setTop (mkF m 14 #[.val (.ref x), .val (.int (16 : Int32))] [(.ref b5), (.ref x)]))
  have Fv7 := Fv.ext E5
  have Ex8 := Ex.ext E5
  have Fk9 := Fk.ext E5
  have Fs10 := Fs.ext E5
  refine g_putF S5 (w25 hw) Via.refl Fv7 Ex8 (Or.inl (w26 hw)) (w10 hw) (ty := (.array .byte)) (v' := (.ref b5)) (by decide) rfl rfl na (Safe.exa S5.warm.alike Ex8 (by decide) (by decide)) (hb hby dAI_14) ?_
  intro T6 h6 S6 K6 W6 A6 F6 sg6
  have sf11 := Safe.keep K6 (sfS (Safe.exa S5.warm.alike Ex8 (by decide) (by decide)) sf0) S5.chv sf5
  have F12 := Fk9.other W6 (Or.inr (slot_ne (Or.inl (w28 hw)) (Or.inl (w26 hw)) (by decide) (t := .byte) (t' := (.array .byte)) (by decide) (by decide)))
  have F13 := Fs10.other W6 (Or.inr (slot_ne (Or.inl (w96 hw)) (Or.inl (w26 hw)) (by decide) (t := .int) (t' := (.array .byte)) (by decide) (by decide)))
  show Go p e below _ (T6.setTop (mkF m 17 #[.val (.ref x), .val (.int (16 : Int32))] []))
  refine s_aloadN S6 (hb hby dAI_17) rfl rfl (pc' := 18) rfl ?_
  refine s_iconst S6 (hb hby dAI_18) (v := (0 : Int32)) rfl (pc' := 19) rfl ?_
  show Go p e below _ (T6.setTop (mkF m 19 #[.val (.ref x), .val (.int (16 : Int32))] [(.int (0 : Int32)), (.ref x)]))
  refine g_putF S6 (w27 hw) Via.refl F12 A6 (Or.inl (w28 hw)) (w10 hw) (ty := .byte) (v' := (.int (0 : Int32))) (by decide) rfl rfl na (Safe.exa S6.warm.alike A6 (by decide) (by decide)) (hb hby dAI_19) ?_
  intro T14 h14 S14 K14 W14 A14 F14 sg14
  have sf15 := Safe.keep K14 (sfS (Safe.exa S6.warm.alike A6 (by decide) (by decide)) sf0) S6.chv sf11
  have F16 := F6.other W14 (Or.inr (slot_ne (Or.inl (w26 hw)) (Or.inl (w28 hw)) (by decide) (t := (.array .byte)) (t' := .byte) (by decide) (by decide)))
  have F17 := F13.other W14 (Or.inr (slot_ne (Or.inl (w96 hw)) (Or.inl (w28 hw)) (by decide) (t := .int) (t' := .byte) (by decide) (by decide)))
  show Go p e below _ (T14.setTop (mkF m 22 #[.val (.ref x), .val (.int (16 : Int32))] []))
  refine s_goto S14 (hb hby dAI_22) (by decide) (pcT := 38) (by decide) ?_
  show Go p e below _ (T14.setTop (mkF m 38 #[.val (.ref x), .val (.int (16 : Int32))] []))
  have KA18 : Keep h h14 [x] := ((((Keep.refl h [x]).ext E5).trans K6 (fun y hy => Or.inl hy)).trans K14 (fun y hy => Or.inl hy))
  have F19 := V5.keep K6 (ninS (Ne.symm (Nat.ne_of_lt (Nat.lt_of_lt_of_le (Nat.lt_of_lt_of_le Ex.lt (Nat.le_refl _)) fr5))) nin0)
  have F20 := F19.keep K14 (ninS (Ne.symm (Nat.ne_of_lt (Nat.lt_of_lt_of_le (Nat.lt_of_lt_of_le Ex.lt (Nat.le_refl _)) fr5))) nin0)
  exact g_retV S14 (hb hby dAI_38) hret (fun sfx => ⟨rfl, b5, _, KA18, na5, Nat.le_of_lt_succ (Nat.lt_succ_of_le fr5), ⟨A14, F16, F14, F17, F20⟩, sfx _ F20.lt sf15⟩)
theorem dSI_0 : decode jdk_67_method_1_code 0 = .ok (.aload_n 0, 1) := by decide +kernel
theorem dSI_1 : decode jdk_67_method_1_code 1 = .ok (.bipush 16, 2) := by decide +kernel
theorem dSI_3 : decode jdk_67_method_1_code 3 = .ok (.invokespecial 1, 3) := by decide +kernel
theorem dSI_6 : decode jdk_67_method_1_code 6 = .ok (.return_, 1) := by decide +kernel
set_option maxRecDepth 65536 in
set_option maxHeartbeats 40000000 in
theorem rmSI {l : Launch} {Z : State} {a0 : Array Value} {n0 : Nat} (X : Ctx Z a0) {x : Addr} {v0 c0 : Value} (na : n0 ≤ x) {h : Heap} (hO : Old Z n0 h) (Ex : Exa Z h x "java/lang/StringBuilder") (Fv : Fld Z h x "java/lang/AbstractStringBuilder" "value" "[B" v0) (Fk : Fld Z h x "java/lang/AbstractStringBuilder" "coder" "B" c0) (Fs : Fld Z h x "java/lang/AbstractStringBuilder" "count" "I" (.int (0 : Int32))) :
    CtrV l Z EL1 n0 (⟨"java/lang/StringBuilder", "<init>", "()V"⟩ : MethodName) jdk_67_method_1_code 1 none ({ frames := 2, cells := 1, slots := 16, locals := 25 } : Room) #[(.ref x)] h [] (fun v h' vm => v = none ∧ ∃ tb kb, Keep h h' [x] ∧ n0 ≤ tb ∧ h.size ≤ tb ∧ SBF Z h' x tb kb (16 : Int32) (0 : Int32) (List.replicate 16 (.int (0 : Int32))) ∧ Safe Z EL1 vm h' tb) := by
  have hw := X.hw
  obtain ⟨z1, hz1, hz2⟩ := X.2.2.1
  refine CtrV.intro (a0 := a0) (plainFor_of_name pn1) hO X.ew ?_
  intro p e s m below meth c T0 V0 S0 hby hml hret hnm hsf
  rw [ef2]
  refine s_aloadN S0 (hb hby dSI_0) rfl rfl (pc' := 1) rfl ?_
  refine s_bipush S0 (hb hby dSI_1) (v := (16 : Int32)) rfl (pc' := 3) rfl ?_
  show Go p e below _ (T0.setTop (mkF m 3 #[.val (.ref x)] [(.int (16 : Int32)), (.ref x)]))
  refine g_special S0 (rmAI X na S0.old Ex Fv Fk Fs) (fun _ q => nomatch q) rfl (w15 hw) (w16 hw) (w19 hw) (w20 hw) (by decide) (hb hby dSI_3) (by rw [hml]; rfl) x [(.int (16 : Int32))] (lenOf pd0 rfl) rfl rfl (Nat.le_of_ble_eq_true rfl) (Nat.le_of_ble_eq_true rfl) (Nat.le_of_ble_eq_true rfl) (Nat.le_of_ble_eq_true rfl) ?_
  intro v21 T21 V21 h21 S21 C21 q21
  obtain ⟨rfl, tb, kb, K1, ntb, frb, F1, sf1_⟩ := q21
  show Go p e below _ (T21.setTop (mkF m 6 #[.val (.ref x)] []))
  show Go p e below _ (T21.setTop (mkF m 6 #[.val (.ref x)] []))
  exact g_retV S21 (hb hby dSI_6) hret (fun sfx => ⟨rfl, tb, kb, K1, ntb, frb, F1, sfx _ F1.2.2.2.2.lt sf1_⟩)
theorem dLN_0 : decode jdk_68_method_6_code 0 = .ok (.aload_n 0, 1) := by decide +kernel
theorem dLN_1 : decode jdk_68_method_6_code 1 = .ok (.getfield 79, 3) := by decide +kernel
theorem dLN_4 : decode jdk_68_method_6_code 4 = .ok (.ireturn, 1) := by decide +kernel
set_option maxRecDepth 65536 in
set_option maxHeartbeats 40000000 in
theorem rmLN {l : Launch} {Z : State} {a0 : Array Value} {n0 : Nat} (X : Ctx Z a0) {x tb : Addr} {sc : Int32} {h : Heap} (hO : Old Z n0 h) (Ex : Exa Z h x "java/lang/StringBuilder") (Fv : Fld Z h x "java/lang/AbstractStringBuilder" "value" "[B" (.ref tb)) (Fk : Fld Z h x "java/lang/AbstractStringBuilder" "coder" "B" (.int (0 : Int32))) (Fs : Fld Z h x "java/lang/AbstractStringBuilder" "count" "I" (.int sc)) :
    Ctr l Z EL1 n0 (⟨"java/lang/AbstractStringBuilder", "length", "()I"⟩ : MethodName) jdk_68_method_6_code 1 (some .int) ({ frames := 0, cells := 0, slots := 0, locals := 0 } : Room) #[(.ref x)] h [] (fun v h' => v = some (.int sc) ∧ h' = h) := by
  have hw := X.hw
  obtain ⟨z1, hz1, hz2⟩ := X.2.2.1
  refine Ctr.intro (a0 := a0) (plainFor_of_name pn0) hO X.ew ?_
  intro p e s m below meth c T0 V0 S0 hby hml hret hnm hsf
  rw [ef2]
  refine s_aloadN S0 (hb hby dLN_0) rfl rfl (pc' := 1) rfl ?_
  refine g_getF S0 (w95 hw) Via.refl Fs (hb hby dLN_1) ?_
  intro T22 ST22
  show Go p e below _ (T22.setTop (mkF m 4 #[.val (.ref x)] [(.int sc)]))
  exact g_iret ST22 (hb hby dLN_4) hret ⟨rfl, rfl⟩
theorem dSL_0 : decode jdk_67_method_93_code 0 = .ok (.aload_n 0, 1) := by decide +kernel
theorem dSL_1 : decode jdk_67_method_93_code 1 = .ok (.invokespecial 343, 3) := by decide +kernel
theorem dSL_4 : decode jdk_67_method_93_code 4 = .ok (.ireturn, 1) := by decide +kernel
set_option maxRecDepth 65536 in
set_option maxHeartbeats 40000000 in
theorem rmSL {l : Launch} {Z : State} {a0 : Array Value} {n0 : Nat} (X : Ctx Z a0) {x tb : Addr} {sc : Int32} {h : Heap} (hO : Old Z n0 h) (Ex : Exa Z h x "java/lang/StringBuilder") (Fv : Fld Z h x "java/lang/AbstractStringBuilder" "value" "[B" (.ref tb)) (Fk : Fld Z h x "java/lang/AbstractStringBuilder" "coder" "B" (.int (0 : Int32))) (Fs : Fld Z h x "java/lang/AbstractStringBuilder" "count" "I" (.int sc)) :
    Ctr l Z EL1 n0 (⟨"java/lang/StringBuilder", "length", "()I"⟩ : MethodName) jdk_67_method_93_code 1 (some .int) ({ frames := 1, cells := 0, slots := 0, locals := 12 } : Room) #[(.ref x)] h [] (fun v h' => v = some (.int sc) ∧ h' = h) := by
  have hw := X.hw
  obtain ⟨z1, hz1, hz2⟩ := X.2.2.1
  refine Ctr.intro (a0 := a0) (plainFor_of_name pn1) hO X.ew ?_
  intro p e s m below meth c T0 V0 S0 hby hml hret hnm hsf
  rw [ef2]
  refine s_aloadN S0 (hb hby dSL_0) rfl rfl (pc' := 1) rfl ?_
  show Go p e below _ (T0.setTop (mkF m 1 #[.val (.ref x)] [(.ref x)]))
  refine g_super S0 (rmLN X S0.old Ex Fv Fk Fs) (fun _ q => nomatch q) (by decide) (w127 hw) (ni_sel (w100 hw) rfl) (w128 hw) (w82 hw) (w19 hw) (w130 hw) (by decide) (hb hby dSL_1) (by rw [hml]; rfl) x Ex [] (lenOf pd1 rfl) rfl rfl (Nat.le_of_ble_eq_true rfl) (Nat.le_of_ble_eq_true rfl) (Nat.le_of_ble_eq_true rfl) (Nat.le_of_ble_eq_true rfl) ?_
  intro v23 T23 V23 h23 S23 C23 q23
  obtain ⟨rfl, rfl⟩ := q23
  show Go p e below _ (T23.setTop (mkF m 4 #[.val (.ref x)] [(.int sc)]))
  exact g_iret S23 (hb hby dSL_4) hret ⟨rfl, rfl⟩
theorem dIL_0 : decode jdk_68_method_68_code 0 = .ok (.getstatic 18, 3) := by decide +kernel
theorem dIL_3 : decode jdk_68_method_68_code 3 = .ok (.ifCond .eq 14, 3) := by decide +kernel
theorem dIL_6 : decode jdk_68_method_68_code 6 = .ok (.aload_n 0, 1) := by decide +kernel
theorem dIL_7 : decode jdk_68_method_68_code 7 = .ok (.getfield 22, 3) := by decide +kernel
theorem dIL_10 : decode jdk_68_method_68_code 10 = .ok (.ifCond .ne 7, 3) := by decide +kernel
theorem dIL_13 : decode jdk_68_method_68_code 13 = .ok (.iconst 1, 1) := by decide +kernel
theorem dIL_14 : decode jdk_68_method_68_code 14 = .ok (.goto 4, 3) := by decide +kernel
theorem dIL_18 : decode jdk_68_method_68_code 18 = .ok (.ireturn, 1) := by decide +kernel
set_option maxRecDepth 65536 in
set_option maxHeartbeats 40000000 in
theorem rmIL {l : Launch} {Z : State} {a0 : Array Value} {n0 : Nat} (X : Ctx Z a0) {x tb : Addr} {sc : Int32} {h : Heap} (hO : Old Z n0 h) (Ex : Exa Z h x "java/lang/StringBuilder") (Fv : Fld Z h x "java/lang/AbstractStringBuilder" "value" "[B" (.ref tb)) (Fk : Fld Z h x "java/lang/AbstractStringBuilder" "coder" "B" (.int (0 : Int32))) (Fs : Fld Z h x "java/lang/AbstractStringBuilder" "count" "I" (.int sc)) :
    Ctr l Z EL1 n0 (⟨"java/lang/AbstractStringBuilder", "isLatin1", "()Z"⟩ : MethodName) jdk_68_method_68_code 1 (some .boolean) ({ frames := 0, cells := 0, slots := 0, locals := 0 } : Room) #[(.ref x)] h [] (fun v h' => v = some (.int 1) ∧ h' = h) := by
  have hw := X.hw
  obtain ⟨z1, hz1, hz2⟩ := X.2.2.1
  refine Ctr.intro (a0 := a0) (plainFor_of_name pn0) hO X.ew ?_
  intro p e s m below meth c T0 V0 S0 hby hml hret hnm hsf
  rw [ef2]
  refine g_getS S0 (w22 hw) Via.refl (hz1.ext S0.old.2) (hb hby dIL_0) ?_
  intro T24 ST24
  show Go p e below _ (T24.setTop (mkF m 3 #[.val (.ref x)] [(.int z1)]))
  refine s_ifN ST24 (hb hby dIL_3) ((if0 _ _).trans (feq hz2).1) (pc' := 6) rfl ?_
  refine s_aloadN ST24 (hb hby dIL_6) rfl rfl (pc' := 7) rfl ?_
  refine g_getF ST24 (w27 hw) Via.refl Fk (hb hby dIL_7) ?_
  intro T25 ST25
  show Go p e below _ (T25.setTop (mkF m 10 #[.val (.ref x)] [(.int (0 : Int32))]))
  refine s_ifN ST25 (hb hby dIL_10) (by decide) (pc' := 13) rfl ?_
  refine s_iconst ST25 (hb hby dIL_13) (v := (1 : Int32)) rfl (pc' := 14) rfl ?_
  refine s_goto ST25 (hb hby dIL_14) (by decide) (pcT := 18) (by decide) ?_
  exact g_iretN ST25 (hb hby dIL_18) hret (by simp) ⟨rfl, rfl⟩
theorem dCF003r_0 : decode jdk_41_method_12_code 0 = .ok (.iload_n 0, 1) := by decide +kernel
theorem dCF003r_1 : decode jdk_41_method_12_code 1 = .ok (.ifCond .lt 13, 3) := by decide +kernel
theorem dCF003r_4 : decode jdk_41_method_12_code 4 = .ok (.iload_n 0, 1) := by decide +kernel
theorem dCF003r_5 : decode jdk_41_method_12_code 5 = .ok (.iload_n 1, 1) := by decide +kernel
theorem dCF003r_6 : decode jdk_41_method_12_code 6 = .ok (.if_icmp .gt 8, 3) := by decide +kernel
theorem dCF003r_9 : decode jdk_41_method_12_code 9 = .ok (.iload_n 1, 1) := by decide +kernel
theorem dCF003r_10 : decode jdk_41_method_12_code 10 = .ok (.iload_n 2, 1) := by decide +kernel
theorem dCF003r_11 : decode jdk_41_method_12_code 11 = .ok (.if_icmp .le 11, 3) := by decide +kernel
theorem dCF003r_22 : decode jdk_41_method_12_code 22 = .ok (.iload_n 0, 1) := by decide +kernel
theorem dCF003r_23 : decode jdk_41_method_12_code 23 = .ok (.ireturn, 1) := by decide +kernel
set_option maxRecDepth 65536 in
set_option maxHeartbeats 40000000 in
theorem rmCF003r {l : Launch} {Z : State} {a0 : Array Value} {n0 : Nat} (X : Ctx Z a0) (fb : Addr) {h : Heap} (hO : Old Z n0 h)  :
    Ctr l Z EL1 n0 (⟨"jdk/internal/util/Preconditions", "checkFromToIndex", "(IIILjava/util/function/BiFunction;)I"⟩ : MethodName) jdk_41_method_12_code 4 (some .int) ({ frames := 0, cells := 0, slots := 0, locals := 0 } : Room) #[(.int (0 : Int32)), (.int (0 : Int32)), (.int (3 : Int32)), (.ref fb)] h [] (fun v h' => v = some (.int (0 : Int32)) ∧ h' = h) := by
  have hw := X.hw
  obtain ⟨z1, hz1, hz2⟩ := X.2.2.1
  refine Ctr.intro (a0 := a0) (plainFor_of_name pn2) hO X.ew ?_
  intro p e s m below meth c T0 V0 S0 hby hml hret hnm hsf
  rw [ef3]
  refine s_iloadN S0 (hb hby dCF003r_0) rfl (pc' := 1) rfl ?_
  refine s_ifN S0 (hb hby dCF003r_1) (by decide) (pc' := 4) rfl ?_
  refine s_iloadN S0 (hb hby dCF003r_4) rfl (pc' := 5) rfl ?_
  refine s_iloadN S0 (hb hby dCF003r_5) rfl (pc' := 6) rfl ?_
  refine s_icmpN S0 (hb hby dCF003r_6) (by decide) (pc' := 9) rfl ?_
  refine s_iloadN S0 (hb hby dCF003r_9) rfl (pc' := 10) rfl ?_
  refine s_iloadN S0 (hb hby dCF003r_10) rfl (pc' := 11) rfl ?_
  refine s_icmpY S0 (hb hby dCF003r_11) (by decide) (by decide) (pcT := 22) (by decide) ?_
  refine s_iloadN S0 (hb hby dCF003r_22) rfl (pc' := 23) rfl ?_
  exact g_iret S0 (hb hby dCF003r_23) hret ⟨rfl, rfl⟩
theorem dCF003n_0 : decode jdk_41_method_12_code 0 = .ok (.iload_n 0, 1) := by decide +kernel
theorem dCF003n_1 : decode jdk_41_method_12_code 1 = .ok (.ifCond .lt 13, 3) := by decide +kernel
theorem dCF003n_4 : decode jdk_41_method_12_code 4 = .ok (.iload_n 0, 1) := by decide +kernel
theorem dCF003n_5 : decode jdk_41_method_12_code 5 = .ok (.iload_n 1, 1) := by decide +kernel
theorem dCF003n_6 : decode jdk_41_method_12_code 6 = .ok (.if_icmp .gt 8, 3) := by decide +kernel
theorem dCF003n_9 : decode jdk_41_method_12_code 9 = .ok (.iload_n 1, 1) := by decide +kernel
theorem dCF003n_10 : decode jdk_41_method_12_code 10 = .ok (.iload_n 2, 1) := by decide +kernel
theorem dCF003n_11 : decode jdk_41_method_12_code 11 = .ok (.if_icmp .le 11, 3) := by decide +kernel
theorem dCF003n_22 : decode jdk_41_method_12_code 22 = .ok (.iload_n 0, 1) := by decide +kernel
theorem dCF003n_23 : decode jdk_41_method_12_code 23 = .ok (.ireturn, 1) := by decide +kernel
set_option maxRecDepth 65536 in
set_option maxHeartbeats 40000000 in
theorem rmCF003n {l : Launch} {Z : State} {a0 : Array Value} {n0 : Nat} (X : Ctx Z a0)  {h : Heap} (hO : Old Z n0 h)  :
    Ctr l Z EL1 n0 (⟨"jdk/internal/util/Preconditions", "checkFromToIndex", "(IIILjava/util/function/BiFunction;)I"⟩ : MethodName) jdk_41_method_12_code 4 (some .int) ({ frames := 0, cells := 0, slots := 0, locals := 0 } : Room) #[(.int (0 : Int32)), (.int (0 : Int32)), (.int (3 : Int32)), .null] h [] (fun v h' => v = some (.int (0 : Int32)) ∧ h' = h) := by
  have hw := X.hw
  obtain ⟨z1, hz1, hz2⟩ := X.2.2.1
  refine Ctr.intro (a0 := a0) (plainFor_of_name pn2) hO X.ew ?_
  intro p e s m below meth c T0 V0 S0 hby hml hret hnm hsf
  rw [ef4]
  refine s_iloadN S0 (hb hby dCF003n_0) rfl (pc' := 1) rfl ?_
  refine s_ifN S0 (hb hby dCF003n_1) (by decide) (pc' := 4) rfl ?_
  refine s_iloadN S0 (hb hby dCF003n_4) rfl (pc' := 5) rfl ?_
  refine s_iloadN S0 (hb hby dCF003n_5) rfl (pc' := 6) rfl ?_
  refine s_icmpN S0 (hb hby dCF003n_6) (by decide) (pc' := 9) rfl ?_
  refine s_iloadN S0 (hb hby dCF003n_9) rfl (pc' := 10) rfl ?_
  refine s_iloadN S0 (hb hby dCF003n_10) rfl (pc' := 11) rfl ?_
  refine s_icmpY S0 (hb hby dCF003n_11) (by decide) (by decide) (pcT := 22) (by decide) ?_
  refine s_iloadN S0 (hb hby dCF003n_22) rfl (pc' := 23) rfl ?_
  exact g_iret S0 (hb hby dCF003n_23) hret ⟨rfl, rfl⟩
theorem dCF013r_0 : decode jdk_41_method_12_code 0 = .ok (.iload_n 0, 1) := by decide +kernel
theorem dCF013r_1 : decode jdk_41_method_12_code 1 = .ok (.ifCond .lt 13, 3) := by decide +kernel
theorem dCF013r_4 : decode jdk_41_method_12_code 4 = .ok (.iload_n 0, 1) := by decide +kernel
theorem dCF013r_5 : decode jdk_41_method_12_code 5 = .ok (.iload_n 1, 1) := by decide +kernel
theorem dCF013r_6 : decode jdk_41_method_12_code 6 = .ok (.if_icmp .gt 8, 3) := by decide +kernel
theorem dCF013r_9 : decode jdk_41_method_12_code 9 = .ok (.iload_n 1, 1) := by decide +kernel
theorem dCF013r_10 : decode jdk_41_method_12_code 10 = .ok (.iload_n 2, 1) := by decide +kernel
theorem dCF013r_11 : decode jdk_41_method_12_code 11 = .ok (.if_icmp .le 11, 3) := by decide +kernel
theorem dCF013r_22 : decode jdk_41_method_12_code 22 = .ok (.iload_n 0, 1) := by decide +kernel
theorem dCF013r_23 : decode jdk_41_method_12_code 23 = .ok (.ireturn, 1) := by decide +kernel
set_option maxRecDepth 65536 in
set_option maxHeartbeats 40000000 in
theorem rmCF013r {l : Launch} {Z : State} {a0 : Array Value} {n0 : Nat} (X : Ctx Z a0) (fb : Addr) {h : Heap} (hO : Old Z n0 h)  :
    Ctr l Z EL1 n0 (⟨"jdk/internal/util/Preconditions", "checkFromToIndex", "(IIILjava/util/function/BiFunction;)I"⟩ : MethodName) jdk_41_method_12_code 4 (some .int) ({ frames := 0, cells := 0, slots := 0, locals := 0 } : Room) #[(.int (0 : Int32)), (.int (1 : Int32)), (.int (3 : Int32)), (.ref fb)] h [] (fun v h' => v = some (.int (0 : Int32)) ∧ h' = h) := by
  have hw := X.hw
  obtain ⟨z1, hz1, hz2⟩ := X.2.2.1
  refine Ctr.intro (a0 := a0) (plainFor_of_name pn2) hO X.ew ?_
  intro p e s m below meth c T0 V0 S0 hby hml hret hnm hsf
  rw [ef3]
  refine s_iloadN S0 (hb hby dCF013r_0) rfl (pc' := 1) rfl ?_
  refine s_ifN S0 (hb hby dCF013r_1) (by decide) (pc' := 4) rfl ?_
  refine s_iloadN S0 (hb hby dCF013r_4) rfl (pc' := 5) rfl ?_
  refine s_iloadN S0 (hb hby dCF013r_5) rfl (pc' := 6) rfl ?_
  refine s_icmpN S0 (hb hby dCF013r_6) (by decide) (pc' := 9) rfl ?_
  refine s_iloadN S0 (hb hby dCF013r_9) rfl (pc' := 10) rfl ?_
  refine s_iloadN S0 (hb hby dCF013r_10) rfl (pc' := 11) rfl ?_
  refine s_icmpY S0 (hb hby dCF013r_11) (by decide) (by decide) (pcT := 22) (by decide) ?_
  refine s_iloadN S0 (hb hby dCF013r_22) rfl (pc' := 23) rfl ?_
  exact g_iret S0 (hb hby dCF013r_23) hret ⟨rfl, rfl⟩
theorem dCF013n_0 : decode jdk_41_method_12_code 0 = .ok (.iload_n 0, 1) := by decide +kernel
theorem dCF013n_1 : decode jdk_41_method_12_code 1 = .ok (.ifCond .lt 13, 3) := by decide +kernel
theorem dCF013n_4 : decode jdk_41_method_12_code 4 = .ok (.iload_n 0, 1) := by decide +kernel
theorem dCF013n_5 : decode jdk_41_method_12_code 5 = .ok (.iload_n 1, 1) := by decide +kernel
theorem dCF013n_6 : decode jdk_41_method_12_code 6 = .ok (.if_icmp .gt 8, 3) := by decide +kernel
theorem dCF013n_9 : decode jdk_41_method_12_code 9 = .ok (.iload_n 1, 1) := by decide +kernel
theorem dCF013n_10 : decode jdk_41_method_12_code 10 = .ok (.iload_n 2, 1) := by decide +kernel
theorem dCF013n_11 : decode jdk_41_method_12_code 11 = .ok (.if_icmp .le 11, 3) := by decide +kernel
theorem dCF013n_22 : decode jdk_41_method_12_code 22 = .ok (.iload_n 0, 1) := by decide +kernel
theorem dCF013n_23 : decode jdk_41_method_12_code 23 = .ok (.ireturn, 1) := by decide +kernel
set_option maxRecDepth 65536 in
set_option maxHeartbeats 40000000 in
theorem rmCF013n {l : Launch} {Z : State} {a0 : Array Value} {n0 : Nat} (X : Ctx Z a0)  {h : Heap} (hO : Old Z n0 h)  :
    Ctr l Z EL1 n0 (⟨"jdk/internal/util/Preconditions", "checkFromToIndex", "(IIILjava/util/function/BiFunction;)I"⟩ : MethodName) jdk_41_method_12_code 4 (some .int) ({ frames := 0, cells := 0, slots := 0, locals := 0 } : Room) #[(.int (0 : Int32)), (.int (1 : Int32)), (.int (3 : Int32)), .null] h [] (fun v h' => v = some (.int (0 : Int32)) ∧ h' = h) := by
  have hw := X.hw
  obtain ⟨z1, hz1, hz2⟩ := X.2.2.1
  refine Ctr.intro (a0 := a0) (plainFor_of_name pn2) hO X.ew ?_
  intro p e s m below meth c T0 V0 S0 hby hml hret hnm hsf
  rw [ef4]
  refine s_iloadN S0 (hb hby dCF013n_0) rfl (pc' := 1) rfl ?_
  refine s_ifN S0 (hb hby dCF013n_1) (by decide) (pc' := 4) rfl ?_
  refine s_iloadN S0 (hb hby dCF013n_4) rfl (pc' := 5) rfl ?_
  refine s_iloadN S0 (hb hby dCF013n_5) rfl (pc' := 6) rfl ?_
  refine s_icmpN S0 (hb hby dCF013n_6) (by decide) (pc' := 9) rfl ?_
  refine s_iloadN S0 (hb hby dCF013n_9) rfl (pc' := 10) rfl ?_
  refine s_iloadN S0 (hb hby dCF013n_10) rfl (pc' := 11) rfl ?_
  refine s_icmpY S0 (hb hby dCF013n_11) (by decide) (by decide) (pcT := 22) (by decide) ?_
  refine s_iloadN S0 (hb hby dCF013n_22) rfl (pc' := 23) rfl ?_
  exact g_iret S0 (hb hby dCF013n_23) hret ⟨rfl, rfl⟩
theorem dCF023r_0 : decode jdk_41_method_12_code 0 = .ok (.iload_n 0, 1) := by decide +kernel
theorem dCF023r_1 : decode jdk_41_method_12_code 1 = .ok (.ifCond .lt 13, 3) := by decide +kernel
theorem dCF023r_4 : decode jdk_41_method_12_code 4 = .ok (.iload_n 0, 1) := by decide +kernel
theorem dCF023r_5 : decode jdk_41_method_12_code 5 = .ok (.iload_n 1, 1) := by decide +kernel
theorem dCF023r_6 : decode jdk_41_method_12_code 6 = .ok (.if_icmp .gt 8, 3) := by decide +kernel
theorem dCF023r_9 : decode jdk_41_method_12_code 9 = .ok (.iload_n 1, 1) := by decide +kernel
theorem dCF023r_10 : decode jdk_41_method_12_code 10 = .ok (.iload_n 2, 1) := by decide +kernel
theorem dCF023r_11 : decode jdk_41_method_12_code 11 = .ok (.if_icmp .le 11, 3) := by decide +kernel
theorem dCF023r_22 : decode jdk_41_method_12_code 22 = .ok (.iload_n 0, 1) := by decide +kernel
theorem dCF023r_23 : decode jdk_41_method_12_code 23 = .ok (.ireturn, 1) := by decide +kernel
set_option maxRecDepth 65536 in
set_option maxHeartbeats 40000000 in
theorem rmCF023r {l : Launch} {Z : State} {a0 : Array Value} {n0 : Nat} (X : Ctx Z a0) (fb : Addr) {h : Heap} (hO : Old Z n0 h)  :
    Ctr l Z EL1 n0 (⟨"jdk/internal/util/Preconditions", "checkFromToIndex", "(IIILjava/util/function/BiFunction;)I"⟩ : MethodName) jdk_41_method_12_code 4 (some .int) ({ frames := 0, cells := 0, slots := 0, locals := 0 } : Room) #[(.int (0 : Int32)), (.int (2 : Int32)), (.int (3 : Int32)), (.ref fb)] h [] (fun v h' => v = some (.int (0 : Int32)) ∧ h' = h) := by
  have hw := X.hw
  obtain ⟨z1, hz1, hz2⟩ := X.2.2.1
  refine Ctr.intro (a0 := a0) (plainFor_of_name pn2) hO X.ew ?_
  intro p e s m below meth c T0 V0 S0 hby hml hret hnm hsf
  rw [ef3]
  refine s_iloadN S0 (hb hby dCF023r_0) rfl (pc' := 1) rfl ?_
  refine s_ifN S0 (hb hby dCF023r_1) (by decide) (pc' := 4) rfl ?_
  refine s_iloadN S0 (hb hby dCF023r_4) rfl (pc' := 5) rfl ?_
  refine s_iloadN S0 (hb hby dCF023r_5) rfl (pc' := 6) rfl ?_
  refine s_icmpN S0 (hb hby dCF023r_6) (by decide) (pc' := 9) rfl ?_
  refine s_iloadN S0 (hb hby dCF023r_9) rfl (pc' := 10) rfl ?_
  refine s_iloadN S0 (hb hby dCF023r_10) rfl (pc' := 11) rfl ?_
  refine s_icmpY S0 (hb hby dCF023r_11) (by decide) (by decide) (pcT := 22) (by decide) ?_
  refine s_iloadN S0 (hb hby dCF023r_22) rfl (pc' := 23) rfl ?_
  exact g_iret S0 (hb hby dCF023r_23) hret ⟨rfl, rfl⟩
theorem dCF023n_0 : decode jdk_41_method_12_code 0 = .ok (.iload_n 0, 1) := by decide +kernel
theorem dCF023n_1 : decode jdk_41_method_12_code 1 = .ok (.ifCond .lt 13, 3) := by decide +kernel
theorem dCF023n_4 : decode jdk_41_method_12_code 4 = .ok (.iload_n 0, 1) := by decide +kernel
theorem dCF023n_5 : decode jdk_41_method_12_code 5 = .ok (.iload_n 1, 1) := by decide +kernel
theorem dCF023n_6 : decode jdk_41_method_12_code 6 = .ok (.if_icmp .gt 8, 3) := by decide +kernel
theorem dCF023n_9 : decode jdk_41_method_12_code 9 = .ok (.iload_n 1, 1) := by decide +kernel
theorem dCF023n_10 : decode jdk_41_method_12_code 10 = .ok (.iload_n 2, 1) := by decide +kernel
theorem dCF023n_11 : decode jdk_41_method_12_code 11 = .ok (.if_icmp .le 11, 3) := by decide +kernel
theorem dCF023n_22 : decode jdk_41_method_12_code 22 = .ok (.iload_n 0, 1) := by decide +kernel
theorem dCF023n_23 : decode jdk_41_method_12_code 23 = .ok (.ireturn, 1) := by decide +kernel
set_option maxRecDepth 65536 in
set_option maxHeartbeats 40000000 in
theorem rmCF023n {l : Launch} {Z : State} {a0 : Array Value} {n0 : Nat} (X : Ctx Z a0)  {h : Heap} (hO : Old Z n0 h)  :
    Ctr l Z EL1 n0 (⟨"jdk/internal/util/Preconditions", "checkFromToIndex", "(IIILjava/util/function/BiFunction;)I"⟩ : MethodName) jdk_41_method_12_code 4 (some .int) ({ frames := 0, cells := 0, slots := 0, locals := 0 } : Room) #[(.int (0 : Int32)), (.int (2 : Int32)), (.int (3 : Int32)), .null] h [] (fun v h' => v = some (.int (0 : Int32)) ∧ h' = h) := by
  have hw := X.hw
  obtain ⟨z1, hz1, hz2⟩ := X.2.2.1
  refine Ctr.intro (a0 := a0) (plainFor_of_name pn2) hO X.ew ?_
  intro p e s m below meth c T0 V0 S0 hby hml hret hnm hsf
  rw [ef4]
  refine s_iloadN S0 (hb hby dCF023n_0) rfl (pc' := 1) rfl ?_
  refine s_ifN S0 (hb hby dCF023n_1) (by decide) (pc' := 4) rfl ?_
  refine s_iloadN S0 (hb hby dCF023n_4) rfl (pc' := 5) rfl ?_
  refine s_iloadN S0 (hb hby dCF023n_5) rfl (pc' := 6) rfl ?_
  refine s_icmpN S0 (hb hby dCF023n_6) (by decide) (pc' := 9) rfl ?_
  refine s_iloadN S0 (hb hby dCF023n_9) rfl (pc' := 10) rfl ?_
  refine s_iloadN S0 (hb hby dCF023n_10) rfl (pc' := 11) rfl ?_
  refine s_icmpY S0 (hb hby dCF023n_11) (by decide) (by decide) (pcT := 22) (by decide) ?_
  refine s_iloadN S0 (hb hby dCF023n_22) rfl (pc' := 23) rfl ?_
  exact g_iret S0 (hb hby dCF023n_23) hret ⟨rfl, rfl⟩
theorem dCF113r_0 : decode jdk_41_method_12_code 0 = .ok (.iload_n 0, 1) := by decide +kernel
theorem dCF113r_1 : decode jdk_41_method_12_code 1 = .ok (.ifCond .lt 13, 3) := by decide +kernel
theorem dCF113r_4 : decode jdk_41_method_12_code 4 = .ok (.iload_n 0, 1) := by decide +kernel
theorem dCF113r_5 : decode jdk_41_method_12_code 5 = .ok (.iload_n 1, 1) := by decide +kernel
theorem dCF113r_6 : decode jdk_41_method_12_code 6 = .ok (.if_icmp .gt 8, 3) := by decide +kernel
theorem dCF113r_9 : decode jdk_41_method_12_code 9 = .ok (.iload_n 1, 1) := by decide +kernel
theorem dCF113r_10 : decode jdk_41_method_12_code 10 = .ok (.iload_n 2, 1) := by decide +kernel
theorem dCF113r_11 : decode jdk_41_method_12_code 11 = .ok (.if_icmp .le 11, 3) := by decide +kernel
theorem dCF113r_22 : decode jdk_41_method_12_code 22 = .ok (.iload_n 0, 1) := by decide +kernel
theorem dCF113r_23 : decode jdk_41_method_12_code 23 = .ok (.ireturn, 1) := by decide +kernel
set_option maxRecDepth 65536 in
set_option maxHeartbeats 40000000 in
theorem rmCF113r {l : Launch} {Z : State} {a0 : Array Value} {n0 : Nat} (X : Ctx Z a0) (fb : Addr) {h : Heap} (hO : Old Z n0 h)  :
    Ctr l Z EL1 n0 (⟨"jdk/internal/util/Preconditions", "checkFromToIndex", "(IIILjava/util/function/BiFunction;)I"⟩ : MethodName) jdk_41_method_12_code 4 (some .int) ({ frames := 0, cells := 0, slots := 0, locals := 0 } : Room) #[(.int (1 : Int32)), (.int (1 : Int32)), (.int (3 : Int32)), (.ref fb)] h [] (fun v h' => v = some (.int (1 : Int32)) ∧ h' = h) := by
  have hw := X.hw
  obtain ⟨z1, hz1, hz2⟩ := X.2.2.1
  refine Ctr.intro (a0 := a0) (plainFor_of_name pn2) hO X.ew ?_
  intro p e s m below meth c T0 V0 S0 hby hml hret hnm hsf
  rw [ef3]
  refine s_iloadN S0 (hb hby dCF113r_0) rfl (pc' := 1) rfl ?_
  refine s_ifN S0 (hb hby dCF113r_1) (by decide) (pc' := 4) rfl ?_
  refine s_iloadN S0 (hb hby dCF113r_4) rfl (pc' := 5) rfl ?_
  refine s_iloadN S0 (hb hby dCF113r_5) rfl (pc' := 6) rfl ?_
  refine s_icmpN S0 (hb hby dCF113r_6) (by decide) (pc' := 9) rfl ?_
  refine s_iloadN S0 (hb hby dCF113r_9) rfl (pc' := 10) rfl ?_
  refine s_iloadN S0 (hb hby dCF113r_10) rfl (pc' := 11) rfl ?_
  refine s_icmpY S0 (hb hby dCF113r_11) (by decide) (by decide) (pcT := 22) (by decide) ?_
  refine s_iloadN S0 (hb hby dCF113r_22) rfl (pc' := 23) rfl ?_
  exact g_iret S0 (hb hby dCF113r_23) hret ⟨rfl, rfl⟩
theorem dCF113n_0 : decode jdk_41_method_12_code 0 = .ok (.iload_n 0, 1) := by decide +kernel
theorem dCF113n_1 : decode jdk_41_method_12_code 1 = .ok (.ifCond .lt 13, 3) := by decide +kernel
theorem dCF113n_4 : decode jdk_41_method_12_code 4 = .ok (.iload_n 0, 1) := by decide +kernel
theorem dCF113n_5 : decode jdk_41_method_12_code 5 = .ok (.iload_n 1, 1) := by decide +kernel
theorem dCF113n_6 : decode jdk_41_method_12_code 6 = .ok (.if_icmp .gt 8, 3) := by decide +kernel
theorem dCF113n_9 : decode jdk_41_method_12_code 9 = .ok (.iload_n 1, 1) := by decide +kernel
theorem dCF113n_10 : decode jdk_41_method_12_code 10 = .ok (.iload_n 2, 1) := by decide +kernel
theorem dCF113n_11 : decode jdk_41_method_12_code 11 = .ok (.if_icmp .le 11, 3) := by decide +kernel
theorem dCF113n_22 : decode jdk_41_method_12_code 22 = .ok (.iload_n 0, 1) := by decide +kernel
theorem dCF113n_23 : decode jdk_41_method_12_code 23 = .ok (.ireturn, 1) := by decide +kernel
set_option maxRecDepth 65536 in
set_option maxHeartbeats 40000000 in
theorem rmCF113n {l : Launch} {Z : State} {a0 : Array Value} {n0 : Nat} (X : Ctx Z a0)  {h : Heap} (hO : Old Z n0 h)  :
    Ctr l Z EL1 n0 (⟨"jdk/internal/util/Preconditions", "checkFromToIndex", "(IIILjava/util/function/BiFunction;)I"⟩ : MethodName) jdk_41_method_12_code 4 (some .int) ({ frames := 0, cells := 0, slots := 0, locals := 0 } : Room) #[(.int (1 : Int32)), (.int (1 : Int32)), (.int (3 : Int32)), .null] h [] (fun v h' => v = some (.int (1 : Int32)) ∧ h' = h) := by
  have hw := X.hw
  obtain ⟨z1, hz1, hz2⟩ := X.2.2.1
  refine Ctr.intro (a0 := a0) (plainFor_of_name pn2) hO X.ew ?_
  intro p e s m below meth c T0 V0 S0 hby hml hret hnm hsf
  rw [ef4]
  refine s_iloadN S0 (hb hby dCF113n_0) rfl (pc' := 1) rfl ?_
  refine s_ifN S0 (hb hby dCF113n_1) (by decide) (pc' := 4) rfl ?_
  refine s_iloadN S0 (hb hby dCF113n_4) rfl (pc' := 5) rfl ?_
  refine s_iloadN S0 (hb hby dCF113n_5) rfl (pc' := 6) rfl ?_
  refine s_icmpN S0 (hb hby dCF113n_6) (by decide) (pc' := 9) rfl ?_
  refine s_iloadN S0 (hb hby dCF113n_9) rfl (pc' := 10) rfl ?_
  refine s_iloadN S0 (hb hby dCF113n_10) rfl (pc' := 11) rfl ?_
  refine s_icmpY S0 (hb hby dCF113n_11) (by decide) (by decide) (pcT := 22) (by decide) ?_
  refine s_iloadN S0 (hb hby dCF113n_22) rfl (pc' := 23) rfl ?_
  exact g_iret S0 (hb hby dCF113n_23) hret ⟨rfl, rfl⟩
theorem dCF123r_0 : decode jdk_41_method_12_code 0 = .ok (.iload_n 0, 1) := by decide +kernel
theorem dCF123r_1 : decode jdk_41_method_12_code 1 = .ok (.ifCond .lt 13, 3) := by decide +kernel
theorem dCF123r_4 : decode jdk_41_method_12_code 4 = .ok (.iload_n 0, 1) := by decide +kernel
theorem dCF123r_5 : decode jdk_41_method_12_code 5 = .ok (.iload_n 1, 1) := by decide +kernel
theorem dCF123r_6 : decode jdk_41_method_12_code 6 = .ok (.if_icmp .gt 8, 3) := by decide +kernel
theorem dCF123r_9 : decode jdk_41_method_12_code 9 = .ok (.iload_n 1, 1) := by decide +kernel
theorem dCF123r_10 : decode jdk_41_method_12_code 10 = .ok (.iload_n 2, 1) := by decide +kernel
theorem dCF123r_11 : decode jdk_41_method_12_code 11 = .ok (.if_icmp .le 11, 3) := by decide +kernel
theorem dCF123r_22 : decode jdk_41_method_12_code 22 = .ok (.iload_n 0, 1) := by decide +kernel
theorem dCF123r_23 : decode jdk_41_method_12_code 23 = .ok (.ireturn, 1) := by decide +kernel
set_option maxRecDepth 65536 in
set_option maxHeartbeats 40000000 in
theorem rmCF123r {l : Launch} {Z : State} {a0 : Array Value} {n0 : Nat} (X : Ctx Z a0) (fb : Addr) {h : Heap} (hO : Old Z n0 h)  :
    Ctr l Z EL1 n0 (⟨"jdk/internal/util/Preconditions", "checkFromToIndex", "(IIILjava/util/function/BiFunction;)I"⟩ : MethodName) jdk_41_method_12_code 4 (some .int) ({ frames := 0, cells := 0, slots := 0, locals := 0 } : Room) #[(.int (1 : Int32)), (.int (2 : Int32)), (.int (3 : Int32)), (.ref fb)] h [] (fun v h' => v = some (.int (1 : Int32)) ∧ h' = h) := by
  have hw := X.hw
  obtain ⟨z1, hz1, hz2⟩ := X.2.2.1
  refine Ctr.intro (a0 := a0) (plainFor_of_name pn2) hO X.ew ?_
  intro p e s m below meth c T0 V0 S0 hby hml hret hnm hsf
  rw [ef3]
  refine s_iloadN S0 (hb hby dCF123r_0) rfl (pc' := 1) rfl ?_
  refine s_ifN S0 (hb hby dCF123r_1) (by decide) (pc' := 4) rfl ?_
  refine s_iloadN S0 (hb hby dCF123r_4) rfl (pc' := 5) rfl ?_
  refine s_iloadN S0 (hb hby dCF123r_5) rfl (pc' := 6) rfl ?_
  refine s_icmpN S0 (hb hby dCF123r_6) (by decide) (pc' := 9) rfl ?_
  refine s_iloadN S0 (hb hby dCF123r_9) rfl (pc' := 10) rfl ?_
  refine s_iloadN S0 (hb hby dCF123r_10) rfl (pc' := 11) rfl ?_
  refine s_icmpY S0 (hb hby dCF123r_11) (by decide) (by decide) (pcT := 22) (by decide) ?_
  refine s_iloadN S0 (hb hby dCF123r_22) rfl (pc' := 23) rfl ?_
  exact g_iret S0 (hb hby dCF123r_23) hret ⟨rfl, rfl⟩
theorem dCF123n_0 : decode jdk_41_method_12_code 0 = .ok (.iload_n 0, 1) := by decide +kernel
theorem dCF123n_1 : decode jdk_41_method_12_code 1 = .ok (.ifCond .lt 13, 3) := by decide +kernel
theorem dCF123n_4 : decode jdk_41_method_12_code 4 = .ok (.iload_n 0, 1) := by decide +kernel
theorem dCF123n_5 : decode jdk_41_method_12_code 5 = .ok (.iload_n 1, 1) := by decide +kernel
theorem dCF123n_6 : decode jdk_41_method_12_code 6 = .ok (.if_icmp .gt 8, 3) := by decide +kernel
theorem dCF123n_9 : decode jdk_41_method_12_code 9 = .ok (.iload_n 1, 1) := by decide +kernel
theorem dCF123n_10 : decode jdk_41_method_12_code 10 = .ok (.iload_n 2, 1) := by decide +kernel
theorem dCF123n_11 : decode jdk_41_method_12_code 11 = .ok (.if_icmp .le 11, 3) := by decide +kernel
theorem dCF123n_22 : decode jdk_41_method_12_code 22 = .ok (.iload_n 0, 1) := by decide +kernel
theorem dCF123n_23 : decode jdk_41_method_12_code 23 = .ok (.ireturn, 1) := by decide +kernel
set_option maxRecDepth 65536 in
set_option maxHeartbeats 40000000 in
theorem rmCF123n {l : Launch} {Z : State} {a0 : Array Value} {n0 : Nat} (X : Ctx Z a0)  {h : Heap} (hO : Old Z n0 h)  :
    Ctr l Z EL1 n0 (⟨"jdk/internal/util/Preconditions", "checkFromToIndex", "(IIILjava/util/function/BiFunction;)I"⟩ : MethodName) jdk_41_method_12_code 4 (some .int) ({ frames := 0, cells := 0, slots := 0, locals := 0 } : Room) #[(.int (1 : Int32)), (.int (2 : Int32)), (.int (3 : Int32)), .null] h [] (fun v h' => v = some (.int (1 : Int32)) ∧ h' = h) := by
  have hw := X.hw
  obtain ⟨z1, hz1, hz2⟩ := X.2.2.1
  refine Ctr.intro (a0 := a0) (plainFor_of_name pn2) hO X.ew ?_
  intro p e s m below meth c T0 V0 S0 hby hml hret hnm hsf
  rw [ef4]
  refine s_iloadN S0 (hb hby dCF123n_0) rfl (pc' := 1) rfl ?_
  refine s_ifN S0 (hb hby dCF123n_1) (by decide) (pc' := 4) rfl ?_
  refine s_iloadN S0 (hb hby dCF123n_4) rfl (pc' := 5) rfl ?_
  refine s_iloadN S0 (hb hby dCF123n_5) rfl (pc' := 6) rfl ?_
  refine s_icmpN S0 (hb hby dCF123n_6) (by decide) (pc' := 9) rfl ?_
  refine s_iloadN S0 (hb hby dCF123n_9) rfl (pc' := 10) rfl ?_
  refine s_iloadN S0 (hb hby dCF123n_10) rfl (pc' := 11) rfl ?_
  refine s_icmpY S0 (hb hby dCF123n_11) (by decide) (by decide) (pcT := 22) (by decide) ?_
  refine s_iloadN S0 (hb hby dCF123n_22) rfl (pc' := 23) rfl ?_
  exact g_iret S0 (hb hby dCF123n_23) hret ⟨rfl, rfl⟩
theorem dCF133r_0 : decode jdk_41_method_12_code 0 = .ok (.iload_n 0, 1) := by decide +kernel
theorem dCF133r_1 : decode jdk_41_method_12_code 1 = .ok (.ifCond .lt 13, 3) := by decide +kernel
theorem dCF133r_4 : decode jdk_41_method_12_code 4 = .ok (.iload_n 0, 1) := by decide +kernel
theorem dCF133r_5 : decode jdk_41_method_12_code 5 = .ok (.iload_n 1, 1) := by decide +kernel
theorem dCF133r_6 : decode jdk_41_method_12_code 6 = .ok (.if_icmp .gt 8, 3) := by decide +kernel
theorem dCF133r_9 : decode jdk_41_method_12_code 9 = .ok (.iload_n 1, 1) := by decide +kernel
theorem dCF133r_10 : decode jdk_41_method_12_code 10 = .ok (.iload_n 2, 1) := by decide +kernel
theorem dCF133r_11 : decode jdk_41_method_12_code 11 = .ok (.if_icmp .le 11, 3) := by decide +kernel
theorem dCF133r_22 : decode jdk_41_method_12_code 22 = .ok (.iload_n 0, 1) := by decide +kernel
theorem dCF133r_23 : decode jdk_41_method_12_code 23 = .ok (.ireturn, 1) := by decide +kernel
set_option maxRecDepth 65536 in
set_option maxHeartbeats 40000000 in
theorem rmCF133r {l : Launch} {Z : State} {a0 : Array Value} {n0 : Nat} (X : Ctx Z a0) (fb : Addr) {h : Heap} (hO : Old Z n0 h)  :
    Ctr l Z EL1 n0 (⟨"jdk/internal/util/Preconditions", "checkFromToIndex", "(IIILjava/util/function/BiFunction;)I"⟩ : MethodName) jdk_41_method_12_code 4 (some .int) ({ frames := 0, cells := 0, slots := 0, locals := 0 } : Room) #[(.int (1 : Int32)), (.int (3 : Int32)), (.int (3 : Int32)), (.ref fb)] h [] (fun v h' => v = some (.int (1 : Int32)) ∧ h' = h) := by
  have hw := X.hw
  obtain ⟨z1, hz1, hz2⟩ := X.2.2.1
  refine Ctr.intro (a0 := a0) (plainFor_of_name pn2) hO X.ew ?_
  intro p e s m below meth c T0 V0 S0 hby hml hret hnm hsf
  rw [ef3]
  refine s_iloadN S0 (hb hby dCF133r_0) rfl (pc' := 1) rfl ?_
  refine s_ifN S0 (hb hby dCF133r_1) (by decide) (pc' := 4) rfl ?_
  refine s_iloadN S0 (hb hby dCF133r_4) rfl (pc' := 5) rfl ?_
  refine s_iloadN S0 (hb hby dCF133r_5) rfl (pc' := 6) rfl ?_
  refine s_icmpN S0 (hb hby dCF133r_6) (by decide) (pc' := 9) rfl ?_
  refine s_iloadN S0 (hb hby dCF133r_9) rfl (pc' := 10) rfl ?_
  refine s_iloadN S0 (hb hby dCF133r_10) rfl (pc' := 11) rfl ?_
  refine s_icmpY S0 (hb hby dCF133r_11) (by decide) (by decide) (pcT := 22) (by decide) ?_
  refine s_iloadN S0 (hb hby dCF133r_22) rfl (pc' := 23) rfl ?_
  exact g_iret S0 (hb hby dCF133r_23) hret ⟨rfl, rfl⟩
theorem dCF133n_0 : decode jdk_41_method_12_code 0 = .ok (.iload_n 0, 1) := by decide +kernel
theorem dCF133n_1 : decode jdk_41_method_12_code 1 = .ok (.ifCond .lt 13, 3) := by decide +kernel
theorem dCF133n_4 : decode jdk_41_method_12_code 4 = .ok (.iload_n 0, 1) := by decide +kernel
theorem dCF133n_5 : decode jdk_41_method_12_code 5 = .ok (.iload_n 1, 1) := by decide +kernel
theorem dCF133n_6 : decode jdk_41_method_12_code 6 = .ok (.if_icmp .gt 8, 3) := by decide +kernel
theorem dCF133n_9 : decode jdk_41_method_12_code 9 = .ok (.iload_n 1, 1) := by decide +kernel
theorem dCF133n_10 : decode jdk_41_method_12_code 10 = .ok (.iload_n 2, 1) := by decide +kernel
theorem dCF133n_11 : decode jdk_41_method_12_code 11 = .ok (.if_icmp .le 11, 3) := by decide +kernel
theorem dCF133n_22 : decode jdk_41_method_12_code 22 = .ok (.iload_n 0, 1) := by decide +kernel
theorem dCF133n_23 : decode jdk_41_method_12_code 23 = .ok (.ireturn, 1) := by decide +kernel
set_option maxRecDepth 65536 in
set_option maxHeartbeats 40000000 in
theorem rmCF133n {l : Launch} {Z : State} {a0 : Array Value} {n0 : Nat} (X : Ctx Z a0)  {h : Heap} (hO : Old Z n0 h)  :
    Ctr l Z EL1 n0 (⟨"jdk/internal/util/Preconditions", "checkFromToIndex", "(IIILjava/util/function/BiFunction;)I"⟩ : MethodName) jdk_41_method_12_code 4 (some .int) ({ frames := 0, cells := 0, slots := 0, locals := 0 } : Room) #[(.int (1 : Int32)), (.int (3 : Int32)), (.int (3 : Int32)), .null] h [] (fun v h' => v = some (.int (1 : Int32)) ∧ h' = h) := by
  have hw := X.hw
  obtain ⟨z1, hz1, hz2⟩ := X.2.2.1
  refine Ctr.intro (a0 := a0) (plainFor_of_name pn2) hO X.ew ?_
  intro p e s m below meth c T0 V0 S0 hby hml hret hnm hsf
  rw [ef4]
  refine s_iloadN S0 (hb hby dCF133n_0) rfl (pc' := 1) rfl ?_
  refine s_ifN S0 (hb hby dCF133n_1) (by decide) (pc' := 4) rfl ?_
  refine s_iloadN S0 (hb hby dCF133n_4) rfl (pc' := 5) rfl ?_
  refine s_iloadN S0 (hb hby dCF133n_5) rfl (pc' := 6) rfl ?_
  refine s_icmpN S0 (hb hby dCF133n_6) (by decide) (pc' := 9) rfl ?_
  refine s_iloadN S0 (hb hby dCF133n_9) rfl (pc' := 10) rfl ?_
  refine s_iloadN S0 (hb hby dCF133n_10) rfl (pc' := 11) rfl ?_
  refine s_icmpY S0 (hb hby dCF133n_11) (by decide) (by decide) (pcT := 22) (by decide) ?_
  refine s_iloadN S0 (hb hby dCF133n_22) rfl (pc' := 23) rfl ?_
  exact g_iret S0 (hb hby dCF133n_23) hret ⟨rfl, rfl⟩
theorem dIN_0 : decode prog_3_method_1_code 0 = .ok (.aload_n 0, 1) := by decide +kernel
theorem dIN_1 : decode prog_3_method_1_code 1 = .ok (.invokespecial 1, 3) := by decide +kernel
theorem dIN_4 : decode prog_3_method_1_code 4 = .ok (.aload_n 0, 1) := by decide +kernel
theorem dIN_5 : decode prog_3_method_1_code 5 = .ok (.new 7, 3) := by decide +kernel
theorem dIN_8 : decode prog_3_method_1_code 8 = .ok (.dup, 1) := by decide +kernel
theorem dIN_9 : decode prog_3_method_1_code 9 = .ok (.invokespecial 9, 3) := by decide +kernel
theorem dIN_12 : decode prog_3_method_1_code 12 = .ok (.putfield 10, 3) := by decide +kernel
theorem dIN_15 : decode prog_3_method_1_code 15 = .ok (.aload_n 0, 1) := by decide +kernel
theorem dIN_16 : decode prog_3_method_1_code 16 = .ok (.iconst 0, 1) := by decide +kernel
theorem dIN_17 : decode prog_3_method_1_code 17 = .ok (.newarray .int, 2) := by decide +kernel
theorem dIN_19 : decode prog_3_method_1_code 19 = .ok (.putfield 16, 3) := by decide +kernel
theorem dIN_22 : decode prog_3_method_1_code 22 = .ok (.return_, 1) := by decide +kernel
set_option maxRecDepth 65536 in
set_option maxHeartbeats 40000000 in
theorem rmIN {l : Launch} {Z : State} {a0 : Array Value} {n0 : Nat} (X : Ctx Z a0) {x : Addr} (na : n0 ≤ x) {h : Heap} (hO : Old Z n0 h) (Ex : Exa Z h x "com/example/nodewarden/nodewarden/core/Asides") (Ft : Fld Z h x "com/example/nodewarden/nodewarden/core/Asides" "text" "Ljava/lang/StringBuilder;" .null) (Fb : Fld Z h x "com/example/nodewarden/nodewarden/core/Asides" "table" "[I" .null) (Fn : Fld Z h x "com/example/nodewarden/nodewarden/core/Asides" "count" "I" (.int (0 : Int32))) :
    CtrV l Z EL1 n0 (⟨"com/example/nodewarden/nodewarden/core/Asides", "<init>", "()V"⟩ : MethodName) prog_3_method_1_code 1 none ({ frames := 3, cells := 3, slots := 20, locals := 39 } : Room) #[(.ref x)] h [] (fun v h' vm => v = none ∧ ∃ sb tb t kb kt, Keep h h' [x] ∧ AS Z h' n0 x sb tb t kb kt (0 : Int32) (0 : Int32) [] (16 : Int32) (0 : Int32) (List.replicate 16 (.int (0 : Int32))) ∧ Safe Z EL1 vm h' tb ∧ Exa Z h' t "[I") := by
  have hw := X.hw
  obtain ⟨z1, hz1, hz2⟩ := X.2.2.1
  refine CtrV.intro (a0 := a0) (plainFor_of_name pn3) hO X.ew ?_
  intro p e s m below meth c T0 V0 S0 hby hml hret hnm hsf
  rw [ef2]
  refine s_aloadN S0 (hb hby dIN_0) rfl rfl (pc' := 1) rfl ?_
  refine g_initO S0 (w6 hw) (w7 hw) (w8 hw) (by rw [hml]; rfl) (hb hby dIN_1) (Nat.le_of_ble_eq_true rfl) (Nat.le_of_ble_eq_true rfl) ?_
  intro T26 ST26
  show Go p e below _ (T26.setTop (mkF m 4 #[.val (.ref x)] []))
  refine s_aloadN ST26 (hb hby dIN_4) rfl rfl (pc' := 5) rfl ?_
  refine g_new ST26 (w9 hw) (w10 hw) (w11 hw) (hb hby dIN_5) (Nat.le_of_ble_eq_true rfl) (Nat.le_of_ble_eq_true rfl) ?_
  intro T27 h27 b27 S27 E27 fr27 lt27 na27 sf27 A27 D27
  have F28 : Fld Z h27 b27 "java/lang/AbstractStringBuilder" "value" "[B" .null := D27 (Or.inl (w26 hw)) (ty := (.array .byte)) (by decide)
  have F29 : Fld Z h27 b27 "java/lang/AbstractStringBuilder" "coder" "B" (.int (0 : Int32)) := D27 (Or.inl (w28 hw)) (ty := .byte) (by decide)
  have F30 : Fld Z h27 b27 "java/lang/AbstractStringBuilder" "count" "I" (.int (0 : Int32)) := D27 (Or.inl (w96 hw)) (ty := .int) (by decide)
  show Go p e below _ (T27.setTop (mkF m 8 #[.val (.ref x)] [(.ref b27), (.ref x)]))
  refine s_dup S27 (hb hby dIN_8) rfl (pc' := 9) rfl ?_
  show Go p e below _ (T27.setTop (mkF m 9 #[.val (.ref x)] [(.ref b27), (.ref b27), (.ref x)]))
  refine g_special S27 (rmSI X na27 S27.old A27 F28 F29 F30) (fun _ q => nomatch q) rfl (w12 hw) (w13 hw) (w11 hw) (w14 hw) (by decide) (hb hby dIN_9) (by rw [hml]; rfl) b27 [] (lenOf pd2 rfl) rfl rfl (Nat.le_of_ble_eq_true rfl) (Nat.le_of_ble_eq_true rfl) (Nat.le_of_ble_eq_true rfl) (Nat.le_of_ble_eq_true rfl) ?_
  intro v31 T31 V31 h31 S31 C31 q31
  obtain ⟨rfl, tb, kb, K1, ntb, frb, F1, sf1_⟩ := q31
  have nxs : x ≠ b27 := (Nat.ne_of_lt (Nat.lt_of_lt_of_le (Nat.lt_of_lt_of_le Ex.lt (Nat.le_refl _)) fr27))
  have X32 : Ext h h31 := ext_keep1 E27 K1 fr27
  have Ex33 := Ex.ext X32
  have nxb : x ≠ tb := Exa.neArv Ex33 F1.2.2.2.2 (w1 hw)
  show Go p e below _ (T31.setTop (mkF m 12 #[.val (.ref x)] [(.ref b27), (.ref x)]))
  show Go p e below _ (T31.setTop (mkF m 12 #[.val (.ref x)] [(.ref b27), (.ref x)]))
  have Ft35 := Ft.ext X32
  have Fb36 := Fb.ext X32
  have Fn37 := Fn.ext X32
  refine g_putF S31 (w29 hw) Via.refl Ft35 Ex33 (Or.inr ⟨(w30 hw), rfl, hnm⟩) (w1 hw) (ty := (.object "java/lang/StringBuilder")) (v' := (.ref b27)) (by decide) rfl rfl na (Safe.exa S31.warm.alike Ex33 (by decide) (by decide)) (hb hby dIN_12) ?_
  intro T34 h34 S34 K34 W34 A34 F34 sg34
  have sf38 := Safe.keep K34 (sfS (Safe.exa S31.warm.alike Ex33 (by decide) (by decide)) sf0) S31.chv sf1_
  have F39 := Fb36.other W34 (Or.inr (slot_ne (Or.inl (w33 hw)) (Or.inr (w30 hw)) (by decide) (t := (.array .int)) (t' := (.object "java/lang/StringBuilder")) (by decide) (by decide)))
  have F40 := Fn37.other W34 (Or.inr (slot_ne (Or.inl (w136 hw)) (Or.inr (w30 hw)) (by decide) (t := .int) (t' := (.object "java/lang/StringBuilder")) (by decide) (by decide)))
  show Go p e below _ (T34.setTop (mkF m 15 #[.val (.ref x)] []))
  refine s_aloadN S34 (hb hby dIN_15) rfl rfl (pc' := 16) rfl ?_
  refine s_iconst S34 (hb hby dIN_16) (v := (0 : Int32)) rfl (pc' := 17) rfl ?_
  refine g_newarrE (aty := .int) S34 (w31 hw) (hb hby dIN_17) (by decide) (cap := 0) (by decide) (by decide) (Nat.le_of_ble_eq_true rfl) (Nat.le_of_ble_eq_true rfl) rfl ?_
  intro T41 h41 b41 kc41 S41 E41 fr41 lt41 na41 sf41 A41 EA41
  have sf42 := Safe.ext E41 S34.chv sf38
  have V41 : Arv Z h41 b41 kc41 .int (0 : Int32) [] (.int (0 : Int32)) := A41 0
  show Go p e below _ (T41.setTop (mkF m 19 #[.val (.ref x)] [(.ref b41), (.ref x)]))
  show Go p e below _ (T41.setTop (mkF m 19 #[.val (.ref x)] [(.ref b41), (.ref x)]))
  have F44 := F39.ext E41
  have A45 := A34.ext E41
  have F46 := F34.ext E41
  have F47 := F40.ext E41
  refine g_putF S41 (w32 hw) Via.refl F44 A45 (Or.inl (w33 hw)) (w1 hw) (ty := (.array .int)) (v' := (.ref b41)) (by decide) rfl rfl na (Safe.exa S41.warm.alike A45 (by decide) (by decide)) (hb hby dIN_19) ?_
  intro T43 h43 S43 K43 W43 A43 F43 sg43
  have sf48 := Safe.keep K43 (sfS (Safe.exa S41.warm.alike A45 (by decide) (by decide)) sf0) S41.chv sf42
  have F49 := F46.other W43 (Or.inr (slot_ne (Or.inr (w30 hw)) (Or.inl (w33 hw)) (by decide) (t := (.object "java/lang/StringBuilder")) (t' := (.array .int)) (by decide) (by decide)))
  have F50 := F47.other W43 (Or.inr (slot_ne (Or.inl (w136 hw)) (Or.inl (w33 hw)) (by decide) (t := .int) (t' := (.array .int)) (by decide) (by decide)))
  show Go p e below _ (T43.setTop (mkF m 22 #[.val (.ref x)] []))
  show Go p e below _ (T43.setTop (mkF m 22 #[.val (.ref x)] []))
  have KA51 := ((Keep.refl h [x]).ext E27)
  have KA52 : Keep h h43 [x] := ((((KA51.trans K1 (allS (Or.inr fr27) all0)).trans K34 (fun y hy => Or.inl hy)).ext E41).trans K43 (fun y hy => Or.inl hy))
  have F53 := V41.keep K43 (ninS (Ne.symm (Nat.ne_of_lt (Nat.lt_of_lt_of_le (Nat.lt_of_lt_of_le Ex.lt (Nat.le_trans (Nat.le_trans (Nat.le_trans (Nat.le_refl _) E27.1) K1.1) K34.1)) fr41))) nin0)
  have F54 := F1.1.keep K34
  have F55 := F54.ext E41
  have F56 := F55.keep K43
  have F57 := F1.2.1.keep K34 (ninS (Ne.symm nxs) nin0)
  have F58 := F57.ext E41
  have F59 := F58.keep K43 (ninS (Ne.symm nxs) nin0)
  have F60 := F1.2.2.1.keep K34 (ninS (Ne.symm nxs) nin0)
  have F61 := F60.ext E41
  have F62 := F61.keep K43 (ninS (Ne.symm nxs) nin0)
  have F63 := F1.2.2.2.1.keep K34 (ninS (Ne.symm nxs) nin0)
  have F64 := F63.ext E41
  have F65 := F64.keep K43 (ninS (Ne.symm nxs) nin0)
  have F66 := F1.2.2.2.2.keep K34 (ninS (Ne.symm nxb) nin0)
  have F67 := F66.ext E41
  have F68 := F67.keep K43 (ninS (Ne.symm nxb) nin0)
  have F69 := EA41.keep K43
  exact g_retV S43 (hb hby dIN_22) hret (fun sfx => ⟨rfl, b27, tb, b41, kb, _, KA52, ⟨A43, F49, F43, F50, F53, ⟨F56, F59, F62, F65, F68⟩, na, na27, ntb, na41⟩, sfx _ F68.lt sf48, F69⟩)
theorem dCI_0 : decode jdk_65_method_123_code 0 = .ok (.iload_n 1, 1) := by decide +kernel
theorem dCI_1 : decode jdk_65_method_123_code 1 = .ok (.aload_n 0, 1) := by decide +kernel
theorem dCI_2 : decode jdk_65_method_123_code 2 = .ok (.arraylength, 1) := by decide +kernel
theorem dCI_3 : decode jdk_65_method_123_code 3 = .ok (.if_icmp .ne 11, 3) := by decide +kernel
theorem dCI_14 : decode jdk_65_method_123_code 14 = .ok (.iload_n 1, 1) := by decide +kernel
theorem dCI_15 : decode jdk_65_method_123_code 15 = .ok (.newarray .int, 2) := by decide +kernel
theorem dCI_17 : decode jdk_65_method_123_code 17 = .ok (.astore_n 2, 1) := by decide +kernel
theorem dCI_18 : decode jdk_65_method_123_code 18 = .ok (.aload_n 0, 1) := by decide +kernel
theorem dCI_19 : decode jdk_65_method_123_code 19 = .ok (.iconst 0, 1) := by decide +kernel
theorem dCI_20 : decode jdk_65_method_123_code 20 = .ok (.aload_n 2, 1) := by decide +kernel
theorem dCI_21 : decode jdk_65_method_123_code 21 = .ok (.iconst 0, 1) := by decide +kernel
theorem dCI_22 : decode jdk_65_method_123_code 22 = .ok (.aload_n 0, 1) := by decide +kernel
theorem dCI_23 : decode jdk_65_method_123_code 23 = .ok (.arraylength, 1) := by decide +kernel
theorem dCI_24 : decode jdk_65_method_123_code 24 = .ok (.iload_n 1, 1) := by decide +kernel
theorem dCI_25 : decode jdk_65_method_123_code 25 = .ok (.invokestatic 304, 3) := by decide +kernel
theorem dCI_28 : decode jdk_65_method_123_code 28 = .ok (.invokestatic 150, 3) := by decide +kernel
theorem dCI_31 : decode jdk_65_method_123_code 31 = .ok (.aload_n 2, 1) := by decide +kernel
theorem dCI_32 : decode jdk_65_method_123_code 32 = .ok (.areturn, 1) := by decide +kernel
set_option maxRecDepth 65536 in
set_option maxHeartbeats 40000000 in
theorem rmCI {l : Launch} {Z : State} {a0 : Array Value} {n0 : Nat} (X : Ctx Z a0) {t : Addr} {kt : ClassId} {vs : List Value} {h : Heap} (hO : Old Z n0 h) (Vt : Arv Z h t kt .int (0 : Int32) vs (.int (0 : Int32))) :
    Ctr l Z EL1 n0 (⟨"java/util/Arrays", "copyOf", "([II)[I"⟩ : MethodName) jdk_65_method_123_code 3 (some (.array .int)) ({ frames := 1, cells := 1, slots := 80, locals := 18 } : Room) #[(.ref t), (.int (80 : Int32))] h [] (fun v h' => ∃ u ku, v = some (.ref u) ∧ Ext h h' ∧ h.size ≤ u ∧ n0 ≤ u ∧ Arv Z h' u ku .int (80 : Int32) [(.int (0 : Int32)), (.int (0 : Int32)), (.int (0 : Int32)), (.int (0 : Int32)), (.int (0 : Int32)), (.int (0 : Int32)), (.int (0 : Int32)), (.int (0 : Int32)), (.int (0 : Int32)), (.int (0 : Int32)), (.int (0 : Int32)), (.int (0 : Int32)), (.int (0 : Int32)), (.int (0 : Int32)), (.int (0 : Int32))] (.int (0 : Int32))) := by
  have hw := X.hw
  obtain ⟨z1, hz1, hz2⟩ := X.2.2.1
  refine Ctr.intro (a0 := a0) (plainFor_of_name pn4) hO X.ew ?_
  intro p e s m below meth c T0 V0 S0 hby hml hret hnm hsf
  rw [ef5]
  refine s_iloadN S0 (hb hby dCI_0) rfl (pc' := 1) rfl ?_
  refine s_aloadN S0 (hb hby dCI_1) rfl rfl (pc' := 2) rfl ?_
  refine g_len S0 Vt (hb hby dCI_2) ?_
  show Go p e below _ (T0.setTop (mkF m 3 #[.val (.ref t), .val (.int (80 : Int32)), .unset] [(.int (0 : Int32)), (.int (80 : Int32))]))
  refine s_icmpY S0 (hb hby dCI_3) (by decide) (by decide) (pcT := 14) (by decide) ?_
  refine s_iloadN S0 (hb hby dCI_14) rfl (pc' := 15) rfl ?_
  refine g_newarr (aty := .int) S0 (w31 hw) (hb hby dCI_15) (by decide) (cap := 80) (by decide) (by decide) (Nat.le_of_ble_eq_true rfl) (Nat.le_of_ble_eq_true rfl) ?_
  intro T70 h70 b70 kc70 S70 E70 fr70 lt70 na70 sf70 A70
  have V70 : Arv Z h70 b70 kc70 .int (80 : Int32) [(.int (0 : Int32)), (.int (0 : Int32)), (.int (0 : Int32)), (.int (0 : Int32)), (.int (0 : Int32)), (.int (0 : Int32)), (.int (0 : Int32)), (.int (0 : Int32)), (.int (0 : Int32)), (.int (0 : Int32)), (.int (0 : Int32)), (.int (0 : Int32)), (.int (0 : Int32)), (.int (0 : Int32)), (.int (0 : Int32))] (.int (0 : Int32)) := A70 15
  show Go p e below _ (T70.setTop (mkF m 17 #[.val (.ref t), .val (.int (80 : Int32)), .unset] [(.ref b70)]))
  refine s_astoreN S70 (hb hby dCI_17) rfl (L' := #[.val (.ref t), .val (.int (80 : Int32)), .val (.ref b70)]) rfl (pc' := 18) rfl ?_
  refine s_aloadN S70 (hb hby dCI_18) rfl rfl (pc' := 19) rfl ?_
  refine s_iconst S70 (hb hby dCI_19) (v := (0 : Int32)) rfl (pc' := 20) rfl ?_
  refine s_aloadN S70 (hb hby dCI_20) rfl rfl (pc' := 21) rfl ?_
  refine s_iconst S70 (hb hby dCI_21) (v := (0 : Int32)) rfl (pc' := 22) rfl ?_
  refine s_aloadN S70 (hb hby dCI_22) rfl rfl (pc' := 23) rfl ?_
  have Vt71 := Vt.ext E70
  refine g_len S70 Vt71 (hb hby dCI_23) ?_
  show Go p e below _ (T70.setTop (mkF m 24 #[.val (.ref t), .val (.int (80 : Int32)), .val (.ref b70)] [(.int (0 : Int32)), (.int (0 : Int32)), (.ref b70), (.int (0 : Int32)), (.ref t)]))
  refine s_iloadN S70 (hb hby dCI_24) rfl (pc' := 25) rfl ?_
  show Go p e below _ (T70.setTop (mkF m 25 #[.val (.ref t), .val (.int (80 : Int32)), .val (.ref b70)] [(.int (80 : Int32)), (.int (0 : Int32)), (.int (0 : Int32)), (.ref b70), (.int (0 : Int32)), (.ref t)]))
  refine g_static S70 (rmMN X (z := (0 : Int32)) (by decide) S70.old) (fun _ q => nomatch q) (w145 hw) (w146 hw) (w139 hw) (w147 hw) (by decide) (hb hby dCI_25) (by rw [hml]; rfl) [(.int (0 : Int32)), (.int (80 : Int32))] (lenOf pd3 rfl) rfl rfl (Nat.le_of_ble_eq_true rfl) (Nat.le_of_ble_eq_true rfl) (Nat.le_of_ble_eq_true rfl) (Nat.le_of_ble_eq_true rfl) ?_
  intro v72 T72 V72 h72 S72 C72 q72
  obtain ⟨rfl, rfl⟩ := q72
  show Go p e below _ (T72.setTop (mkF m 28 #[.val (.ref t), .val (.int (80 : Int32)), .val (.ref b70)] [(.int (0 : Int32)), (.int (0 : Int32)), (.ref b70), (.int (0 : Int32)), (.ref t)]))
  show Go p e below _ (T72.setTop (mkF m 28 #[.val (.ref t), .val (.int (80 : Int32)), .val (.ref b70)] [(.int (0 : Int32)), (.int (0 : Int32)), (.ref b70), (.int (0 : Int32)), (.ref t)]))
  refine g_copy S72 (w148 hw) (w121 hw) (w119 hw) (w120 hw) Vt71 V70 rfl (by decide) (by decide) (by decide) (by decide) (by decide) (us := []) rfl (Nat.le_of_ble_eq_true rfl) na70 (Safe.arv S72.warm.alike V70 (by decide)) (hb hby dCI_28) (by rw [hml]; rfl) (Nat.le_of_ble_eq_true rfl) (by decide) ?_
  intro T73 h73 S73 K73 V73 sg73
  have V73 : Arv Z h73 b70 kc70 .int (80 : Int32) [(.int (0 : Int32)), (.int (0 : Int32)), (.int (0 : Int32)), (.int (0 : Int32)), (.int (0 : Int32)), (.int (0 : Int32)), (.int (0 : Int32)), (.int (0 : Int32)), (.int (0 : Int32)), (.int (0 : Int32)), (.int (0 : Int32)), (.int (0 : Int32)), (.int (0 : Int32)), (.int (0 : Int32)), (.int (0 : Int32))] (.int (0 : Int32)) := V73
  show Go p e below _ (T73.setTop (mkF m 31 #[.val (.ref t), .val (.int (80 : Int32)), .val (.ref b70)] []))
  refine s_aloadN S73 (hb hby dCI_31) rfl rfl (pc' := 32) rfl ?_
  show Go p e below _ (T73.setTop (mkF m 32 #[.val (.ref t), .val (.int (80 : Int32)), .val (.ref b70)] [(.ref b70)]))
  have X74 : Ext h h73 := ext_keep1 E70 K73 fr70
  exact g_aret S73 (hb hby dCI_32) hret rfl rfl rfl ⟨b70, _, rfl, X74, fr70, na70, V73⟩
theorem dAD0_0 : decode prog_3_method_13_code 0 = .ok (.aload_n 0, 1) := by decide +kernel
theorem dAD0_1 : decode prog_3_method_13_code 1 = .ok (.getfield 16, 3) := by decide +kernel
theorem dAD0_4 : decode prog_3_method_13_code 4 = .ok (.arraylength, 1) := by decide +kernel
theorem dAD0_5 : decode prog_3_method_13_code 5 = .ok (.aload_n 0, 1) := by decide +kernel
theorem dAD0_6 : decode prog_3_method_13_code 6 = .ok (.getfield 38, 3) := by decide +kernel
theorem dAD0_9 : decode prog_3_method_13_code 9 = .ok (.iconst 1, 1) := by decide +kernel
theorem dAD0_10 : decode prog_3_method_13_code 10 = .ok (.iadd, 1) := by decide +kernel
theorem dAD0_11 : decode prog_3_method_13_code 11 = .ok (.iconst 5, 1) := by decide +kernel
theorem dAD0_12 : decode prog_3_method_13_code 12 = .ok (.imul, 1) := by decide +kernel
theorem dAD0_13 : decode prog_3_method_13_code 13 = .ok (.if_icmp .ge 26, 3) := by decide +kernel
theorem dAD0_16 : decode prog_3_method_13_code 16 = .ok (.aload_n 0, 1) := by decide +kernel
theorem dAD0_17 : decode prog_3_method_13_code 17 = .ok (.aload_n 0, 1) := by decide +kernel
theorem dAD0_18 : decode prog_3_method_13_code 18 = .ok (.getfield 16, 3) := by decide +kernel
theorem dAD0_21 : decode prog_3_method_13_code 21 = .ok (.bipush 80, 2) := by decide +kernel
theorem dAD0_23 : decode prog_3_method_13_code 23 = .ok (.iconst 2, 1) := by decide +kernel
theorem dAD0_24 : decode prog_3_method_13_code 24 = .ok (.aload_n 0, 1) := by decide +kernel
theorem dAD0_25 : decode prog_3_method_13_code 25 = .ok (.getfield 16, 3) := by decide +kernel
theorem dAD0_28 : decode prog_3_method_13_code 28 = .ok (.arraylength, 1) := by decide +kernel
theorem dAD0_29 : decode prog_3_method_13_code 29 = .ok (.imul, 1) := by decide +kernel
theorem dAD0_30 : decode prog_3_method_13_code 30 = .ok (.invokestatic 56, 3) := by decide +kernel
theorem dAD0_33 : decode prog_3_method_13_code 33 = .ok (.invokestatic 42, 3) := by decide +kernel
theorem dAD0_36 : decode prog_3_method_13_code 36 = .ok (.putfield 16, 3) := by decide +kernel
theorem dAD0_39 : decode prog_3_method_13_code 39 = .ok (.aload_n 0, 1) := by decide +kernel
theorem dAD0_40 : decode prog_3_method_13_code 40 = .ok (.getfield 38, 3) := by decide +kernel
theorem dAD0_43 : decode prog_3_method_13_code 43 = .ok (.iconst 5, 1) := by decide +kernel
theorem dAD0_44 : decode prog_3_method_13_code 44 = .ok (.imul, 1) := by decide +kernel
theorem dAD0_45 : decode prog_3_method_13_code 45 = .ok (.istore 5, 2) := by decide +kernel
theorem dAD0_47 : decode prog_3_method_13_code 47 = .ok (.aload_n 0, 1) := by decide +kernel
theorem dAD0_48 : decode prog_3_method_13_code 48 = .ok (.getfield 16, 3) := by decide +kernel
theorem dAD0_51 : decode prog_3_method_13_code 51 = .ok (.iload 5, 2) := by decide +kernel
theorem dAD0_53 : decode prog_3_method_13_code 53 = .ok (.iconst 0, 1) := by decide +kernel
theorem dAD0_54 : decode prog_3_method_13_code 54 = .ok (.iadd, 1) := by decide +kernel
theorem dAD0_55 : decode prog_3_method_13_code 55 = .ok (.iload_n 1, 1) := by decide +kernel
theorem dAD0_56 : decode prog_3_method_13_code 56 = .ok (.iastore, 1) := by decide +kernel
theorem dAD0_57 : decode prog_3_method_13_code 57 = .ok (.aload_n 0, 1) := by decide +kernel
theorem dAD0_58 : decode prog_3_method_13_code 58 = .ok (.getfield 16, 3) := by decide +kernel
theorem dAD0_61 : decode prog_3_method_13_code 61 = .ok (.iload 5, 2) := by decide +kernel
theorem dAD0_63 : decode prog_3_method_13_code 63 = .ok (.iconst 1, 1) := by decide +kernel
theorem dAD0_64 : decode prog_3_method_13_code 64 = .ok (.iadd, 1) := by decide +kernel
theorem dAD0_65 : decode prog_3_method_13_code 65 = .ok (.iload_n 2, 1) := by decide +kernel
theorem dAD0_66 : decode prog_3_method_13_code 66 = .ok (.iastore, 1) := by decide +kernel
theorem dAD0_67 : decode prog_3_method_13_code 67 = .ok (.aload_n 0, 1) := by decide +kernel
theorem dAD0_68 : decode prog_3_method_13_code 68 = .ok (.getfield 16, 3) := by decide +kernel
theorem dAD0_71 : decode prog_3_method_13_code 71 = .ok (.iload 5, 2) := by decide +kernel
theorem dAD0_73 : decode prog_3_method_13_code 73 = .ok (.iconst 2, 1) := by decide +kernel
theorem dAD0_74 : decode prog_3_method_13_code 74 = .ok (.iadd, 1) := by decide +kernel
theorem dAD0_75 : decode prog_3_method_13_code 75 = .ok (.iload_n 3, 1) := by decide +kernel
theorem dAD0_76 : decode prog_3_method_13_code 76 = .ok (.iastore, 1) := by decide +kernel
theorem dAD0_77 : decode prog_3_method_13_code 77 = .ok (.aload_n 0, 1) := by decide +kernel
theorem dAD0_78 : decode prog_3_method_13_code 78 = .ok (.getfield 16, 3) := by decide +kernel
theorem dAD0_81 : decode prog_3_method_13_code 81 = .ok (.iload 5, 2) := by decide +kernel
theorem dAD0_83 : decode prog_3_method_13_code 83 = .ok (.iconst 3, 1) := by decide +kernel
theorem dAD0_84 : decode prog_3_method_13_code 84 = .ok (.iadd, 1) := by decide +kernel
theorem dAD0_85 : decode prog_3_method_13_code 85 = .ok (.iload 4, 2) := by decide +kernel
theorem dAD0_87 : decode prog_3_method_13_code 87 = .ok (.iastore, 1) := by decide +kernel
theorem dAD0_88 : decode prog_3_method_13_code 88 = .ok (.aload_n 0, 1) := by decide +kernel
theorem dAD0_89 : decode prog_3_method_13_code 89 = .ok (.getfield 16, 3) := by decide +kernel
theorem dAD0_92 : decode prog_3_method_13_code 92 = .ok (.iload 5, 2) := by decide +kernel
theorem dAD0_94 : decode prog_3_method_13_code 94 = .ok (.iconst 4, 1) := by decide +kernel
theorem dAD0_95 : decode prog_3_method_13_code 95 = .ok (.iadd, 1) := by decide +kernel
theorem dAD0_96 : decode prog_3_method_13_code 96 = .ok (.aload_n 0, 1) := by decide +kernel
theorem dAD0_97 : decode prog_3_method_13_code 97 = .ok (.getfield 10, 3) := by decide +kernel
theorem dAD0_100 : decode prog_3_method_13_code 100 = .ok (.invokevirtual 31, 3) := by decide +kernel
theorem dAD0_103 : decode prog_3_method_13_code 103 = .ok (.iastore, 1) := by decide +kernel
theorem dAD0_104 : decode prog_3_method_13_code 104 = .ok (.aload_n 0, 1) := by decide +kernel
theorem dAD0_105 : decode prog_3_method_13_code 105 = .ok (.dup, 1) := by decide +kernel
theorem dAD0_106 : decode prog_3_method_13_code 106 = .ok (.getfield 38, 3) := by decide +kernel
theorem dAD0_109 : decode prog_3_method_13_code 109 = .ok (.iconst 1, 1) := by decide +kernel
theorem dAD0_110 : decode prog_3_method_13_code 110 = .ok (.iadd, 1) := by decide +kernel
theorem dAD0_111 : decode prog_3_method_13_code 111 = .ok (.putfield 38, 3) := by decide +kernel
theorem dAD0_114 : decode prog_3_method_13_code 114 = .ok (.return_, 1) := by decide +kernel
set_option maxRecDepth 65536 in
set_option maxHeartbeats 40000000 in
theorem rmAD0 {l : Launch} {Z : State} {a0 : Array Value} {n0 : Nat} (X : Ctx Z a0) {x sb tb t : Addr} {kb kt : ClassId} {bs : List Value} {sc : Int32} (pp qq oo dd : Int32) {h : Heap} (hO : Old Z n0 h) (A : AS Z h n0 x sb tb t kb kt (0 : Int32) (0 : Int32) [] (16 : Int32) sc bs) :
    Ctr l Z EL1 n0 (⟨"com/example/nodewarden/nodewarden/core/Asides", "add", "(IIII)V"⟩ : MethodName) prog_3_method_13_code 6 none ({ frames := 2, cells := 1, slots := 80, locals := 33 } : Room) #[(.ref x), (.int pp), (.int qq), (.int oo), (.int dd)] h [] (fun v h' => v = none ∧ ∃ u ku, Keep h h' [x] ∧ AS Z h' n0 x sb tb u kb ku (1 : Int32) (80 : Int32) [(.int pp), (.int qq), (.int oo), (.int dd), (.int sc), (.int (0 : Int32)), (.int (0 : Int32)), (.int (0 : Int32)), (.int (0 : Int32)), (.int (0 : Int32)), (.int (0 : Int32)), (.int (0 : Int32)), (.int (0 : Int32)), (.int (0 : Int32)), (.int (0 : Int32))] (16 : Int32) sc bs) := by
  have hw := X.hw
  obtain ⟨z1, hz1, hz2⟩ := X.2.2.1
  refine Ctr.intro (a0 := a0) (plainFor_of_name pn3) hO X.ew ?_
  intro p e s m below meth c T0 V0 S0 hby hml hret hnm hsf
  rw [ef6]
  obtain ⟨Ex, Ft, Fb, Fn, Vt, ⟨Es, Fv, Fk, Fs, Vb⟩, nx, ns, nb, nt⟩ := A
  have nXS : x ≠ sb := ne_exa Ex Es (by decide)
  have nXT : x ≠ t := Exa.neArv Ex Vt (w1 hw)
  have nXB : x ≠ tb := Exa.neArv Ex Vb (w1 hw)
  have nST : sb ≠ t := Exa.neArv Es Vt (w10 hw)
  have nSB : sb ≠ tb := Exa.neArv Es Vb (w10 hw)
  have nTB : t ≠ tb := arv_kne Vt Vb (by decide)
  show Go p e below _ (T0.setTop (mkF m 0 #[.val (.ref x), .val (.int pp), .val (.int qq), .val (.int oo), .val (.int dd), .unset] []))
  refine s_aloadN S0 (hb hby dAD0_0) rfl rfl (pc' := 1) rfl ?_
  refine g_getF S0 (w32 hw) Via.refl Fb (hb hby dAD0_1) ?_
  intro T75 ST75
  show Go p e below _ (T75.setTop (mkF m 4 #[.val (.ref x), .val (.int pp), .val (.int qq), .val (.int oo), .val (.int dd), .unset] [(.ref t)]))
  refine g_len ST75 Vt (hb hby dAD0_4) ?_
  show Go p e below _ (T75.setTop (mkF m 5 #[.val (.ref x), .val (.int pp), .val (.int qq), .val (.int oo), .val (.int dd), .unset] [(.int (0 : Int32))]))
  refine s_aloadN ST75 (hb hby dAD0_5) rfl rfl (pc' := 6) rfl ?_
  refine g_getF ST75 (w135 hw) Via.refl Fn (hb hby dAD0_6) ?_
  intro T76 ST76
  show Go p e below _ (T76.setTop (mkF m 9 #[.val (.ref x), .val (.int pp), .val (.int qq), .val (.int oo), .val (.int dd), .unset] [(.int (0 : Int32)), (.int (0 : Int32))]))
  refine s_iconst ST76 (hb hby dAD0_9) (v := (1 : Int32)) rfl (pc' := 10) rfl ?_
  refine s_iadd ST76 (hb hby dAD0_10) (z := (1 : Int32)) rfl (pc' := 11) rfl ?_
  refine s_iconst ST76 (hb hby dAD0_11) (v := (5 : Int32)) rfl (pc' := 12) rfl ?_
  refine s_imul ST76 (hb hby dAD0_12) (z := (5 : Int32)) rfl (pc' := 13) rfl ?_
  refine s_icmpN ST76 (hb hby dAD0_13) (by decide) (pc' := 16) rfl ?_
  refine s_aloadN ST76 (hb hby dAD0_16) rfl rfl (pc' := 17) rfl ?_
  refine s_aloadN ST76 (hb hby dAD0_17) rfl rfl (pc' := 18) rfl ?_
  refine g_getF ST76 (w32 hw) Via.refl Fb (hb hby dAD0_18) ?_
  intro T77 ST77
  show Go p e below _ (T77.setTop (mkF m 21 #[.val (.ref x), .val (.int pp), .val (.int qq), .val (.int oo), .val (.int dd), .unset] [(.ref t), (.ref x)]))
  refine s_bipush ST77 (hb hby dAD0_21) (v := (80 : Int32)) rfl (pc' := 23) rfl ?_
  refine s_iconst ST77 (hb hby dAD0_23) (v := (2 : Int32)) rfl (pc' := 24) rfl ?_
  refine s_aloadN ST77 (hb hby dAD0_24) rfl rfl (pc' := 25) rfl ?_
  refine g_getF ST77 (w32 hw) Via.refl Fb (hb hby dAD0_25) ?_
  intro T78 ST78
  show Go p e below _ (T78.setTop (mkF m 28 #[.val (.ref x), .val (.int pp), .val (.int qq), .val (.int oo), .val (.int dd), .unset] [(.ref t), (.int (2 : Int32)), (.int (80 : Int32)), (.ref t), (.ref x)]))
  refine g_len ST78 Vt (hb hby dAD0_28) ?_
  show Go p e below _ (T78.setTop (mkF m 29 #[.val (.ref x), .val (.int pp), .val (.int qq), .val (.int oo), .val (.int dd), .unset] [(.int (0 : Int32)), (.int (2 : Int32)), (.int (80 : Int32)), (.ref t), (.ref x)]))
  refine s_imul ST78 (hb hby dAD0_29) (z := (0 : Int32)) rfl (pc' := 30) rfl ?_
  show Go p e below _ (T78.setTop (mkF m 30 #[.val (.ref x), .val (.int pp), .val (.int qq), .val (.int oo), .val (.int dd), .unset] [(.int (0 : Int32)), (.int (80 : Int32)), (.ref t), (.ref x)]))
  refine g_static ST78 (rmMX X (z := (80 : Int32)) (by decide) ST78.old) (fun _ q => nomatch q) (w137 hw) (w138 hw) (w139 hw) (w140 hw) (by decide) (hb hby dAD0_30) (by rw [hml]; rfl) [(.int (80 : Int32)), (.int (0 : Int32))] (lenOf pd3 rfl) rfl rfl (Nat.le_of_ble_eq_true rfl) (Nat.le_of_ble_eq_true rfl) (Nat.le_of_ble_eq_true rfl) (Nat.le_of_ble_eq_true rfl) ?_
  intro v79 T79 V79 h79 S79 C79 q79
  obtain ⟨rfl, rfl⟩ := q79
  show Go p e below _ (T79.setTop (mkF m 33 #[.val (.ref x), .val (.int pp), .val (.int qq), .val (.int oo), .val (.int dd), .unset] [(.int (80 : Int32)), (.ref t), (.ref x)]))
  show Go p e below _ (T79.setTop (mkF m 33 #[.val (.ref x), .val (.int pp), .val (.int qq), .val (.int oo), .val (.int dd), .unset] [(.int (80 : Int32)), (.ref t), (.ref x)]))
  refine g_static S79 (rmCI X S79.old Vt) (fun _ q => nomatch q) (w141 hw) (w142 hw) (w143 hw) (w144 hw) (by decide) (hb hby dAD0_33) (by rw [hml]; rfl) [(.ref t), (.int (80 : Int32))] (lenOf pd4 rfl) rfl rfl (Nat.le_of_ble_eq_true rfl) (Nat.le_of_ble_eq_true rfl) (Nat.le_of_ble_eq_true rfl) (Nat.le_of_ble_eq_true rfl) ?_
  intro v80 T80 V80 h80 S80 C80 q80
  obtain ⟨u, ku, rfl, Eu, fru, nau, Vu⟩ := q80
  show Go p e below _ (T80.setTop (mkF m 36 #[.val (.ref x), .val (.int pp), .val (.int qq), .val (.int oo), .val (.int dd), .unset] [(.ref u), (.ref x)]))
  show Go p e below _ (T80.setTop (mkF m 36 #[.val (.ref x), .val (.int pp), .val (.int qq), .val (.int oo), .val (.int dd), .unset] [(.ref u), (.ref x)]))
  have Fb82 := Fb.ext Eu
  have Ex83 := Ex.ext Eu
  have Ft84 := Ft.ext Eu
  have Fn85 := Fn.ext Eu
  refine g_putF S80 (w32 hw) Via.refl Fb82 Ex83 (Or.inl (w33 hw)) (w1 hw) (ty := (.array .int)) (v' := (.ref u)) (by decide) rfl rfl nx (Safe.exa S80.warm.alike Ex83 (by decide) (by decide)) (hb hby dAD0_36) ?_
  intro T81 h81 S81 K81 W81 A81 F81 sg81
  have F86 := Ft84.other W81 (Or.inr (slot_ne (Or.inr (w30 hw)) (Or.inl (w33 hw)) (by decide) (t := (.object "java/lang/StringBuilder")) (t' := (.array .int)) (by decide) (by decide)))
  have F87 := Fn85.other W81 (Or.inr (slot_ne (Or.inl (w136 hw)) (Or.inl (w33 hw)) (by decide) (t := .int) (t' := (.array .int)) (by decide) (by decide)))
  show Go p e below _ (T81.setTop (mkF m 39 #[.val (.ref x), .val (.int pp), .val (.int qq), .val (.int oo), .val (.int dd), .unset] []))
  refine s_aloadN S81 (hb hby dAD0_39) rfl rfl (pc' := 40) rfl ?_
  refine g_getF S81 (w135 hw) Via.refl F87 (hb hby dAD0_40) ?_
  intro T88 ST88
  show Go p e below _ (T88.setTop (mkF m 43 #[.val (.ref x), .val (.int pp), .val (.int qq), .val (.int oo), .val (.int dd), .unset] [(.int (0 : Int32))]))
  refine s_iconst ST88 (hb hby dAD0_43) (v := (5 : Int32)) rfl (pc' := 44) rfl ?_
  refine s_imul ST88 (hb hby dAD0_44) (z := (0 : Int32)) rfl (pc' := 45) rfl ?_
  refine s_istore ST88 (hb hby dAD0_45) (L' := #[.val (.ref x), .val (.int pp), .val (.int qq), .val (.int oo), .val (.int dd), .val (.int (0 : Int32))]) rfl (pc' := 47) rfl ?_
  refine s_aloadN ST88 (hb hby dAD0_47) rfl rfl (pc' := 48) rfl ?_
  refine g_getF ST88 (w32 hw) Via.refl F81 (hb hby dAD0_48) ?_
  intro T89 ST89
  show Go p e below _ (T89.setTop (mkF m 51 #[.val (.ref x), .val (.int pp), .val (.int qq), .val (.int oo), .val (.int dd), .val (.int (0 : Int32))] [(.ref u)]))
  refine s_iload ST89 (hb hby dAD0_51) rfl (pc' := 53) rfl ?_
  refine s_iconst ST89 (hb hby dAD0_53) (v := (0 : Int32)) rfl (pc' := 54) rfl ?_
  refine s_iadd ST89 (hb hby dAD0_54) (z := (0 : Int32)) rfl (pc' := 55) rfl ?_
  refine s_iloadN ST89 (hb hby dAD0_55) rfl (pc' := 56) rfl ?_
  show Go p e below _ (T89.setTop (mkF m 56 #[.val (.ref x), .val (.int pp), .val (.int qq), .val (.int oo), .val (.int dd), .val (.int (0 : Int32))] [(.int pp), (.int (0 : Int32)), (.ref u)]))
  have F91 := Vu.keep K81 (ninS (Ne.symm (Nat.ne_of_lt (Nat.lt_of_lt_of_le (Nat.lt_of_lt_of_le Ex.lt (Nat.le_refl _)) fru))) nin0)
  refine g_iastore ST89 F91 ⟨by decide, by decide⟩ 0 rfl (Nat.le_of_ble_eq_true rfl) nau (hb hby dAD0_56) ?_
  intro T90 h90 S90 K90 V90 sg90
  have V90 : Arv Z h90 u ku .int (80 : Int32) [(.int pp), (.int (0 : Int32)), (.int (0 : Int32)), (.int (0 : Int32)), (.int (0 : Int32)), (.int (0 : Int32)), (.int (0 : Int32)), (.int (0 : Int32)), (.int (0 : Int32)), (.int (0 : Int32)), (.int (0 : Int32)), (.int (0 : Int32)), (.int (0 : Int32)), (.int (0 : Int32)), (.int (0 : Int32))] (.int (0 : Int32)) := V90
  show Go p e below _ (T90.setTop (mkF m 57 #[.val (.ref x), .val (.int pp), .val (.int qq), .val (.int oo), .val (.int dd), .val (.int (0 : Int32))] []))
  refine s_aloadN S90 (hb hby dAD0_57) rfl rfl (pc' := 58) rfl ?_
  have F92 := F81.keep K90 (ninS (Nat.ne_of_lt (Nat.lt_of_lt_of_le (Nat.lt_of_lt_of_le Ex.lt (Nat.le_refl _)) fru)) nin0)
  refine g_getF S90 (w32 hw) Via.refl F92 (hb hby dAD0_58) ?_
  intro T93 ST93
  show Go p e below _ (T93.setTop (mkF m 61 #[.val (.ref x), .val (.int pp), .val (.int qq), .val (.int oo), .val (.int dd), .val (.int (0 : Int32))] [(.ref u)]))
  refine s_iload ST93 (hb hby dAD0_61) rfl (pc' := 63) rfl ?_
  refine s_iconst ST93 (hb hby dAD0_63) (v := (1 : Int32)) rfl (pc' := 64) rfl ?_
  refine s_iadd ST93 (hb hby dAD0_64) (z := (1 : Int32)) rfl (pc' := 65) rfl ?_
  refine s_iloadN ST93 (hb hby dAD0_65) rfl (pc' := 66) rfl ?_
  show Go p e below _ (T93.setTop (mkF m 66 #[.val (.ref x), .val (.int pp), .val (.int qq), .val (.int oo), .val (.int dd), .val (.int (0 : Int32))] [(.int qq), (.int (1 : Int32)), (.ref u)]))
  refine g_iastore ST93 V90 ⟨by decide, by decide⟩ 1 rfl (Nat.le_of_ble_eq_true rfl) nau (hb hby dAD0_66) ?_
  intro T94 h94 S94 K94 V94 sg94
  have V94 : Arv Z h94 u ku .int (80 : Int32) [(.int pp), (.int qq), (.int (0 : Int32)), (.int (0 : Int32)), (.int (0 : Int32)), (.int (0 : Int32)), (.int (0 : Int32)), (.int (0 : Int32)), (.int (0 : Int32)), (.int (0 : Int32)), (.int (0 : Int32)), (.int (0 : Int32)), (.int (0 : Int32)), (.int (0 : Int32)), (.int (0 : Int32))] (.int (0 : Int32)) := V94
  show Go p e below _ (T94.setTop (mkF m 67 #[.val (.ref x), .val (.int pp), .val (.int qq), .val (.int oo), .val (.int dd), .val (.int (0 : Int32))] []))
  refine s_aloadN S94 (hb hby dAD0_67) rfl rfl (pc' := 68) rfl ?_
  have F95 := F92.keep K94 (ninS (Nat.ne_of_lt (Nat.lt_of_lt_of_le (Nat.lt_of_lt_of_le Ex.lt (Nat.le_refl _)) fru)) nin0)
  refine g_getF S94 (w32 hw) Via.refl F95 (hb hby dAD0_68) ?_
  intro T96 ST96
  show Go p e below _ (T96.setTop (mkF m 71 #[.val (.ref x), .val (.int pp), .val (.int qq), .val (.int oo), .val (.int dd), .val (.int (0 : Int32))] [(.ref u)]))
  refine s_iload ST96 (hb hby dAD0_71) rfl (pc' := 73) rfl ?_
  refine s_iconst ST96 (hb hby dAD0_73) (v := (2 : Int32)) rfl (pc' := 74) rfl ?_
  refine s_iadd ST96 (hb hby dAD0_74) (z := (2 : Int32)) rfl (pc' := 75) rfl ?_
  refine s_iloadN ST96 (hb hby dAD0_75) rfl (pc' := 76) rfl ?_
  show Go p e below _ (T96.setTop (mkF m 76 #[.val (.ref x), .val (.int pp), .val (.int qq), .val (.int oo), .val (.int dd), .val (.int (0 : Int32))] [(.int oo), (.int (2 : Int32)), (.ref u)]))
  refine g_iastore ST96 V94 ⟨by decide, by decide⟩ 2 rfl (Nat.le_of_ble_eq_true rfl) nau (hb hby dAD0_76) ?_
  intro T97 h97 S97 K97 V97 sg97
  have V97 : Arv Z h97 u ku .int (80 : Int32) [(.int pp), (.int qq), (.int oo), (.int (0 : Int32)), (.int (0 : Int32)), (.int (0 : Int32)), (.int (0 : Int32)), (.int (0 : Int32)), (.int (0 : Int32)), (.int (0 : Int32)), (.int (0 : Int32)), (.int (0 : Int32)), (.int (0 : Int32)), (.int (0 : Int32)), (.int (0 : Int32))] (.int (0 : Int32)) := V97
  show Go p e below _ (T97.setTop (mkF m 77 #[.val (.ref x), .val (.int pp), .val (.int qq), .val (.int oo), .val (.int dd), .val (.int (0 : Int32))] []))
  refine s_aloadN S97 (hb hby dAD0_77) rfl rfl (pc' := 78) rfl ?_
  have F98 := F95.keep K97 (ninS (Nat.ne_of_lt (Nat.lt_of_lt_of_le (Nat.lt_of_lt_of_le Ex.lt (Nat.le_refl _)) fru)) nin0)
  refine g_getF S97 (w32 hw) Via.refl F98 (hb hby dAD0_78) ?_
  intro T99 ST99
  show Go p e below _ (T99.setTop (mkF m 81 #[.val (.ref x), .val (.int pp), .val (.int qq), .val (.int oo), .val (.int dd), .val (.int (0 : Int32))] [(.ref u)]))
  refine s_iload ST99 (hb hby dAD0_81) rfl (pc' := 83) rfl ?_
  refine s_iconst ST99 (hb hby dAD0_83) (v := (3 : Int32)) rfl (pc' := 84) rfl ?_
  refine s_iadd ST99 (hb hby dAD0_84) (z := (3 : Int32)) rfl (pc' := 85) rfl ?_
  refine s_iload ST99 (hb hby dAD0_85) rfl (pc' := 87) rfl ?_
  show Go p e below _ (T99.setTop (mkF m 87 #[.val (.ref x), .val (.int pp), .val (.int qq), .val (.int oo), .val (.int dd), .val (.int (0 : Int32))] [(.int dd), (.int (3 : Int32)), (.ref u)]))
  refine g_iastore ST99 V97 ⟨by decide, by decide⟩ 3 rfl (Nat.le_of_ble_eq_true rfl) nau (hb hby dAD0_87) ?_
  intro T100 h100 S100 K100 V100 sg100
  have V100 : Arv Z h100 u ku .int (80 : Int32) [(.int pp), (.int qq), (.int oo), (.int dd), (.int (0 : Int32)), (.int (0 : Int32)), (.int (0 : Int32)), (.int (0 : Int32)), (.int (0 : Int32)), (.int (0 : Int32)), (.int (0 : Int32)), (.int (0 : Int32)), (.int (0 : Int32)), (.int (0 : Int32)), (.int (0 : Int32))] (.int (0 : Int32)) := V100
  show Go p e below _ (T100.setTop (mkF m 88 #[.val (.ref x), .val (.int pp), .val (.int qq), .val (.int oo), .val (.int dd), .val (.int (0 : Int32))] []))
  refine s_aloadN S100 (hb hby dAD0_88) rfl rfl (pc' := 89) rfl ?_
  have F101 := F98.keep K100 (ninS (Nat.ne_of_lt (Nat.lt_of_lt_of_le (Nat.lt_of_lt_of_le Ex.lt (Nat.le_refl _)) fru)) nin0)
  refine g_getF S100 (w32 hw) Via.refl F101 (hb hby dAD0_89) ?_
  intro T102 ST102
  show Go p e below _ (T102.setTop (mkF m 92 #[.val (.ref x), .val (.int pp), .val (.int qq), .val (.int oo), .val (.int dd), .val (.int (0 : Int32))] [(.ref u)]))
  refine s_iload ST102 (hb hby dAD0_92) rfl (pc' := 94) rfl ?_
  refine s_iconst ST102 (hb hby dAD0_94) (v := (4 : Int32)) rfl (pc' := 95) rfl ?_
  refine s_iadd ST102 (hb hby dAD0_95) (z := (4 : Int32)) rfl (pc' := 96) rfl ?_
  refine s_aloadN ST102 (hb hby dAD0_96) rfl rfl (pc' := 97) rfl ?_
  have F103 := F86.keep K90 (ninS (Nat.ne_of_lt (Nat.lt_of_lt_of_le (Nat.lt_of_lt_of_le Ex.lt (Nat.le_refl _)) fru)) nin0)
  have F104 := F103.keep K94 (ninS (Nat.ne_of_lt (Nat.lt_of_lt_of_le (Nat.lt_of_lt_of_le Ex.lt (Nat.le_refl _)) fru)) nin0)
  have F105 := F104.keep K97 (ninS (Nat.ne_of_lt (Nat.lt_of_lt_of_le (Nat.lt_of_lt_of_le Ex.lt (Nat.le_refl _)) fru)) nin0)
  have F106 := F105.keep K100 (ninS (Nat.ne_of_lt (Nat.lt_of_lt_of_le (Nat.lt_of_lt_of_le Ex.lt (Nat.le_refl _)) fru)) nin0)
  refine g_getF ST102 (w29 hw) Via.refl F106 (hb hby dAD0_97) ?_
  intro T107 ST107
  show Go p e below _ (T107.setTop (mkF m 100 #[.val (.ref x), .val (.int pp), .val (.int qq), .val (.int oo), .val (.int dd), .val (.int (0 : Int32))] [(.ref sb), (.int (4 : Int32)), (.ref u)]))
  have F108 := Es.ext Eu
  have F109 := F108.keep K81
  have F110 := F109.keep K90
  have F111 := F110.keep K94
  have F112 := F111.keep K97
  have F113 := F112.keep K100
  have F114 := Fv.ext Eu
  have F115 := F114.keep K81 (ninS (Ne.symm nXS) nin0)
  have F116 := F115.keep K90 (ninS (Nat.ne_of_lt (Nat.lt_of_lt_of_le (Nat.lt_of_lt_of_le Es.lt (Nat.le_refl _)) fru)) nin0)
  have F117 := F116.keep K94 (ninS (Nat.ne_of_lt (Nat.lt_of_lt_of_le (Nat.lt_of_lt_of_le Es.lt (Nat.le_refl _)) fru)) nin0)
  have F118 := F117.keep K97 (ninS (Nat.ne_of_lt (Nat.lt_of_lt_of_le (Nat.lt_of_lt_of_le Es.lt (Nat.le_refl _)) fru)) nin0)
  have F119 := F118.keep K100 (ninS (Nat.ne_of_lt (Nat.lt_of_lt_of_le (Nat.lt_of_lt_of_le Es.lt (Nat.le_refl _)) fru)) nin0)
  have F120 := Fk.ext Eu
  have F121 := F120.keep K81 (ninS (Ne.symm nXS) nin0)
  have F122 := F121.keep K90 (ninS (Nat.ne_of_lt (Nat.lt_of_lt_of_le (Nat.lt_of_lt_of_le Es.lt (Nat.le_refl _)) fru)) nin0)
  have F123 := F122.keep K94 (ninS (Nat.ne_of_lt (Nat.lt_of_lt_of_le (Nat.lt_of_lt_of_le Es.lt (Nat.le_refl _)) fru)) nin0)
  have F124 := F123.keep K97 (ninS (Nat.ne_of_lt (Nat.lt_of_lt_of_le (Nat.lt_of_lt_of_le Es.lt (Nat.le_refl _)) fru)) nin0)
  have F125 := F124.keep K100 (ninS (Nat.ne_of_lt (Nat.lt_of_lt_of_le (Nat.lt_of_lt_of_le Es.lt (Nat.le_refl _)) fru)) nin0)
  have F126 := Fs.ext Eu
  have F127 := F126.keep K81 (ninS (Ne.symm nXS) nin0)
  have F128 := F127.keep K90 (ninS (Nat.ne_of_lt (Nat.lt_of_lt_of_le (Nat.lt_of_lt_of_le Es.lt (Nat.le_refl _)) fru)) nin0)
  have F129 := F128.keep K94 (ninS (Nat.ne_of_lt (Nat.lt_of_lt_of_le (Nat.lt_of_lt_of_le Es.lt (Nat.le_refl _)) fru)) nin0)
  have F130 := F129.keep K97 (ninS (Nat.ne_of_lt (Nat.lt_of_lt_of_le (Nat.lt_of_lt_of_le Es.lt (Nat.le_refl _)) fru)) nin0)
  have F131 := F130.keep K100 (ninS (Nat.ne_of_lt (Nat.lt_of_lt_of_le (Nat.lt_of_lt_of_le Es.lt (Nat.le_refl _)) fru)) nin0)
  show Go p e below _ (T107.setTop (mkF m 100 #[.val (.ref x), .val (.int pp), .val (.int qq), .val (.int oo), .val (.int dd), .val (.int (0 : Int32))] [(.ref sb), (.int (4 : Int32)), (.ref u)]))
  refine g_virtual ST107 (rmSL X ST107.old F113 F119 F125 F131) (fun _ q => nomatch q) (w122 hw) (w123 hw) (w125 hw) (w124 hw) (w11 hw) (w126 hw) (by decide) (fun _ h => notFace_of_selects h) (hb hby dAD0_100) (by rw [hml]; rfl) sb F113 [] (lenOf pd1 rfl) rfl rfl (Nat.le_of_ble_eq_true rfl) (Nat.le_of_ble_eq_true rfl) (Nat.le_of_ble_eq_true rfl) (Nat.le_of_ble_eq_true rfl) ?_
  intro v132 T132 V132 h132 S132 C132 q132
  obtain ⟨rfl, rfl⟩ := q132
  show Go p e below _ (T132.setTop (mkF m 103 #[.val (.ref x), .val (.int pp), .val (.int qq), .val (.int oo), .val (.int dd), .val (.int (0 : Int32))] [(.int sc), (.int (4 : Int32)), (.ref u)]))
  show Go p e below _ (T132.setTop (mkF m 103 #[.val (.ref x), .val (.int pp), .val (.int qq), .val (.int oo), .val (.int dd), .val (.int (0 : Int32))] [(.int sc), (.int (4 : Int32)), (.ref u)]))
  refine g_iastore S132 V100 ⟨by decide, by decide⟩ 4 rfl (Nat.le_of_ble_eq_true rfl) nau (hb hby dAD0_103) ?_
  intro T133 h133 S133 K133 V133 sg133
  have V133 : Arv Z h133 u ku .int (80 : Int32) [(.int pp), (.int qq), (.int oo), (.int dd), (.int sc), (.int (0 : Int32)), (.int (0 : Int32)), (.int (0 : Int32)), (.int (0 : Int32)), (.int (0 : Int32)), (.int (0 : Int32)), (.int (0 : Int32)), (.int (0 : Int32)), (.int (0 : Int32)), (.int (0 : Int32))] (.int (0 : Int32)) := V133
  show Go p e below _ (T133.setTop (mkF m 104 #[.val (.ref x), .val (.int pp), .val (.int qq), .val (.int oo), .val (.int dd), .val (.int (0 : Int32))] []))
  refine s_aloadN S133 (hb hby dAD0_104) rfl rfl (pc' := 105) rfl ?_
  refine s_dup S133 (hb hby dAD0_105) rfl (pc' := 106) rfl ?_
  have F134 := F87.keep K90 (ninS (Nat.ne_of_lt (Nat.lt_of_lt_of_le (Nat.lt_of_lt_of_le Ex.lt (Nat.le_refl _)) fru)) nin0)
  have F135 := F134.keep K94 (ninS (Nat.ne_of_lt (Nat.lt_of_lt_of_le (Nat.lt_of_lt_of_le Ex.lt (Nat.le_refl _)) fru)) nin0)
  have F136 := F135.keep K97 (ninS (Nat.ne_of_lt (Nat.lt_of_lt_of_le (Nat.lt_of_lt_of_le Ex.lt (Nat.le_refl _)) fru)) nin0)
  have F137 := F136.keep K100 (ninS (Nat.ne_of_lt (Nat.lt_of_lt_of_le (Nat.lt_of_lt_of_le Ex.lt (Nat.le_refl _)) fru)) nin0)
  have F138 := F137.keep K133 (ninS (Nat.ne_of_lt (Nat.lt_of_lt_of_le (Nat.lt_of_lt_of_le Ex.lt (Nat.le_refl _)) fru)) nin0)
  refine g_getF S133 (w135 hw) Via.refl F138 (hb hby dAD0_106) ?_
  intro T139 ST139
  show Go p e below _ (T139.setTop (mkF m 109 #[.val (.ref x), .val (.int pp), .val (.int qq), .val (.int oo), .val (.int dd), .val (.int (0 : Int32))] [(.int (0 : Int32)), (.ref x)]))
  refine s_iconst ST139 (hb hby dAD0_109) (v := (1 : Int32)) rfl (pc' := 110) rfl ?_
  refine s_iadd ST139 (hb hby dAD0_110) (z := (1 : Int32)) rfl (pc' := 111) rfl ?_
  show Go p e below _ (T139.setTop (mkF m 111 #[.val (.ref x), .val (.int pp), .val (.int qq), .val (.int oo), .val (.int dd), .val (.int (0 : Int32))] [(.int (1 : Int32)), (.ref x)]))
  have F141 := A81.keep K90
  have F142 := F141.keep K94
  have F143 := F142.keep K97
  have F144 := F143.keep K100
  have F145 := F144.keep K133
  have F146 := F106.keep K133 (ninS (Nat.ne_of_lt (Nat.lt_of_lt_of_le (Nat.lt_of_lt_of_le Ex.lt (Nat.le_refl _)) fru)) nin0)
  have F147 := F101.keep K133 (ninS (Nat.ne_of_lt (Nat.lt_of_lt_of_le (Nat.lt_of_lt_of_le Ex.lt (Nat.le_refl _)) fru)) nin0)
  refine g_putF ST139 (w135 hw) Via.refl F138 F145 (Or.inl (w136 hw)) (w1 hw) (ty := .int) (v' := (.int (1 : Int32))) (by decide) rfl rfl nx (Safe.exa ST139.warm.alike F145 (by decide) (by decide)) (hb hby dAD0_111) ?_
  intro T140 h140 S140 K140 W140 A140 F140 sg140
  have F148 := F146.other W140 (Or.inr (slot_ne (Or.inr (w30 hw)) (Or.inl (w136 hw)) (by decide) (t := (.object "java/lang/StringBuilder")) (t' := .int) (by decide) (by decide)))
  have F149 := F147.other W140 (Or.inr (slot_ne (Or.inl (w33 hw)) (Or.inl (w136 hw)) (by decide) (t := (.array .int)) (t' := .int) (by decide) (by decide)))
  show Go p e below _ (T140.setTop (mkF m 114 #[.val (.ref x), .val (.int pp), .val (.int qq), .val (.int oo), .val (.int dd), .val (.int (0 : Int32))] []))
  show Go p e below _ (T140.setTop (mkF m 114 #[.val (.ref x), .val (.int pp), .val (.int qq), .val (.int oo), .val (.int dd), .val (.int (0 : Int32))] []))
  have KA150 := ((Keep.refl h79 [x]).ext Eu)
  have KA151 := (KA150.trans K81 (allS (Or.inl (by simp)) all0))
  have KA152 := (KA151.trans K90 (allS (Or.inr fru) all0))
  have KA153 := (KA152.trans K94 (allS (Or.inr fru) all0))
  have KA154 := (KA153.trans K97 (allS (Or.inr fru) all0))
  have KA155 := (KA154.trans K100 (allS (Or.inr fru) all0))
  have KA156 := (KA155.trans K133 (allS (Or.inr fru) all0))
  have KA157 : Keep h79 h140 [x] := (KA156.trans K140 (allS (Or.inl (by simp)) all0))
  have F158 := V133.keep K140 (ninS (Ne.symm (Nat.ne_of_lt (Nat.lt_of_lt_of_le (Nat.lt_of_lt_of_le Ex.lt (Nat.le_refl _)) fru))) nin0)
  have F159 := F113.keep K133
  have F160 := F159.keep K140
  have F161 := F119.keep K133 (ninS (Nat.ne_of_lt (Nat.lt_of_lt_of_le (Nat.lt_of_lt_of_le Es.lt (Nat.le_refl _)) fru)) nin0)
  have F162 := F161.keep K140 (ninS (Ne.symm nXS) nin0)
  have F163 := F125.keep K133 (ninS (Nat.ne_of_lt (Nat.lt_of_lt_of_le (Nat.lt_of_lt_of_le Es.lt (Nat.le_refl _)) fru)) nin0)
  have F164 := F163.keep K140 (ninS (Ne.symm nXS) nin0)
  have F165 := F131.keep K133 (ninS (Nat.ne_of_lt (Nat.lt_of_lt_of_le (Nat.lt_of_lt_of_le Es.lt (Nat.le_refl _)) fru)) nin0)
  have F166 := F165.keep K140 (ninS (Ne.symm nXS) nin0)
  have F167 := Vb.ext Eu
  have F168 := F167.keep K81 (ninS (Ne.symm nXB) nin0)
  have F169 := F168.keep K90 (ninS (Nat.ne_of_lt (Nat.lt_of_lt_of_le (Nat.lt_of_lt_of_le Vb.lt (Nat.le_refl _)) fru)) nin0)
  have F170 := F169.keep K94 (ninS (Nat.ne_of_lt (Nat.lt_of_lt_of_le (Nat.lt_of_lt_of_le Vb.lt (Nat.le_refl _)) fru)) nin0)
  have F171 := F170.keep K97 (ninS (Nat.ne_of_lt (Nat.lt_of_lt_of_le (Nat.lt_of_lt_of_le Vb.lt (Nat.le_refl _)) fru)) nin0)
  have F172 := F171.keep K100 (ninS (Nat.ne_of_lt (Nat.lt_of_lt_of_le (Nat.lt_of_lt_of_le Vb.lt (Nat.le_refl _)) fru)) nin0)
  have F173 := F172.keep K133 (ninS (Nat.ne_of_lt (Nat.lt_of_lt_of_le (Nat.lt_of_lt_of_le Vb.lt (Nat.le_refl _)) fru)) nin0)
  have F174 := F173.keep K140 (ninS (Ne.symm nXB) nin0)
  exact g_ret S140 (hb hby dAD0_114) hret ⟨rfl, u, ku, KA157, ⟨A140, F148, F149, F140, F158, ⟨F160, F162, F164, F166, F174⟩, nx, ns, nb, nau⟩⟩
theorem dAD1_0 : decode prog_3_method_13_code 0 = .ok (.aload_n 0, 1) := by decide +kernel
theorem dAD1_1 : decode prog_3_method_13_code 1 = .ok (.getfield 16, 3) := by decide +kernel
theorem dAD1_4 : decode prog_3_method_13_code 4 = .ok (.arraylength, 1) := by decide +kernel
theorem dAD1_5 : decode prog_3_method_13_code 5 = .ok (.aload_n 0, 1) := by decide +kernel
theorem dAD1_6 : decode prog_3_method_13_code 6 = .ok (.getfield 38, 3) := by decide +kernel
theorem dAD1_9 : decode prog_3_method_13_code 9 = .ok (.iconst 1, 1) := by decide +kernel
theorem dAD1_10 : decode prog_3_method_13_code 10 = .ok (.iadd, 1) := by decide +kernel
theorem dAD1_11 : decode prog_3_method_13_code 11 = .ok (.iconst 5, 1) := by decide +kernel
theorem dAD1_12 : decode prog_3_method_13_code 12 = .ok (.imul, 1) := by decide +kernel
theorem dAD1_13 : decode prog_3_method_13_code 13 = .ok (.if_icmp .ge 26, 3) := by decide +kernel
theorem dAD1_39 : decode prog_3_method_13_code 39 = .ok (.aload_n 0, 1) := by decide +kernel
theorem dAD1_40 : decode prog_3_method_13_code 40 = .ok (.getfield 38, 3) := by decide +kernel
theorem dAD1_43 : decode prog_3_method_13_code 43 = .ok (.iconst 5, 1) := by decide +kernel
theorem dAD1_44 : decode prog_3_method_13_code 44 = .ok (.imul, 1) := by decide +kernel
theorem dAD1_45 : decode prog_3_method_13_code 45 = .ok (.istore 5, 2) := by decide +kernel
theorem dAD1_47 : decode prog_3_method_13_code 47 = .ok (.aload_n 0, 1) := by decide +kernel
theorem dAD1_48 : decode prog_3_method_13_code 48 = .ok (.getfield 16, 3) := by decide +kernel
theorem dAD1_51 : decode prog_3_method_13_code 51 = .ok (.iload 5, 2) := by decide +kernel
theorem dAD1_53 : decode prog_3_method_13_code 53 = .ok (.iconst 0, 1) := by decide +kernel
theorem dAD1_54 : decode prog_3_method_13_code 54 = .ok (.iadd, 1) := by decide +kernel
theorem dAD1_55 : decode prog_3_method_13_code 55 = .ok (.iload_n 1, 1) := by decide +kernel
theorem dAD1_56 : decode prog_3_method_13_code 56 = .ok (.iastore, 1) := by decide +kernel
theorem dAD1_57 : decode prog_3_method_13_code 57 = .ok (.aload_n 0, 1) := by decide +kernel
theorem dAD1_58 : decode prog_3_method_13_code 58 = .ok (.getfield 16, 3) := by decide +kernel
theorem dAD1_61 : decode prog_3_method_13_code 61 = .ok (.iload 5, 2) := by decide +kernel
theorem dAD1_63 : decode prog_3_method_13_code 63 = .ok (.iconst 1, 1) := by decide +kernel
theorem dAD1_64 : decode prog_3_method_13_code 64 = .ok (.iadd, 1) := by decide +kernel
theorem dAD1_65 : decode prog_3_method_13_code 65 = .ok (.iload_n 2, 1) := by decide +kernel
theorem dAD1_66 : decode prog_3_method_13_code 66 = .ok (.iastore, 1) := by decide +kernel
theorem dAD1_67 : decode prog_3_method_13_code 67 = .ok (.aload_n 0, 1) := by decide +kernel
theorem dAD1_68 : decode prog_3_method_13_code 68 = .ok (.getfield 16, 3) := by decide +kernel
theorem dAD1_71 : decode prog_3_method_13_code 71 = .ok (.iload 5, 2) := by decide +kernel
theorem dAD1_73 : decode prog_3_method_13_code 73 = .ok (.iconst 2, 1) := by decide +kernel
theorem dAD1_74 : decode prog_3_method_13_code 74 = .ok (.iadd, 1) := by decide +kernel
theorem dAD1_75 : decode prog_3_method_13_code 75 = .ok (.iload_n 3, 1) := by decide +kernel
theorem dAD1_76 : decode prog_3_method_13_code 76 = .ok (.iastore, 1) := by decide +kernel
theorem dAD1_77 : decode prog_3_method_13_code 77 = .ok (.aload_n 0, 1) := by decide +kernel
theorem dAD1_78 : decode prog_3_method_13_code 78 = .ok (.getfield 16, 3) := by decide +kernel
theorem dAD1_81 : decode prog_3_method_13_code 81 = .ok (.iload 5, 2) := by decide +kernel
theorem dAD1_83 : decode prog_3_method_13_code 83 = .ok (.iconst 3, 1) := by decide +kernel
theorem dAD1_84 : decode prog_3_method_13_code 84 = .ok (.iadd, 1) := by decide +kernel
theorem dAD1_85 : decode prog_3_method_13_code 85 = .ok (.iload 4, 2) := by decide +kernel
theorem dAD1_87 : decode prog_3_method_13_code 87 = .ok (.iastore, 1) := by decide +kernel
theorem dAD1_88 : decode prog_3_method_13_code 88 = .ok (.aload_n 0, 1) := by decide +kernel
theorem dAD1_89 : decode prog_3_method_13_code 89 = .ok (.getfield 16, 3) := by decide +kernel
theorem dAD1_92 : decode prog_3_method_13_code 92 = .ok (.iload 5, 2) := by decide +kernel
theorem dAD1_94 : decode prog_3_method_13_code 94 = .ok (.iconst 4, 1) := by decide +kernel
theorem dAD1_95 : decode prog_3_method_13_code 95 = .ok (.iadd, 1) := by decide +kernel
theorem dAD1_96 : decode prog_3_method_13_code 96 = .ok (.aload_n 0, 1) := by decide +kernel
theorem dAD1_97 : decode prog_3_method_13_code 97 = .ok (.getfield 10, 3) := by decide +kernel
theorem dAD1_100 : decode prog_3_method_13_code 100 = .ok (.invokevirtual 31, 3) := by decide +kernel
theorem dAD1_103 : decode prog_3_method_13_code 103 = .ok (.iastore, 1) := by decide +kernel
theorem dAD1_104 : decode prog_3_method_13_code 104 = .ok (.aload_n 0, 1) := by decide +kernel
theorem dAD1_105 : decode prog_3_method_13_code 105 = .ok (.dup, 1) := by decide +kernel
theorem dAD1_106 : decode prog_3_method_13_code 106 = .ok (.getfield 38, 3) := by decide +kernel
theorem dAD1_109 : decode prog_3_method_13_code 109 = .ok (.iconst 1, 1) := by decide +kernel
theorem dAD1_110 : decode prog_3_method_13_code 110 = .ok (.iadd, 1) := by decide +kernel
theorem dAD1_111 : decode prog_3_method_13_code 111 = .ok (.putfield 38, 3) := by decide +kernel
theorem dAD1_114 : decode prog_3_method_13_code 114 = .ok (.return_, 1) := by decide +kernel
set_option maxRecDepth 65536 in
set_option maxHeartbeats 40000000 in
theorem rmAD1 {l : Launch} {Z : State} {a0 : Array Value} {n0 : Nat} (X : Ctx Z a0) {x sb tb t : Addr} {kb kt : ClassId} {bs : List Value} {sc r0 r1 r2 r3 r4 : Int32} (pp qq oo dd : Int32) {h : Heap} (hO : Old Z n0 h) (A : AS Z h n0 x sb tb t kb kt (1 : Int32) (80 : Int32) [(.int r0), (.int r1), (.int r2), (.int r3), (.int r4), (.int (0 : Int32)), (.int (0 : Int32)), (.int (0 : Int32)), (.int (0 : Int32)), (.int (0 : Int32)), (.int (0 : Int32)), (.int (0 : Int32)), (.int (0 : Int32)), (.int (0 : Int32)), (.int (0 : Int32))] (16 : Int32) sc bs) :
    Ctr l Z EL1 n0 (⟨"com/example/nodewarden/nodewarden/core/Asides", "add", "(IIII)V"⟩ : MethodName) prog_3_method_13_code 6 none ({ frames := 2, cells := 0, slots := 0, locals := 26 } : Room) #[(.ref x), (.int pp), (.int qq), (.int oo), (.int dd)] h [] (fun v h' => v = none ∧ Keep h h' [x, t] ∧ AS Z h' n0 x sb tb t kb kt (2 : Int32) (80 : Int32) [(.int r0), (.int r1), (.int r2), (.int r3), (.int r4), (.int pp), (.int qq), (.int oo), (.int dd), (.int sc), (.int (0 : Int32)), (.int (0 : Int32)), (.int (0 : Int32)), (.int (0 : Int32)), (.int (0 : Int32))] (16 : Int32) sc bs) := by
  have hw := X.hw
  obtain ⟨z1, hz1, hz2⟩ := X.2.2.1
  refine Ctr.intro (a0 := a0) (plainFor_of_name pn3) hO X.ew ?_
  intro p e s m below meth c T0 V0 S0 hby hml hret hnm hsf
  rw [ef6]
  obtain ⟨Ex, Ft, Fb, Fn, Vt, ⟨Es, Fv, Fk, Fs, Vb⟩, nx, ns, nb, nt⟩ := A
  have nXS : x ≠ sb := ne_exa Ex Es (by decide)
  have nXT : x ≠ t := Exa.neArv Ex Vt (w1 hw)
  have nXB : x ≠ tb := Exa.neArv Ex Vb (w1 hw)
  have nST : sb ≠ t := Exa.neArv Es Vt (w10 hw)
  have nSB : sb ≠ tb := Exa.neArv Es Vb (w10 hw)
  have nTB : t ≠ tb := arv_kne Vt Vb (by decide)
  show Go p e below _ (T0.setTop (mkF m 0 #[.val (.ref x), .val (.int pp), .val (.int qq), .val (.int oo), .val (.int dd), .unset] []))
  refine s_aloadN S0 (hb hby dAD1_0) rfl rfl (pc' := 1) rfl ?_
  refine g_getF S0 (w32 hw) Via.refl Fb (hb hby dAD1_1) ?_
  intro T175 ST175
  show Go p e below _ (T175.setTop (mkF m 4 #[.val (.ref x), .val (.int pp), .val (.int qq), .val (.int oo), .val (.int dd), .unset] [(.ref t)]))
  refine g_len ST175 Vt (hb hby dAD1_4) ?_
  show Go p e below _ (T175.setTop (mkF m 5 #[.val (.ref x), .val (.int pp), .val (.int qq), .val (.int oo), .val (.int dd), .unset] [(.int (80 : Int32))]))
  refine s_aloadN ST175 (hb hby dAD1_5) rfl rfl (pc' := 6) rfl ?_
  refine g_getF ST175 (w135 hw) Via.refl Fn (hb hby dAD1_6) ?_
  intro T176 ST176
  show Go p e below _ (T176.setTop (mkF m 9 #[.val (.ref x), .val (.int pp), .val (.int qq), .val (.int oo), .val (.int dd), .unset] [(.int (1 : Int32)), (.int (80 : Int32))]))
  refine s_iconst ST176 (hb hby dAD1_9) (v := (1 : Int32)) rfl (pc' := 10) rfl ?_
  refine s_iadd ST176 (hb hby dAD1_10) (z := (2 : Int32)) rfl (pc' := 11) rfl ?_
  refine s_iconst ST176 (hb hby dAD1_11) (v := (5 : Int32)) rfl (pc' := 12) rfl ?_
  refine s_imul ST176 (hb hby dAD1_12) (z := (10 : Int32)) rfl (pc' := 13) rfl ?_
  refine s_icmpY ST176 (hb hby dAD1_13) (by decide) (by decide) (pcT := 39) (by decide) ?_
  refine s_aloadN ST176 (hb hby dAD1_39) rfl rfl (pc' := 40) rfl ?_
  refine g_getF ST176 (w135 hw) Via.refl Fn (hb hby dAD1_40) ?_
  intro T177 ST177
  show Go p e below _ (T177.setTop (mkF m 43 #[.val (.ref x), .val (.int pp), .val (.int qq), .val (.int oo), .val (.int dd), .unset] [(.int (1 : Int32))]))
  refine s_iconst ST177 (hb hby dAD1_43) (v := (5 : Int32)) rfl (pc' := 44) rfl ?_
  refine s_imul ST177 (hb hby dAD1_44) (z := (5 : Int32)) rfl (pc' := 45) rfl ?_
  refine s_istore ST177 (hb hby dAD1_45) (L' := #[.val (.ref x), .val (.int pp), .val (.int qq), .val (.int oo), .val (.int dd), .val (.int (5 : Int32))]) rfl (pc' := 47) rfl ?_
  refine s_aloadN ST177 (hb hby dAD1_47) rfl rfl (pc' := 48) rfl ?_
  refine g_getF ST177 (w32 hw) Via.refl Fb (hb hby dAD1_48) ?_
  intro T178 ST178
  show Go p e below _ (T178.setTop (mkF m 51 #[.val (.ref x), .val (.int pp), .val (.int qq), .val (.int oo), .val (.int dd), .val (.int (5 : Int32))] [(.ref t)]))
  refine s_iload ST178 (hb hby dAD1_51) rfl (pc' := 53) rfl ?_
  refine s_iconst ST178 (hb hby dAD1_53) (v := (0 : Int32)) rfl (pc' := 54) rfl ?_
  refine s_iadd ST178 (hb hby dAD1_54) (z := (5 : Int32)) rfl (pc' := 55) rfl ?_
  refine s_iloadN ST178 (hb hby dAD1_55) rfl (pc' := 56) rfl ?_
  show Go p e below _ (T178.setTop (mkF m 56 #[.val (.ref x), .val (.int pp), .val (.int qq), .val (.int oo), .val (.int dd), .val (.int (5 : Int32))] [(.int pp), (.int (5 : Int32)), (.ref t)]))
  refine g_iastore ST178 Vt ⟨by decide, by decide⟩ 5 rfl (Nat.le_of_ble_eq_true rfl) nt (hb hby dAD1_56) ?_
  intro T179 h179 S179 K179 V179 sg179
  have V179 : Arv Z h179 t kt .int (80 : Int32) [(.int r0), (.int r1), (.int r2), (.int r3), (.int r4), (.int pp), (.int (0 : Int32)), (.int (0 : Int32)), (.int (0 : Int32)), (.int (0 : Int32)), (.int (0 : Int32)), (.int (0 : Int32)), (.int (0 : Int32)), (.int (0 : Int32)), (.int (0 : Int32))] (.int (0 : Int32)) := V179
  show Go p e below _ (T179.setTop (mkF m 57 #[.val (.ref x), .val (.int pp), .val (.int qq), .val (.int oo), .val (.int dd), .val (.int (5 : Int32))] []))
  refine s_aloadN S179 (hb hby dAD1_57) rfl rfl (pc' := 58) rfl ?_
  have F180 := Fb.keep K179 (ninS nXT nin0)
  refine g_getF S179 (w32 hw) Via.refl F180 (hb hby dAD1_58) ?_
  intro T181 ST181
  show Go p e below _ (T181.setTop (mkF m 61 #[.val (.ref x), .val (.int pp), .val (.int qq), .val (.int oo), .val (.int dd), .val (.int (5 : Int32))] [(.ref t)]))
  refine s_iload ST181 (hb hby dAD1_61) rfl (pc' := 63) rfl ?_
  refine s_iconst ST181 (hb hby dAD1_63) (v := (1 : Int32)) rfl (pc' := 64) rfl ?_
  refine s_iadd ST181 (hb hby dAD1_64) (z := (6 : Int32)) rfl (pc' := 65) rfl ?_
  refine s_iloadN ST181 (hb hby dAD1_65) rfl (pc' := 66) rfl ?_
  show Go p e below _ (T181.setTop (mkF m 66 #[.val (.ref x), .val (.int pp), .val (.int qq), .val (.int oo), .val (.int dd), .val (.int (5 : Int32))] [(.int qq), (.int (6 : Int32)), (.ref t)]))
  refine g_iastore ST181 V179 ⟨by decide, by decide⟩ 6 rfl (Nat.le_of_ble_eq_true rfl) nt (hb hby dAD1_66) ?_
  intro T182 h182 S182 K182 V182 sg182
  have V182 : Arv Z h182 t kt .int (80 : Int32) [(.int r0), (.int r1), (.int r2), (.int r3), (.int r4), (.int pp), (.int qq), (.int (0 : Int32)), (.int (0 : Int32)), (.int (0 : Int32)), (.int (0 : Int32)), (.int (0 : Int32)), (.int (0 : Int32)), (.int (0 : Int32)), (.int (0 : Int32))] (.int (0 : Int32)) := V182
  show Go p e below _ (T182.setTop (mkF m 67 #[.val (.ref x), .val (.int pp), .val (.int qq), .val (.int oo), .val (.int dd), .val (.int (5 : Int32))] []))
  refine s_aloadN S182 (hb hby dAD1_67) rfl rfl (pc' := 68) rfl ?_
  have F183 := F180.keep K182 (ninS nXT nin0)
  refine g_getF S182 (w32 hw) Via.refl F183 (hb hby dAD1_68) ?_
  intro T184 ST184
  show Go p e below _ (T184.setTop (mkF m 71 #[.val (.ref x), .val (.int pp), .val (.int qq), .val (.int oo), .val (.int dd), .val (.int (5 : Int32))] [(.ref t)]))
  refine s_iload ST184 (hb hby dAD1_71) rfl (pc' := 73) rfl ?_
  refine s_iconst ST184 (hb hby dAD1_73) (v := (2 : Int32)) rfl (pc' := 74) rfl ?_
  refine s_iadd ST184 (hb hby dAD1_74) (z := (7 : Int32)) rfl (pc' := 75) rfl ?_
  refine s_iloadN ST184 (hb hby dAD1_75) rfl (pc' := 76) rfl ?_
  show Go p e below _ (T184.setTop (mkF m 76 #[.val (.ref x), .val (.int pp), .val (.int qq), .val (.int oo), .val (.int dd), .val (.int (5 : Int32))] [(.int oo), (.int (7 : Int32)), (.ref t)]))
  refine g_iastore ST184 V182 ⟨by decide, by decide⟩ 7 rfl (Nat.le_of_ble_eq_true rfl) nt (hb hby dAD1_76) ?_
  intro T185 h185 S185 K185 V185 sg185
  have V185 : Arv Z h185 t kt .int (80 : Int32) [(.int r0), (.int r1), (.int r2), (.int r3), (.int r4), (.int pp), (.int qq), (.int oo), (.int (0 : Int32)), (.int (0 : Int32)), (.int (0 : Int32)), (.int (0 : Int32)), (.int (0 : Int32)), (.int (0 : Int32)), (.int (0 : Int32))] (.int (0 : Int32)) := V185
  show Go p e below _ (T185.setTop (mkF m 77 #[.val (.ref x), .val (.int pp), .val (.int qq), .val (.int oo), .val (.int dd), .val (.int (5 : Int32))] []))
  refine s_aloadN S185 (hb hby dAD1_77) rfl rfl (pc' := 78) rfl ?_
  have F186 := F183.keep K185 (ninS nXT nin0)
  refine g_getF S185 (w32 hw) Via.refl F186 (hb hby dAD1_78) ?_
  intro T187 ST187
  show Go p e below _ (T187.setTop (mkF m 81 #[.val (.ref x), .val (.int pp), .val (.int qq), .val (.int oo), .val (.int dd), .val (.int (5 : Int32))] [(.ref t)]))
  refine s_iload ST187 (hb hby dAD1_81) rfl (pc' := 83) rfl ?_
  refine s_iconst ST187 (hb hby dAD1_83) (v := (3 : Int32)) rfl (pc' := 84) rfl ?_
  refine s_iadd ST187 (hb hby dAD1_84) (z := (8 : Int32)) rfl (pc' := 85) rfl ?_
  refine s_iload ST187 (hb hby dAD1_85) rfl (pc' := 87) rfl ?_
  show Go p e below _ (T187.setTop (mkF m 87 #[.val (.ref x), .val (.int pp), .val (.int qq), .val (.int oo), .val (.int dd), .val (.int (5 : Int32))] [(.int dd), (.int (8 : Int32)), (.ref t)]))
  refine g_iastore ST187 V185 ⟨by decide, by decide⟩ 8 rfl (Nat.le_of_ble_eq_true rfl) nt (hb hby dAD1_87) ?_
  intro T188 h188 S188 K188 V188 sg188
  have V188 : Arv Z h188 t kt .int (80 : Int32) [(.int r0), (.int r1), (.int r2), (.int r3), (.int r4), (.int pp), (.int qq), (.int oo), (.int dd), (.int (0 : Int32)), (.int (0 : Int32)), (.int (0 : Int32)), (.int (0 : Int32)), (.int (0 : Int32)), (.int (0 : Int32))] (.int (0 : Int32)) := V188
  show Go p e below _ (T188.setTop (mkF m 88 #[.val (.ref x), .val (.int pp), .val (.int qq), .val (.int oo), .val (.int dd), .val (.int (5 : Int32))] []))
  refine s_aloadN S188 (hb hby dAD1_88) rfl rfl (pc' := 89) rfl ?_
  have F189 := F186.keep K188 (ninS nXT nin0)
  refine g_getF S188 (w32 hw) Via.refl F189 (hb hby dAD1_89) ?_
  intro T190 ST190
  show Go p e below _ (T190.setTop (mkF m 92 #[.val (.ref x), .val (.int pp), .val (.int qq), .val (.int oo), .val (.int dd), .val (.int (5 : Int32))] [(.ref t)]))
  refine s_iload ST190 (hb hby dAD1_92) rfl (pc' := 94) rfl ?_
  refine s_iconst ST190 (hb hby dAD1_94) (v := (4 : Int32)) rfl (pc' := 95) rfl ?_
  refine s_iadd ST190 (hb hby dAD1_95) (z := (9 : Int32)) rfl (pc' := 96) rfl ?_
  refine s_aloadN ST190 (hb hby dAD1_96) rfl rfl (pc' := 97) rfl ?_
  have F191 := Ft.keep K179 (ninS nXT nin0)
  have F192 := F191.keep K182 (ninS nXT nin0)
  have F193 := F192.keep K185 (ninS nXT nin0)
  have F194 := F193.keep K188 (ninS nXT nin0)
  refine g_getF ST190 (w29 hw) Via.refl F194 (hb hby dAD1_97) ?_
  intro T195 ST195
  show Go p e below _ (T195.setTop (mkF m 100 #[.val (.ref x), .val (.int pp), .val (.int qq), .val (.int oo), .val (.int dd), .val (.int (5 : Int32))] [(.ref sb), (.int (9 : Int32)), (.ref t)]))
  have F196 := Es.keep K179
  have F197 := F196.keep K182
  have F198 := F197.keep K185
  have F199 := F198.keep K188
  have F200 := Fv.keep K179 (ninS nST nin0)
  have F201 := F200.keep K182 (ninS nST nin0)
  have F202 := F201.keep K185 (ninS nST nin0)
  have F203 := F202.keep K188 (ninS nST nin0)
  have F204 := Fk.keep K179 (ninS nST nin0)
  have F205 := F204.keep K182 (ninS nST nin0)
  have F206 := F205.keep K185 (ninS nST nin0)
  have F207 := F206.keep K188 (ninS nST nin0)
  have F208 := Fs.keep K179 (ninS nST nin0)
  have F209 := F208.keep K182 (ninS nST nin0)
  have F210 := F209.keep K185 (ninS nST nin0)
  have F211 := F210.keep K188 (ninS nST nin0)
  show Go p e below _ (T195.setTop (mkF m 100 #[.val (.ref x), .val (.int pp), .val (.int qq), .val (.int oo), .val (.int dd), .val (.int (5 : Int32))] [(.ref sb), (.int (9 : Int32)), (.ref t)]))
  refine g_virtual ST195 (rmSL X ST195.old F199 F203 F207 F211) (fun _ q => nomatch q) (w122 hw) (w123 hw) (w125 hw) (w124 hw) (w11 hw) (w126 hw) (by decide) (fun _ h => notFace_of_selects h) (hb hby dAD1_100) (by rw [hml]; rfl) sb F199 [] (lenOf pd1 rfl) rfl rfl (Nat.le_of_ble_eq_true rfl) (Nat.le_of_ble_eq_true rfl) (Nat.le_of_ble_eq_true rfl) (Nat.le_of_ble_eq_true rfl) ?_
  intro v212 T212 V212 h212 S212 C212 q212
  obtain ⟨rfl, rfl⟩ := q212
  show Go p e below _ (T212.setTop (mkF m 103 #[.val (.ref x), .val (.int pp), .val (.int qq), .val (.int oo), .val (.int dd), .val (.int (5 : Int32))] [(.int sc), (.int (9 : Int32)), (.ref t)]))
  show Go p e below _ (T212.setTop (mkF m 103 #[.val (.ref x), .val (.int pp), .val (.int qq), .val (.int oo), .val (.int dd), .val (.int (5 : Int32))] [(.int sc), (.int (9 : Int32)), (.ref t)]))
  refine g_iastore S212 V188 ⟨by decide, by decide⟩ 9 rfl (Nat.le_of_ble_eq_true rfl) nt (hb hby dAD1_103) ?_
  intro T213 h213 S213 K213 V213 sg213
  have V213 : Arv Z h213 t kt .int (80 : Int32) [(.int r0), (.int r1), (.int r2), (.int r3), (.int r4), (.int pp), (.int qq), (.int oo), (.int dd), (.int sc), (.int (0 : Int32)), (.int (0 : Int32)), (.int (0 : Int32)), (.int (0 : Int32)), (.int (0 : Int32))] (.int (0 : Int32)) := V213
  show Go p e below _ (T213.setTop (mkF m 104 #[.val (.ref x), .val (.int pp), .val (.int qq), .val (.int oo), .val (.int dd), .val (.int (5 : Int32))] []))
  refine s_aloadN S213 (hb hby dAD1_104) rfl rfl (pc' := 105) rfl ?_
  refine s_dup S213 (hb hby dAD1_105) rfl (pc' := 106) rfl ?_
  have F214 := Fn.keep K179 (ninS nXT nin0)
  have F215 := F214.keep K182 (ninS nXT nin0)
  have F216 := F215.keep K185 (ninS nXT nin0)
  have F217 := F216.keep K188 (ninS nXT nin0)
  have F218 := F217.keep K213 (ninS nXT nin0)
  refine g_getF S213 (w135 hw) Via.refl F218 (hb hby dAD1_106) ?_
  intro T219 ST219
  show Go p e below _ (T219.setTop (mkF m 109 #[.val (.ref x), .val (.int pp), .val (.int qq), .val (.int oo), .val (.int dd), .val (.int (5 : Int32))] [(.int (1 : Int32)), (.ref x)]))
  refine s_iconst ST219 (hb hby dAD1_109) (v := (1 : Int32)) rfl (pc' := 110) rfl ?_
  refine s_iadd ST219 (hb hby dAD1_110) (z := (2 : Int32)) rfl (pc' := 111) rfl ?_
  show Go p e below _ (T219.setTop (mkF m 111 #[.val (.ref x), .val (.int pp), .val (.int qq), .val (.int oo), .val (.int dd), .val (.int (5 : Int32))] [(.int (2 : Int32)), (.ref x)]))
  have F221 := Ex.keep K179
  have F222 := F221.keep K182
  have F223 := F222.keep K185
  have F224 := F223.keep K188
  have F225 := F224.keep K213
  have F226 := F194.keep K213 (ninS nXT nin0)
  have F227 := F189.keep K213 (ninS nXT nin0)
  refine g_putF ST219 (w135 hw) Via.refl F218 F225 (Or.inl (w136 hw)) (w1 hw) (ty := .int) (v' := (.int (2 : Int32))) (by decide) rfl rfl nx (Safe.exa ST219.warm.alike F225 (by decide) (by decide)) (hb hby dAD1_111) ?_
  intro T220 h220 S220 K220 W220 A220 F220 sg220
  have F228 := F226.other W220 (Or.inr (slot_ne (Or.inr (w30 hw)) (Or.inl (w136 hw)) (by decide) (t := (.object "java/lang/StringBuilder")) (t' := .int) (by decide) (by decide)))
  have F229 := F227.other W220 (Or.inr (slot_ne (Or.inl (w33 hw)) (Or.inl (w136 hw)) (by decide) (t := (.array .int)) (t' := .int) (by decide) (by decide)))
  show Go p e below _ (T220.setTop (mkF m 114 #[.val (.ref x), .val (.int pp), .val (.int qq), .val (.int oo), .val (.int dd), .val (.int (5 : Int32))] []))
  show Go p e below _ (T220.setTop (mkF m 114 #[.val (.ref x), .val (.int pp), .val (.int qq), .val (.int oo), .val (.int dd), .val (.int (5 : Int32))] []))
  have KA230 := (Keep.refl h [x, t])
  have KA231 := (KA230.trans K179 (allS (Or.inl (by simp)) all0))
  have KA232 := (KA231.trans K182 (allS (Or.inl (by simp)) all0))
  have KA233 := (KA232.trans K185 (allS (Or.inl (by simp)) all0))
  have KA234 := (KA233.trans K188 (allS (Or.inl (by simp)) all0))
  have KA235 := (KA234.trans K213 (allS (Or.inl (by simp)) all0))
  have KA236 : Keep h h220 [x, t] := (KA235.trans K220 (allS (Or.inl (by simp)) all0))
  have F237 := V213.keep K220 (ninS (Ne.symm nXT) nin0)
  have F238 := F199.keep K213
  have F239 := F238.keep K220
  have F240 := F203.keep K213 (ninS nST nin0)
  have F241 := F240.keep K220 (ninS (Ne.symm nXS) nin0)
  have F242 := F207.keep K213 (ninS nST nin0)
  have F243 := F242.keep K220 (ninS (Ne.symm nXS) nin0)
  have F244 := F211.keep K213 (ninS nST nin0)
  have F245 := F244.keep K220 (ninS (Ne.symm nXS) nin0)
  have F246 := Vb.keep K179 (ninS (Ne.symm nTB) nin0)
  have F247 := F246.keep K182 (ninS (Ne.symm nTB) nin0)
  have F248 := F247.keep K185 (ninS (Ne.symm nTB) nin0)
  have F249 := F248.keep K188 (ninS (Ne.symm nTB) nin0)
  have F250 := F249.keep K213 (ninS (Ne.symm nTB) nin0)
  have F251 := F250.keep K220 (ninS (Ne.symm nXB) nin0)
  exact g_ret S220 (hb hby dAD1_114) hret ⟨rfl, KA236, ⟨A220, F228, F229, F220, F237, ⟨F239, F241, F243, F245, F251⟩, nx, ns, nb, nt⟩⟩
theorem dAD2_0 : decode prog_3_method_13_code 0 = .ok (.aload_n 0, 1) := by decide +kernel
theorem dAD2_1 : decode prog_3_method_13_code 1 = .ok (.getfield 16, 3) := by decide +kernel
theorem dAD2_4 : decode prog_3_method_13_code 4 = .ok (.arraylength, 1) := by decide +kernel
theorem dAD2_5 : decode prog_3_method_13_code 5 = .ok (.aload_n 0, 1) := by decide +kernel
theorem dAD2_6 : decode prog_3_method_13_code 6 = .ok (.getfield 38, 3) := by decide +kernel
theorem dAD2_9 : decode prog_3_method_13_code 9 = .ok (.iconst 1, 1) := by decide +kernel
theorem dAD2_10 : decode prog_3_method_13_code 10 = .ok (.iadd, 1) := by decide +kernel
theorem dAD2_11 : decode prog_3_method_13_code 11 = .ok (.iconst 5, 1) := by decide +kernel
theorem dAD2_12 : decode prog_3_method_13_code 12 = .ok (.imul, 1) := by decide +kernel
theorem dAD2_13 : decode prog_3_method_13_code 13 = .ok (.if_icmp .ge 26, 3) := by decide +kernel
theorem dAD2_39 : decode prog_3_method_13_code 39 = .ok (.aload_n 0, 1) := by decide +kernel
theorem dAD2_40 : decode prog_3_method_13_code 40 = .ok (.getfield 38, 3) := by decide +kernel
theorem dAD2_43 : decode prog_3_method_13_code 43 = .ok (.iconst 5, 1) := by decide +kernel
theorem dAD2_44 : decode prog_3_method_13_code 44 = .ok (.imul, 1) := by decide +kernel
theorem dAD2_45 : decode prog_3_method_13_code 45 = .ok (.istore 5, 2) := by decide +kernel
theorem dAD2_47 : decode prog_3_method_13_code 47 = .ok (.aload_n 0, 1) := by decide +kernel
theorem dAD2_48 : decode prog_3_method_13_code 48 = .ok (.getfield 16, 3) := by decide +kernel
theorem dAD2_51 : decode prog_3_method_13_code 51 = .ok (.iload 5, 2) := by decide +kernel
theorem dAD2_53 : decode prog_3_method_13_code 53 = .ok (.iconst 0, 1) := by decide +kernel
theorem dAD2_54 : decode prog_3_method_13_code 54 = .ok (.iadd, 1) := by decide +kernel
theorem dAD2_55 : decode prog_3_method_13_code 55 = .ok (.iload_n 1, 1) := by decide +kernel
theorem dAD2_56 : decode prog_3_method_13_code 56 = .ok (.iastore, 1) := by decide +kernel
theorem dAD2_57 : decode prog_3_method_13_code 57 = .ok (.aload_n 0, 1) := by decide +kernel
theorem dAD2_58 : decode prog_3_method_13_code 58 = .ok (.getfield 16, 3) := by decide +kernel
theorem dAD2_61 : decode prog_3_method_13_code 61 = .ok (.iload 5, 2) := by decide +kernel
theorem dAD2_63 : decode prog_3_method_13_code 63 = .ok (.iconst 1, 1) := by decide +kernel
theorem dAD2_64 : decode prog_3_method_13_code 64 = .ok (.iadd, 1) := by decide +kernel
theorem dAD2_65 : decode prog_3_method_13_code 65 = .ok (.iload_n 2, 1) := by decide +kernel
theorem dAD2_66 : decode prog_3_method_13_code 66 = .ok (.iastore, 1) := by decide +kernel
theorem dAD2_67 : decode prog_3_method_13_code 67 = .ok (.aload_n 0, 1) := by decide +kernel
theorem dAD2_68 : decode prog_3_method_13_code 68 = .ok (.getfield 16, 3) := by decide +kernel
theorem dAD2_71 : decode prog_3_method_13_code 71 = .ok (.iload 5, 2) := by decide +kernel
theorem dAD2_73 : decode prog_3_method_13_code 73 = .ok (.iconst 2, 1) := by decide +kernel
theorem dAD2_74 : decode prog_3_method_13_code 74 = .ok (.iadd, 1) := by decide +kernel
theorem dAD2_75 : decode prog_3_method_13_code 75 = .ok (.iload_n 3, 1) := by decide +kernel
theorem dAD2_76 : decode prog_3_method_13_code 76 = .ok (.iastore, 1) := by decide +kernel
theorem dAD2_77 : decode prog_3_method_13_code 77 = .ok (.aload_n 0, 1) := by decide +kernel
theorem dAD2_78 : decode prog_3_method_13_code 78 = .ok (.getfield 16, 3) := by decide +kernel
theorem dAD2_81 : decode prog_3_method_13_code 81 = .ok (.iload 5, 2) := by decide +kernel
theorem dAD2_83 : decode prog_3_method_13_code 83 = .ok (.iconst 3, 1) := by decide +kernel
theorem dAD2_84 : decode prog_3_method_13_code 84 = .ok (.iadd, 1) := by decide +kernel
theorem dAD2_85 : decode prog_3_method_13_code 85 = .ok (.iload 4, 2) := by decide +kernel
theorem dAD2_87 : decode prog_3_method_13_code 87 = .ok (.iastore, 1) := by decide +kernel
theorem dAD2_88 : decode prog_3_method_13_code 88 = .ok (.aload_n 0, 1) := by decide +kernel
theorem dAD2_89 : decode prog_3_method_13_code 89 = .ok (.getfield 16, 3) := by decide +kernel
theorem dAD2_92 : decode prog_3_method_13_code 92 = .ok (.iload 5, 2) := by decide +kernel
theorem dAD2_94 : decode prog_3_method_13_code 94 = .ok (.iconst 4, 1) := by decide +kernel
theorem dAD2_95 : decode prog_3_method_13_code 95 = .ok (.iadd, 1) := by decide +kernel
theorem dAD2_96 : decode prog_3_method_13_code 96 = .ok (.aload_n 0, 1) := by decide +kernel
theorem dAD2_97 : decode prog_3_method_13_code 97 = .ok (.getfield 10, 3) := by decide +kernel
theorem dAD2_100 : decode prog_3_method_13_code 100 = .ok (.invokevirtual 31, 3) := by decide +kernel
theorem dAD2_103 : decode prog_3_method_13_code 103 = .ok (.iastore, 1) := by decide +kernel
theorem dAD2_104 : decode prog_3_method_13_code 104 = .ok (.aload_n 0, 1) := by decide +kernel
theorem dAD2_105 : decode prog_3_method_13_code 105 = .ok (.dup, 1) := by decide +kernel
theorem dAD2_106 : decode prog_3_method_13_code 106 = .ok (.getfield 38, 3) := by decide +kernel
theorem dAD2_109 : decode prog_3_method_13_code 109 = .ok (.iconst 1, 1) := by decide +kernel
theorem dAD2_110 : decode prog_3_method_13_code 110 = .ok (.iadd, 1) := by decide +kernel
theorem dAD2_111 : decode prog_3_method_13_code 111 = .ok (.putfield 38, 3) := by decide +kernel
theorem dAD2_114 : decode prog_3_method_13_code 114 = .ok (.return_, 1) := by decide +kernel
set_option maxRecDepth 65536 in
set_option maxHeartbeats 40000000 in
theorem rmAD2 {l : Launch} {Z : State} {a0 : Array Value} {n0 : Nat} (X : Ctx Z a0) {x sb tb t : Addr} {kb kt : ClassId} {bs : List Value} {sc r0 r1 r2 r3 r4 r5 r6 r7 r8 r9 : Int32} (pp qq oo dd : Int32) {h : Heap} (hO : Old Z n0 h) (A : AS Z h n0 x sb tb t kb kt (2 : Int32) (80 : Int32) [(.int r0), (.int r1), (.int r2), (.int r3), (.int r4), (.int r5), (.int r6), (.int r7), (.int r8), (.int r9), (.int (0 : Int32)), (.int (0 : Int32)), (.int (0 : Int32)), (.int (0 : Int32)), (.int (0 : Int32))] (16 : Int32) sc bs) :
    Ctr l Z EL1 n0 (⟨"com/example/nodewarden/nodewarden/core/Asides", "add", "(IIII)V"⟩ : MethodName) prog_3_method_13_code 6 none ({ frames := 2, cells := 0, slots := 0, locals := 26 } : Room) #[(.ref x), (.int pp), (.int qq), (.int oo), (.int dd)] h [] (fun v h' => v = none ∧ Keep h h' [x, t] ∧ AS Z h' n0 x sb tb t kb kt (3 : Int32) (80 : Int32) [(.int r0), (.int r1), (.int r2), (.int r3), (.int r4), (.int r5), (.int r6), (.int r7), (.int r8), (.int r9), (.int pp), (.int qq), (.int oo), (.int dd), (.int sc)] (16 : Int32) sc bs) := by
  have hw := X.hw
  obtain ⟨z1, hz1, hz2⟩ := X.2.2.1
  refine Ctr.intro (a0 := a0) (plainFor_of_name pn3) hO X.ew ?_
  intro p e s m below meth c T0 V0 S0 hby hml hret hnm hsf
  rw [ef6]
  obtain ⟨Ex, Ft, Fb, Fn, Vt, ⟨Es, Fv, Fk, Fs, Vb⟩, nx, ns, nb, nt⟩ := A
  have nXS : x ≠ sb := ne_exa Ex Es (by decide)
  have nXT : x ≠ t := Exa.neArv Ex Vt (w1 hw)
  have nXB : x ≠ tb := Exa.neArv Ex Vb (w1 hw)
  have nST : sb ≠ t := Exa.neArv Es Vt (w10 hw)
  have nSB : sb ≠ tb := Exa.neArv Es Vb (w10 hw)
  have nTB : t ≠ tb := arv_kne Vt Vb (by decide)
  show Go p e below _ (T0.setTop (mkF m 0 #[.val (.ref x), .val (.int pp), .val (.int qq), .val (.int oo), .val (.int dd), .unset] []))
  refine s_aloadN S0 (hb hby dAD2_0) rfl rfl (pc' := 1) rfl ?_
  refine g_getF S0 (w32 hw) Via.refl Fb (hb hby dAD2_1) ?_
  intro T252 ST252
  show Go p e below _ (T252.setTop (mkF m 4 #[.val (.ref x), .val (.int pp), .val (.int qq), .val (.int oo), .val (.int dd), .unset] [(.ref t)]))
  refine g_len ST252 Vt (hb hby dAD2_4) ?_
  show Go p e below _ (T252.setTop (mkF m 5 #[.val (.ref x), .val (.int pp), .val (.int qq), .val (.int oo), .val (.int dd), .unset] [(.int (80 : Int32))]))
  refine s_aloadN ST252 (hb hby dAD2_5) rfl rfl (pc' := 6) rfl ?_
  refine g_getF ST252 (w135 hw) Via.refl Fn (hb hby dAD2_6) ?_
  intro T253 ST253
  show Go p e below _ (T253.setTop (mkF m 9 #[.val (.ref x), .val (.int pp), .val (.int qq), .val (.int oo), .val (.int dd), .unset] [(.int (2 : Int32)), (.int (80 : Int32))]))
  refine s_iconst ST253 (hb hby dAD2_9) (v := (1 : Int32)) rfl (pc' := 10) rfl ?_
  refine s_iadd ST253 (hb hby dAD2_10) (z := (3 : Int32)) rfl (pc' := 11) rfl ?_
  refine s_iconst ST253 (hb hby dAD2_11) (v := (5 : Int32)) rfl (pc' := 12) rfl ?_
  refine s_imul ST253 (hb hby dAD2_12) (z := (15 : Int32)) rfl (pc' := 13) rfl ?_
  refine s_icmpY ST253 (hb hby dAD2_13) (by decide) (by decide) (pcT := 39) (by decide) ?_
  refine s_aloadN ST253 (hb hby dAD2_39) rfl rfl (pc' := 40) rfl ?_
  refine g_getF ST253 (w135 hw) Via.refl Fn (hb hby dAD2_40) ?_
  intro T254 ST254
  show Go p e below _ (T254.setTop (mkF m 43 #[.val (.ref x), .val (.int pp), .val (.int qq), .val (.int oo), .val (.int dd), .unset] [(.int (2 : Int32))]))
  refine s_iconst ST254 (hb hby dAD2_43) (v := (5 : Int32)) rfl (pc' := 44) rfl ?_
  refine s_imul ST254 (hb hby dAD2_44) (z := (10 : Int32)) rfl (pc' := 45) rfl ?_
  refine s_istore ST254 (hb hby dAD2_45) (L' := #[.val (.ref x), .val (.int pp), .val (.int qq), .val (.int oo), .val (.int dd), .val (.int (10 : Int32))]) rfl (pc' := 47) rfl ?_
  refine s_aloadN ST254 (hb hby dAD2_47) rfl rfl (pc' := 48) rfl ?_
  refine g_getF ST254 (w32 hw) Via.refl Fb (hb hby dAD2_48) ?_
  intro T255 ST255
  show Go p e below _ (T255.setTop (mkF m 51 #[.val (.ref x), .val (.int pp), .val (.int qq), .val (.int oo), .val (.int dd), .val (.int (10 : Int32))] [(.ref t)]))
  refine s_iload ST255 (hb hby dAD2_51) rfl (pc' := 53) rfl ?_
  refine s_iconst ST255 (hb hby dAD2_53) (v := (0 : Int32)) rfl (pc' := 54) rfl ?_
  refine s_iadd ST255 (hb hby dAD2_54) (z := (10 : Int32)) rfl (pc' := 55) rfl ?_
  refine s_iloadN ST255 (hb hby dAD2_55) rfl (pc' := 56) rfl ?_
  show Go p e below _ (T255.setTop (mkF m 56 #[.val (.ref x), .val (.int pp), .val (.int qq), .val (.int oo), .val (.int dd), .val (.int (10 : Int32))] [(.int pp), (.int (10 : Int32)), (.ref t)]))
  refine g_iastore ST255 Vt ⟨by decide, by decide⟩ 10 rfl (Nat.le_of_ble_eq_true rfl) nt (hb hby dAD2_56) ?_
  intro T256 h256 S256 K256 V256 sg256
  have V256 : Arv Z h256 t kt .int (80 : Int32) [(.int r0), (.int r1), (.int r2), (.int r3), (.int r4), (.int r5), (.int r6), (.int r7), (.int r8), (.int r9), (.int pp), (.int (0 : Int32)), (.int (0 : Int32)), (.int (0 : Int32)), (.int (0 : Int32))] (.int (0 : Int32)) := V256
  show Go p e below _ (T256.setTop (mkF m 57 #[.val (.ref x), .val (.int pp), .val (.int qq), .val (.int oo), .val (.int dd), .val (.int (10 : Int32))] []))
  refine s_aloadN S256 (hb hby dAD2_57) rfl rfl (pc' := 58) rfl ?_
  have F257 := Fb.keep K256 (ninS nXT nin0)
  refine g_getF S256 (w32 hw) Via.refl F257 (hb hby dAD2_58) ?_
  intro T258 ST258
  show Go p e below _ (T258.setTop (mkF m 61 #[.val (.ref x), .val (.int pp), .val (.int qq), .val (.int oo), .val (.int dd), .val (.int (10 : Int32))] [(.ref t)]))
  refine s_iload ST258 (hb hby dAD2_61) rfl (pc' := 63) rfl ?_
  refine s_iconst ST258 (hb hby dAD2_63) (v := (1 : Int32)) rfl (pc' := 64) rfl ?_
  refine s_iadd ST258 (hb hby dAD2_64) (z := (11 : Int32)) rfl (pc' := 65) rfl ?_
  refine s_iloadN ST258 (hb hby dAD2_65) rfl (pc' := 66) rfl ?_
  show Go p e below _ (T258.setTop (mkF m 66 #[.val (.ref x), .val (.int pp), .val (.int qq), .val (.int oo), .val (.int dd), .val (.int (10 : Int32))] [(.int qq), (.int (11 : Int32)), (.ref t)]))
  refine g_iastore ST258 V256 ⟨by decide, by decide⟩ 11 rfl (Nat.le_of_ble_eq_true rfl) nt (hb hby dAD2_66) ?_
  intro T259 h259 S259 K259 V259 sg259
  have V259 : Arv Z h259 t kt .int (80 : Int32) [(.int r0), (.int r1), (.int r2), (.int r3), (.int r4), (.int r5), (.int r6), (.int r7), (.int r8), (.int r9), (.int pp), (.int qq), (.int (0 : Int32)), (.int (0 : Int32)), (.int (0 : Int32))] (.int (0 : Int32)) := V259
  show Go p e below _ (T259.setTop (mkF m 67 #[.val (.ref x), .val (.int pp), .val (.int qq), .val (.int oo), .val (.int dd), .val (.int (10 : Int32))] []))
  refine s_aloadN S259 (hb hby dAD2_67) rfl rfl (pc' := 68) rfl ?_
  have F260 := F257.keep K259 (ninS nXT nin0)
  refine g_getF S259 (w32 hw) Via.refl F260 (hb hby dAD2_68) ?_
  intro T261 ST261
  show Go p e below _ (T261.setTop (mkF m 71 #[.val (.ref x), .val (.int pp), .val (.int qq), .val (.int oo), .val (.int dd), .val (.int (10 : Int32))] [(.ref t)]))
  refine s_iload ST261 (hb hby dAD2_71) rfl (pc' := 73) rfl ?_
  refine s_iconst ST261 (hb hby dAD2_73) (v := (2 : Int32)) rfl (pc' := 74) rfl ?_
  refine s_iadd ST261 (hb hby dAD2_74) (z := (12 : Int32)) rfl (pc' := 75) rfl ?_
  refine s_iloadN ST261 (hb hby dAD2_75) rfl (pc' := 76) rfl ?_
  show Go p e below _ (T261.setTop (mkF m 76 #[.val (.ref x), .val (.int pp), .val (.int qq), .val (.int oo), .val (.int dd), .val (.int (10 : Int32))] [(.int oo), (.int (12 : Int32)), (.ref t)]))
  refine g_iastore ST261 V259 ⟨by decide, by decide⟩ 12 rfl (Nat.le_of_ble_eq_true rfl) nt (hb hby dAD2_76) ?_
  intro T262 h262 S262 K262 V262 sg262
  have V262 : Arv Z h262 t kt .int (80 : Int32) [(.int r0), (.int r1), (.int r2), (.int r3), (.int r4), (.int r5), (.int r6), (.int r7), (.int r8), (.int r9), (.int pp), (.int qq), (.int oo), (.int (0 : Int32)), (.int (0 : Int32))] (.int (0 : Int32)) := V262
  show Go p e below _ (T262.setTop (mkF m 77 #[.val (.ref x), .val (.int pp), .val (.int qq), .val (.int oo), .val (.int dd), .val (.int (10 : Int32))] []))
  refine s_aloadN S262 (hb hby dAD2_77) rfl rfl (pc' := 78) rfl ?_
  have F263 := F260.keep K262 (ninS nXT nin0)
  refine g_getF S262 (w32 hw) Via.refl F263 (hb hby dAD2_78) ?_
  intro T264 ST264
  show Go p e below _ (T264.setTop (mkF m 81 #[.val (.ref x), .val (.int pp), .val (.int qq), .val (.int oo), .val (.int dd), .val (.int (10 : Int32))] [(.ref t)]))
  refine s_iload ST264 (hb hby dAD2_81) rfl (pc' := 83) rfl ?_
  refine s_iconst ST264 (hb hby dAD2_83) (v := (3 : Int32)) rfl (pc' := 84) rfl ?_
  refine s_iadd ST264 (hb hby dAD2_84) (z := (13 : Int32)) rfl (pc' := 85) rfl ?_
  refine s_iload ST264 (hb hby dAD2_85) rfl (pc' := 87) rfl ?_
  show Go p e below _ (T264.setTop (mkF m 87 #[.val (.ref x), .val (.int pp), .val (.int qq), .val (.int oo), .val (.int dd), .val (.int (10 : Int32))] [(.int dd), (.int (13 : Int32)), (.ref t)]))
  refine g_iastore ST264 V262 ⟨by decide, by decide⟩ 13 rfl (Nat.le_of_ble_eq_true rfl) nt (hb hby dAD2_87) ?_
  intro T265 h265 S265 K265 V265 sg265
  have V265 : Arv Z h265 t kt .int (80 : Int32) [(.int r0), (.int r1), (.int r2), (.int r3), (.int r4), (.int r5), (.int r6), (.int r7), (.int r8), (.int r9), (.int pp), (.int qq), (.int oo), (.int dd), (.int (0 : Int32))] (.int (0 : Int32)) := V265
  show Go p e below _ (T265.setTop (mkF m 88 #[.val (.ref x), .val (.int pp), .val (.int qq), .val (.int oo), .val (.int dd), .val (.int (10 : Int32))] []))
  refine s_aloadN S265 (hb hby dAD2_88) rfl rfl (pc' := 89) rfl ?_
  have F266 := F263.keep K265 (ninS nXT nin0)
  refine g_getF S265 (w32 hw) Via.refl F266 (hb hby dAD2_89) ?_
  intro T267 ST267
  show Go p e below _ (T267.setTop (mkF m 92 #[.val (.ref x), .val (.int pp), .val (.int qq), .val (.int oo), .val (.int dd), .val (.int (10 : Int32))] [(.ref t)]))
  refine s_iload ST267 (hb hby dAD2_92) rfl (pc' := 94) rfl ?_
  refine s_iconst ST267 (hb hby dAD2_94) (v := (4 : Int32)) rfl (pc' := 95) rfl ?_
  refine s_iadd ST267 (hb hby dAD2_95) (z := (14 : Int32)) rfl (pc' := 96) rfl ?_
  refine s_aloadN ST267 (hb hby dAD2_96) rfl rfl (pc' := 97) rfl ?_
  have F268 := Ft.keep K256 (ninS nXT nin0)
  have F269 := F268.keep K259 (ninS nXT nin0)
  have F270 := F269.keep K262 (ninS nXT nin0)
  have F271 := F270.keep K265 (ninS nXT nin0)
  refine g_getF ST267 (w29 hw) Via.refl F271 (hb hby dAD2_97) ?_
  intro T272 ST272
  show Go p e below _ (T272.setTop (mkF m 100 #[.val (.ref x), .val (.int pp), .val (.int qq), .val (.int oo), .val (.int dd), .val (.int (10 : Int32))] [(.ref sb), (.int (14 : Int32)), (.ref t)]))
  have F273 := Es.keep K256
  have F274 := F273.keep K259
  have F275 := F274.keep K262
  have F276 := F275.keep K265
  have F277 := Fv.keep K256 (ninS nST nin0)
  have F278 := F277.keep K259 (ninS nST nin0)
  have F279 := F278.keep K262 (ninS nST nin0)
  have F280 := F279.keep K265 (ninS nST nin0)
  have F281 := Fk.keep K256 (ninS nST nin0)
  have F282 := F281.keep K259 (ninS nST nin0)
  have F283 := F282.keep K262 (ninS nST nin0)
  have F284 := F283.keep K265 (ninS nST nin0)
  have F285 := Fs.keep K256 (ninS nST nin0)
  have F286 := F285.keep K259 (ninS nST nin0)
  have F287 := F286.keep K262 (ninS nST nin0)
  have F288 := F287.keep K265 (ninS nST nin0)
  show Go p e below _ (T272.setTop (mkF m 100 #[.val (.ref x), .val (.int pp), .val (.int qq), .val (.int oo), .val (.int dd), .val (.int (10 : Int32))] [(.ref sb), (.int (14 : Int32)), (.ref t)]))
  refine g_virtual ST272 (rmSL X ST272.old F276 F280 F284 F288) (fun _ q => nomatch q) (w122 hw) (w123 hw) (w125 hw) (w124 hw) (w11 hw) (w126 hw) (by decide) (fun _ h => notFace_of_selects h) (hb hby dAD2_100) (by rw [hml]; rfl) sb F276 [] (lenOf pd1 rfl) rfl rfl (Nat.le_of_ble_eq_true rfl) (Nat.le_of_ble_eq_true rfl) (Nat.le_of_ble_eq_true rfl) (Nat.le_of_ble_eq_true rfl) ?_
  intro v289 T289 V289 h289 S289 C289 q289
  obtain ⟨rfl, rfl⟩ := q289
  show Go p e below _ (T289.setTop (mkF m 103 #[.val (.ref x), .val (.int pp), .val (.int qq), .val (.int oo), .val (.int dd), .val (.int (10 : Int32))] [(.int sc), (.int (14 : Int32)), (.ref t)]))
  show Go p e below _ (T289.setTop (mkF m 103 #[.val (.ref x), .val (.int pp), .val (.int qq), .val (.int oo), .val (.int dd), .val (.int (10 : Int32))] [(.int sc), (.int (14 : Int32)), (.ref t)]))
  refine g_iastore S289 V265 ⟨by decide, by decide⟩ 14 rfl (Nat.le_of_ble_eq_true rfl) nt (hb hby dAD2_103) ?_
  intro T290 h290 S290 K290 V290 sg290
  have V290 : Arv Z h290 t kt .int (80 : Int32) [(.int r0), (.int r1), (.int r2), (.int r3), (.int r4), (.int r5), (.int r6), (.int r7), (.int r8), (.int r9), (.int pp), (.int qq), (.int oo), (.int dd), (.int sc)] (.int (0 : Int32)) := V290
  show Go p e below _ (T290.setTop (mkF m 104 #[.val (.ref x), .val (.int pp), .val (.int qq), .val (.int oo), .val (.int dd), .val (.int (10 : Int32))] []))
  refine s_aloadN S290 (hb hby dAD2_104) rfl rfl (pc' := 105) rfl ?_
  refine s_dup S290 (hb hby dAD2_105) rfl (pc' := 106) rfl ?_
  have F291 := Fn.keep K256 (ninS nXT nin0)
  have F292 := F291.keep K259 (ninS nXT nin0)
  have F293 := F292.keep K262 (ninS nXT nin0)
  have F294 := F293.keep K265 (ninS nXT nin0)
  have F295 := F294.keep K290 (ninS nXT nin0)
  refine g_getF S290 (w135 hw) Via.refl F295 (hb hby dAD2_106) ?_
  intro T296 ST296
  show Go p e below _ (T296.setTop (mkF m 109 #[.val (.ref x), .val (.int pp), .val (.int qq), .val (.int oo), .val (.int dd), .val (.int (10 : Int32))] [(.int (2 : Int32)), (.ref x)]))
  refine s_iconst ST296 (hb hby dAD2_109) (v := (1 : Int32)) rfl (pc' := 110) rfl ?_
  refine s_iadd ST296 (hb hby dAD2_110) (z := (3 : Int32)) rfl (pc' := 111) rfl ?_
  show Go p e below _ (T296.setTop (mkF m 111 #[.val (.ref x), .val (.int pp), .val (.int qq), .val (.int oo), .val (.int dd), .val (.int (10 : Int32))] [(.int (3 : Int32)), (.ref x)]))
  have F298 := Ex.keep K256
  have F299 := F298.keep K259
  have F300 := F299.keep K262
  have F301 := F300.keep K265
  have F302 := F301.keep K290
  have F303 := F271.keep K290 (ninS nXT nin0)
  have F304 := F266.keep K290 (ninS nXT nin0)
  refine g_putF ST296 (w135 hw) Via.refl F295 F302 (Or.inl (w136 hw)) (w1 hw) (ty := .int) (v' := (.int (3 : Int32))) (by decide) rfl rfl nx (Safe.exa ST296.warm.alike F302 (by decide) (by decide)) (hb hby dAD2_111) ?_
  intro T297 h297 S297 K297 W297 A297 F297 sg297
  have F305 := F303.other W297 (Or.inr (slot_ne (Or.inr (w30 hw)) (Or.inl (w136 hw)) (by decide) (t := (.object "java/lang/StringBuilder")) (t' := .int) (by decide) (by decide)))
  have F306 := F304.other W297 (Or.inr (slot_ne (Or.inl (w33 hw)) (Or.inl (w136 hw)) (by decide) (t := (.array .int)) (t' := .int) (by decide) (by decide)))
  show Go p e below _ (T297.setTop (mkF m 114 #[.val (.ref x), .val (.int pp), .val (.int qq), .val (.int oo), .val (.int dd), .val (.int (10 : Int32))] []))
  show Go p e below _ (T297.setTop (mkF m 114 #[.val (.ref x), .val (.int pp), .val (.int qq), .val (.int oo), .val (.int dd), .val (.int (10 : Int32))] []))
  have KA307 := (Keep.refl h [x, t])
  have KA308 := (KA307.trans K256 (allS (Or.inl (by simp)) all0))
  have KA309 := (KA308.trans K259 (allS (Or.inl (by simp)) all0))
  have KA310 := (KA309.trans K262 (allS (Or.inl (by simp)) all0))
  have KA311 := (KA310.trans K265 (allS (Or.inl (by simp)) all0))
  have KA312 := (KA311.trans K290 (allS (Or.inl (by simp)) all0))
  have KA313 : Keep h h297 [x, t] := (KA312.trans K297 (allS (Or.inl (by simp)) all0))
  have F314 := V290.keep K297 (ninS (Ne.symm nXT) nin0)
  have F315 := F276.keep K290
  have F316 := F315.keep K297
  have F317 := F280.keep K290 (ninS nST nin0)
  have F318 := F317.keep K297 (ninS (Ne.symm nXS) nin0)
  have F319 := F284.keep K290 (ninS nST nin0)
  have F320 := F319.keep K297 (ninS (Ne.symm nXS) nin0)
  have F321 := F288.keep K290 (ninS nST nin0)
  have F322 := F321.keep K297 (ninS (Ne.symm nXS) nin0)
  have F323 := Vb.keep K256 (ninS (Ne.symm nTB) nin0)
  have F324 := F323.keep K259 (ninS (Ne.symm nTB) nin0)
  have F325 := F324.keep K262 (ninS (Ne.symm nTB) nin0)
  have F326 := F325.keep K265 (ninS (Ne.symm nTB) nin0)
  have F327 := F326.keep K290 (ninS (Ne.symm nTB) nin0)
  have F328 := F327.keep K297 (ninS (Ne.symm nXB) nin0)
  exact g_ret S297 (hb hby dAD2_114) hret ⟨rfl, KA313, ⟨A297, F305, F306, F297, F314, ⟨F316, F318, F320, F322, F328⟩, nx, ns, nb, nt⟩⟩
theorem dEG_0 : decode jdk_68_method_9_code 0 = .ok (.aload_n 0, 1) := by decide +kernel
theorem dEG_1 : decode jdk_68_method_9_code 1 = .ok (.getfield 15, 3) := by decide +kernel
theorem dEG_4 : decode jdk_68_method_9_code 4 = .ok (.arraylength, 1) := by decide +kernel
theorem dEG_5 : decode jdk_68_method_9_code 5 = .ok (.aload_n 0, 1) := by decide +kernel
theorem dEG_6 : decode jdk_68_method_9_code 6 = .ok (.getfield 22, 3) := by decide +kernel
theorem dEG_9 : decode jdk_68_method_9_code 9 = .ok (.ishr, 1) := by decide +kernel
theorem dEG_10 : decode jdk_68_method_9_code 10 = .ok (.istore_n 2, 1) := by decide +kernel
theorem dEG_11 : decode jdk_68_method_9_code 11 = .ok (.iload_n 1, 1) := by decide +kernel
theorem dEG_12 : decode jdk_68_method_9_code 12 = .ok (.iload_n 2, 1) := by decide +kernel
theorem dEG_13 : decode jdk_68_method_9_code 13 = .ok (.isub, 1) := by decide +kernel
theorem dEG_14 : decode jdk_68_method_9_code 14 = .ok (.ifCond .le 24, 3) := by decide +kernel
theorem dEG_38 : decode jdk_68_method_9_code 38 = .ok (.return_, 1) := by decide +kernel
set_option maxRecDepth 65536 in
set_option maxHeartbeats 40000000 in
theorem rmEG {l : Launch} {Z : State} {a0 : Array Value} {n0 : Nat} (X : Ctx Z a0) {x tb : Addr} {kb : ClassId} {sc : Int32} {bs : List Value} {mc : Int32} {h : Heap} (hO : Old Z n0 h) (Ex : Exa Z h x "java/lang/StringBuilder") (Fv : Fld Z h x "java/lang/AbstractStringBuilder" "value" "[B" (.ref tb)) (Fk : Fld Z h x "java/lang/AbstractStringBuilder" "coder" "B" (.int (0 : Int32))) (Fs : Fld Z h x "java/lang/AbstractStringBuilder" "count" "I" (.int sc)) (Vb : Arv Z h tb kb .byte (16 : Int32) bs (.int (0 : Int32))) (m0 : 0 ≤ mc.toInt) (m1 : mc.toInt ≤ 16) :
    Ctr l Z EL1 n0 (⟨"java/lang/AbstractStringBuilder", "ensureCapacityInternal", "(I)V"⟩ : MethodName) jdk_68_method_9_code 3 none ({ frames := 0, cells := 0, slots := 0, locals := 0 } : Room) #[(.ref x), (.int mc)] h [] (fun v h' => v = none ∧ h' = h) := by
  have hw := X.hw
  obtain ⟨z1, hz1, hz2⟩ := X.2.2.1
  refine Ctr.intro (a0 := a0) (plainFor_of_name pn0) hO X.ew ?_
  intro p e s m below meth c T0 V0 S0 hby hml hret hnm hsf
  rw [ef5]
  refine s_aloadN S0 (hb hby dEG_0) rfl rfl (pc' := 1) rfl ?_
  refine g_getF S0 (w25 hw) Via.refl Fv (hb hby dEG_1) ?_
  intro T329 ST329
  show Go p e below _ (T329.setTop (mkF m 4 #[.val (.ref x), .val (.int mc), .unset] [(.ref tb)]))
  refine g_len ST329 Vb (hb hby dEG_4) ?_
  show Go p e below _ (T329.setTop (mkF m 5 #[.val (.ref x), .val (.int mc), .unset] [(.int (16 : Int32))]))
  refine s_aloadN ST329 (hb hby dEG_5) rfl rfl (pc' := 6) rfl ?_
  refine g_getF ST329 (w27 hw) Via.refl Fk (hb hby dEG_6) ?_
  intro T330 ST330
  show Go p e below _ (T330.setTop (mkF m 9 #[.val (.ref x), .val (.int mc), .unset] [(.int (0 : Int32)), (.int (16 : Int32))]))
  refine s_ishr ST330 (hb hby dEG_9) (z := (16 : Int32)) (by decide) (pc' := 10) rfl ?_
  refine s_istoreN ST330 (hb hby dEG_10) (L' := #[.val (.ref x), .val (.int mc), .val (.int (16 : Int32))]) rfl (pc' := 11) rfl ?_
  refine s_iloadN ST330 (hb hby dEG_11) rfl (pc' := 12) rfl ?_
  refine s_iloadN ST330 (hb hby dEG_12) rfl (pc' := 13) rfl ?_
  refine s_isub ST330 (hb hby dEG_13) (z := (mc - (16 : Int32))) rfl (pc' := 14) rfl ?_
  refine s_ifY ST330 (hb hby dEG_14) ((if0 _ _).trans (flt (own_cap m0 m1)).2.2.2) (by decide) (pcT := 38) (by decide) ?_
  exact g_ret ST330 (hb hby dEG_38) hret ⟨rfl, rfl⟩
theorem dSC_0 : decode jdk_42_method_152_code 0 = .ok (.getstatic 38, 3) := by decide +kernel
theorem dSC_3 : decode jdk_42_method_152_code 3 = .ok (.ifCond .eq 10, 3) := by decide +kernel
theorem dSC_6 : decode jdk_42_method_152_code 6 = .ok (.aload_n 0, 1) := by decide +kernel
theorem dSC_7 : decode jdk_42_method_152_code 7 = .ok (.getfield 15, 3) := by decide +kernel
theorem dSC_10 : decode jdk_42_method_152_code 10 = .ok (.goto 4, 3) := by decide +kernel
theorem dSC_14 : decode jdk_42_method_152_code 14 = .ok (.ireturn, 1) := by decide +kernel
set_option maxRecDepth 65536 in
set_option maxHeartbeats 40000000 in
theorem rmSC {l : Launch} {Z : State} {a0 : Array Value} {n0 : Nat} (X : Ctx Z a0) {a ta : Addr} {ka : ClassId} {z : Int32} {us : List Value} {h : Heap} (hO : Old Z n0 h) (F : LS Z h a ta ka z us) :
    Ctr l Z EL1 n0 (⟨"java/lang/String", "coder", "()B"⟩ : MethodName) jdk_42_method_152_code 1 (some .byte) ({ frames := 0, cells := 0, slots := 0, locals := 0 } : Room) #[(.ref a)] h [] (fun v h' => v = some (.int 0) ∧ h' = h) := by
  have hw := X.hw
  obtain ⟨z1, hz1, hz2⟩ := X.2.2.1
  refine Ctr.intro (a0 := a0) (plainFor_of_name pn5) hO X.ew ?_
  intro p e s m below meth c T0 V0 S0 hby hml hret hnm hsf
  rw [ef2]
  refine g_getS S0 (w52 hw) Via.refl (hz1.ext S0.old.2) (hb hby dSC_0) ?_
  intro T331 ST331
  show Go p e below _ (T331.setTop (mkF m 3 #[.val (.ref a)] [(.int z1)]))
  refine s_ifN ST331 (hb hby dSC_3) ((if0 _ _).trans (feq hz2).1) (pc' := 6) rfl ?_
  refine s_aloadN ST331 (hb hby dSC_6) rfl rfl (pc' := 7) rfl ?_
  refine g_getF ST331 (w63 hw) Via.refl F.2.2.1 (hb hby dSC_7) ?_
  intro T332 ST332
  show Go p e below _ (T332.setTop (mkF m 10 #[.val (.ref a)] [(.int (0 : Int32))]))
  refine s_goto ST332 (hb hby dSC_10) (by decide) (pcT := 14) (by decide) ?_
  exact g_iretN ST332 (hb hby dSC_14) hret (by simp) ⟨rfl, rfl⟩
theorem dSN_0 : decode jdk_42_method_54_code 0 = .ok (.aload_n 0, 1) := by decide +kernel
theorem dSN_1 : decode jdk_42_method_54_code 1 = .ok (.getfield 9, 3) := by decide +kernel
theorem dSN_4 : decode jdk_42_method_54_code 4 = .ok (.arraylength, 1) := by decide +kernel
theorem dSN_5 : decode jdk_42_method_54_code 5 = .ok (.aload_n 0, 1) := by decide +kernel
theorem dSN_6 : decode jdk_42_method_54_code 6 = .ok (.invokevirtual 335, 3) := by decide +kernel
theorem dSN_9 : decode jdk_42_method_54_code 9 = .ok (.ishr, 1) := by decide +kernel
theorem dSN_10 : decode jdk_42_method_54_code 10 = .ok (.ireturn, 1) := by decide +kernel
set_option maxRecDepth 65536 in
set_option maxHeartbeats 40000000 in
theorem rmSN {l : Launch} {Z : State} {a0 : Array Value} {n0 : Nat} (X : Ctx Z a0) {a ta : Addr} {ka : ClassId} {z : Int32} {us : List Value} {h : Heap} (hO : Old Z n0 h) (F : LS Z h a ta ka z us) :
    Ctr l Z EL1 n0 (⟨"java/lang/String", "length", "()I"⟩ : MethodName) jdk_42_method_54_code 1 (some .int) ({ frames := 1, cells := 0, slots := 0, locals := 13 } : Room) #[(.ref a)] h [] (fun v h' => v = some (.int z) ∧ h' = h) := by
  have hw := X.hw
  obtain ⟨z1, hz1, hz2⟩ := X.2.2.1
  refine Ctr.intro (a0 := a0) (plainFor_of_name pn5) hO X.ew ?_
  intro p e s m below meth c T0 V0 S0 hby hml hret hnm hsf
  rw [ef2]
  refine s_aloadN S0 (hb hby dSN_0) rfl rfl (pc' := 1) rfl ?_
  refine g_getF S0 (w65 hw) Via.refl F.2.1 (hb hby dSN_1) ?_
  intro T333 ST333
  show Go p e below _ (T333.setTop (mkF m 4 #[.val (.ref a)] [(.ref ta)]))
  refine g_len ST333 F.2.2.2 (hb hby dSN_4) ?_
  show Go p e below _ (T333.setTop (mkF m 5 #[.val (.ref a)] [(.int z)]))
  refine s_aloadN ST333 (hb hby dSN_5) rfl rfl (pc' := 6) rfl ?_
  show Go p e below _ (T333.setTop (mkF m 6 #[.val (.ref a)] [(.ref a), (.int z)]))
  refine g_virtual ST333 (rmSC X ST333.old F) (fun _ q => nomatch q) (w90 hw) (w91 hw) (w93 hw) (w92 hw) (w23 hw) (w94 hw) (by decide) (fun _ h => notFace_of_selects h) (hb hby dSN_6) (by rw [hml]; rfl) a F.1 [] (lenOf pd5 rfl) rfl rfl (Nat.le_of_ble_eq_true rfl) (Nat.le_of_ble_eq_true rfl) (Nat.le_of_ble_eq_true rfl) (Nat.le_of_ble_eq_true rfl) ?_
  intro v334 T334 V334 h334 S334 C334 q334
  obtain ⟨rfl, rfl⟩ := q334
  show Go p e below _ (T334.setTop (mkF m 9 #[.val (.ref a)] [(.int (0 : Int32)), (.int z)]))
  refine s_ishr S334 (hb hby dSN_9) (z := z) (own_shr0 z) (pc' := 10) rfl ?_
  exact g_iret S334 (hb hby dSN_10) hret ⟨rfl, rfl⟩
theorem dIF_0 : decode jdk_68_method_71_code 0 = .ok (.getstatic 18, 3) := by decide +kernel
theorem dIF_3 : decode jdk_68_method_71_code 3 = .ok (.ifCond .eq 18, 3) := by decide +kernel
theorem dIF_6 : decode jdk_68_method_71_code 6 = .ok (.aload_n 0, 1) := by decide +kernel
theorem dIF_7 : decode jdk_68_method_71_code 7 = .ok (.getfield 22, 3) := by decide +kernel
theorem dIF_10 : decode jdk_68_method_71_code 10 = .ok (.aload_n 1, 1) := by decide +kernel
theorem dIF_11 : decode jdk_68_method_71_code 11 = .ok (.invokevirtual 40, 3) := by decide +kernel
theorem dIF_14 : decode jdk_68_method_71_code 14 = .ok (.if_icmp .eq 7, 3) := by decide +kernel
theorem dIF_21 : decode jdk_68_method_71_code 21 = .ok (.return_, 1) := by decide +kernel
set_option maxRecDepth 65536 in
set_option maxHeartbeats 40000000 in
theorem rmIF {l : Launch} {Z : State} {a0 : Array Value} {n0 : Nat} (X : Ctx Z a0) {x tb : Addr} {sc : Int32} {a ta : Addr} {ka : ClassId} {z : Int32} {us : List Value} {h : Heap} (hO : Old Z n0 h) (Ex : Exa Z h x "java/lang/StringBuilder") (Fv : Fld Z h x "java/lang/AbstractStringBuilder" "value" "[B" (.ref tb)) (Fk : Fld Z h x "java/lang/AbstractStringBuilder" "coder" "B" (.int (0 : Int32))) (Fs : Fld Z h x "java/lang/AbstractStringBuilder" "count" "I" (.int sc)) (F : LS Z h a ta ka z us) :
    Ctr l Z EL1 n0 (⟨"java/lang/AbstractStringBuilder", "inflateIfNeededFor", "(Ljava/lang/String;)V"⟩ : MethodName) jdk_68_method_71_code 2 none ({ frames := 1, cells := 0, slots := 0, locals := 13 } : Room) #[(.ref x), (.ref a)] h [] (fun v h' => v = none ∧ h' = h) := by
  have hw := X.hw
  obtain ⟨z1, hz1, hz2⟩ := X.2.2.1
  refine Ctr.intro (a0 := a0) (plainFor_of_name pn0) hO X.ew ?_
  intro p e s m below meth c T0 V0 S0 hby hml hret hnm hsf
  rw [ef7]
  refine g_getS S0 (w22 hw) Via.refl (hz1.ext S0.old.2) (hb hby dIF_0) ?_
  intro T335 ST335
  show Go p e below _ (T335.setTop (mkF m 3 #[.val (.ref x), .val (.ref a)] [(.int z1)]))
  refine s_ifN ST335 (hb hby dIF_3) ((if0 _ _).trans (feq hz2).1) (pc' := 6) rfl ?_
  refine s_aloadN ST335 (hb hby dIF_6) rfl rfl (pc' := 7) rfl ?_
  refine g_getF ST335 (w27 hw) Via.refl Fk (hb hby dIF_7) ?_
  intro T336 ST336
  show Go p e below _ (T336.setTop (mkF m 10 #[.val (.ref x), .val (.ref a)] [(.int (0 : Int32))]))
  refine s_aloadN ST336 (hb hby dIF_10) rfl rfl (pc' := 11) rfl ?_
  show Go p e below _ (T336.setTop (mkF m 11 #[.val (.ref x), .val (.ref a)] [(.ref a), (.int (0 : Int32))]))
  refine g_virtual ST336 (rmSC X ST336.old F) (fun _ q => nomatch q) (w112 hw) (w91 hw) (w93 hw) (w92 hw) (w23 hw) (w94 hw) (by decide) (fun _ h => notFace_of_selects h) (hb hby dIF_11) (by rw [hml]; rfl) a F.1 [] (lenOf pd5 rfl) rfl rfl (Nat.le_of_ble_eq_true rfl) (Nat.le_of_ble_eq_true rfl) (Nat.le_of_ble_eq_true rfl) (Nat.le_of_ble_eq_true rfl) ?_
  intro v337 T337 V337 h337 S337 C337 q337
  obtain ⟨rfl, rfl⟩ := q337
  show Go p e below _ (T337.setTop (mkF m 14 #[.val (.ref x), .val (.ref a)] [(.int (0 : Int32)), (.int (0 : Int32))]))
  refine s_icmpY S337 (hb hby dIF_14) (by decide) (by decide) (pcT := 21) (by decide) ?_
  exact g_ret S337 (hb hby dIF_21) hret ⟨rfl, rfl⟩
theorem dGB_0 : decode jdk_42_method_147_code 0 = .ok (.aload_n 0, 1) := by decide +kernel
theorem dGB_1 : decode jdk_42_method_147_code 1 = .ok (.invokevirtual 335, 3) := by decide +kernel
theorem dGB_4 : decode jdk_42_method_147_code 4 = .ok (.iload_n 3, 1) := by decide +kernel
theorem dGB_5 : decode jdk_42_method_147_code 5 = .ok (.if_icmp .ne 23, 3) := by decide +kernel
theorem dGB_8 : decode jdk_42_method_147_code 8 = .ok (.aload_n 0, 1) := by decide +kernel
theorem dGB_9 : decode jdk_42_method_147_code 9 = .ok (.getfield 9, 3) := by decide +kernel
theorem dGB_12 : decode jdk_42_method_147_code 12 = .ok (.iconst 0, 1) := by decide +kernel
theorem dGB_13 : decode jdk_42_method_147_code 13 = .ok (.aload_n 1, 1) := by decide +kernel
theorem dGB_14 : decode jdk_42_method_147_code 14 = .ok (.iload_n 2, 1) := by decide +kernel
theorem dGB_15 : decode jdk_42_method_147_code 15 = .ok (.iload_n 3, 1) := by decide +kernel
theorem dGB_16 : decode jdk_42_method_147_code 16 = .ok (.ishl, 1) := by decide +kernel
theorem dGB_17 : decode jdk_42_method_147_code 17 = .ok (.aload_n 0, 1) := by decide +kernel
theorem dGB_18 : decode jdk_42_method_147_code 18 = .ok (.getfield 9, 3) := by decide +kernel
theorem dGB_21 : decode jdk_42_method_147_code 21 = .ok (.arraylength, 1) := by decide +kernel
theorem dGB_22 : decode jdk_42_method_147_code 22 = .ok (.invokestatic 212, 3) := by decide +kernel
theorem dGB_25 : decode jdk_42_method_147_code 25 = .ok (.goto 18, 3) := by decide +kernel
theorem dGB_43 : decode jdk_42_method_147_code 43 = .ok (.return_, 1) := by decide +kernel
set_option maxRecDepth 65536 in
set_option maxHeartbeats 40000000 in
theorem rmGB {l : Launch} {Z : State} {a0 : Array Value} {n0 : Nat} (X : Ctx Z a0) {tb : Addr} {kb : ClassId} {sc : Int32} {bs : List Value} {a ta : Addr} {ka : ClassId} {z : Int32} {us : List Value} (nb : n0 ≤ tb) {h : Heap} (hO : Old Z n0 h) (F : LS Z h a ta ka z us) (Vb : Arv Z h tb kb .byte (16 : Int32) bs (.int (0 : Int32))) (h0 : 0 ≤ sc.toInt) (h1 : 0 ≤ z.toInt) (h2 : sc.toInt + z.toInt ≤ 16) (hbl : bs.length = 16) :
    Ctr l Z EL1 n0 (⟨"java/lang/String", "getBytes", "([BIB)V"⟩ : MethodName) jdk_42_method_147_code 4 none ({ frames := 1, cells := 0, slots := 0, locals := 18 } : Room) #[(.ref a), (.ref tb), (.int sc), (.int (0 : Int32))] h [tb] (fun v h' => v = none ∧ ∃ bs' : List Value, Keep h h' [tb] ∧ Arv Z h' tb kb .byte (16 : Int32) bs' (.int (0 : Int32)) ∧ bs'.length = 16) := by
  have hw := X.hw
  obtain ⟨z1, hz1, hz2⟩ := X.2.2.1
  refine Ctr.intro (a0 := a0) (plainFor_of_name pn5) hO X.ew ?_
  intro p e s m below meth c T0 V0 S0 hby hml hret hnm hsf
  rw [ef8]
  refine s_aloadN S0 (hb hby dGB_0) rfl rfl (pc' := 1) rfl ?_
  show Go p e below _ (T0.setTop (mkF m 1 #[.val (.ref a), .val (.ref tb), .val (.int sc), .val (.int (0 : Int32))] [(.ref a)]))
  refine g_virtual S0 (rmSC X S0.old F) (fun _ q => nomatch q) (w90 hw) (w91 hw) (w93 hw) (w92 hw) (w23 hw) (w94 hw) (by decide) (fun _ h => notFace_of_selects h) (hb hby dGB_1) (by rw [hml]; rfl) a F.1 [] (lenOf pd5 rfl) rfl rfl (Nat.le_of_ble_eq_true rfl) (Nat.le_of_ble_eq_true rfl) (Nat.le_of_ble_eq_true rfl) (Nat.le_of_ble_eq_true rfl) ?_
  intro v338 T338 V338 h338 S338 C338 q338
  obtain ⟨rfl, rfl⟩ := q338
  have sf339 := C338.safe Vb.lt (hsf tb List.mem_cons_self)
  show Go p e below _ (T338.setTop (mkF m 4 #[.val (.ref a), .val (.ref tb), .val (.int sc), .val (.int (0 : Int32))] [(.int (0 : Int32))]))
  refine s_iloadN S338 (hb hby dGB_4) rfl (pc' := 5) rfl ?_
  refine s_icmpN S338 (hb hby dGB_5) (by decide) (pc' := 8) rfl ?_
  refine s_aloadN S338 (hb hby dGB_8) rfl rfl (pc' := 9) rfl ?_
  refine g_getF S338 (w65 hw) Via.refl F.2.1 (hb hby dGB_9) ?_
  intro T340 ST340
  show Go p e below _ (T340.setTop (mkF m 12 #[.val (.ref a), .val (.ref tb), .val (.int sc), .val (.int (0 : Int32))] [(.ref ta)]))
  refine s_iconst ST340 (hb hby dGB_12) (v := (0 : Int32)) rfl (pc' := 13) rfl ?_
  refine s_aloadN ST340 (hb hby dGB_13) rfl rfl (pc' := 14) rfl ?_
  refine s_iloadN ST340 (hb hby dGB_14) rfl (pc' := 15) rfl ?_
  refine s_iloadN ST340 (hb hby dGB_15) rfl (pc' := 16) rfl ?_
  refine s_ishl ST340 (hb hby dGB_16) (z := sc) (own_shl0 sc) (pc' := 17) rfl ?_
  refine s_aloadN ST340 (hb hby dGB_17) rfl rfl (pc' := 18) rfl ?_
  refine g_getF ST340 (w65 hw) Via.refl F.2.1 (hb hby dGB_18) ?_
  intro T341 ST341
  show Go p e below _ (T341.setTop (mkF m 21 #[.val (.ref a), .val (.ref tb), .val (.int sc), .val (.int (0 : Int32))] [(.ref ta), (.int sc), (.ref tb), (.int (0 : Int32)), (.ref ta)]))
  refine g_len ST341 F.2.2.2 (hb hby dGB_21) ?_
  show Go p e below _ (T341.setTop (mkF m 22 #[.val (.ref a), .val (.ref tb), .val (.int sc), .val (.int (0 : Int32))] [(.int z), (.int sc), (.ref tb), (.int (0 : Int32)), (.ref ta)]))
  show Go p e below _ (T341.setTop (mkF m 22 #[.val (.ref a), .val (.ref tb), .val (.int sc), .val (.int (0 : Int32))] [(.int z), (.int sc), (.ref tb), (.int (0 : Int32)), (.ref ta)]))
  refine g_copy ST341 (w118 hw) (w121 hw) (w119 hw) (w120 hw) F.2.2.2 Vb rfl (by decide) (own_nn h0) (own_nn h1) (by show 0 + _ ≤ _; omega) (own_fit h0 h1 h2 hbl).1 rfl (own_fit h0 h1 h2 hbl).2 nb sf339 (hb hby dGB_22) (by rw [hml]; rfl) (Nat.le_of_ble_eq_true rfl) (by decide) ?_
  intro T9 h9 S9 K9 V9 sg9
  show Go p e below _ (T9.setTop (mkF m 25 #[.val (.ref a), .val (.ref tb), .val (.int sc), .val (.int (0 : Int32))] []))
  refine s_goto S9 (hb hby dGB_25) (by decide) (pcT := 43) (by decide) ?_
  exact g_ret S9 (hb hby dGB_43) hret ⟨rfl, _, K9, V9, own_len h0 h1 h2 hbl (by simp)⟩
theorem dPS_0 : decode jdk_68_method_73_code 0 = .ok (.aload_n 0, 1) := by decide +kernel
theorem dPS_1 : decode jdk_68_method_73_code 1 = .ok (.aload_n 2, 1) := by decide +kernel
theorem dPS_2 : decode jdk_68_method_73_code 2 = .ok (.invokevirtual 397, 3) := by decide +kernel
theorem dPS_5 : decode jdk_68_method_73_code 5 = .ok (.aload_n 2, 1) := by decide +kernel
theorem dPS_6 : decode jdk_68_method_73_code 6 = .ok (.aload_n 0, 1) := by decide +kernel
theorem dPS_7 : decode jdk_68_method_73_code 7 = .ok (.getfield 15, 3) := by decide +kernel
theorem dPS_10 : decode jdk_68_method_73_code 10 = .ok (.iload_n 1, 1) := by decide +kernel
theorem dPS_11 : decode jdk_68_method_73_code 11 = .ok (.aload_n 0, 1) := by decide +kernel
theorem dPS_12 : decode jdk_68_method_73_code 12 = .ok (.getfield 22, 3) := by decide +kernel
theorem dPS_15 : decode jdk_68_method_73_code 15 = .ok (.invokevirtual 399, 3) := by decide +kernel
theorem dPS_18 : decode jdk_68_method_73_code 18 = .ok (.return_, 1) := by decide +kernel
set_option maxRecDepth 65536 in
set_option maxHeartbeats 40000000 in
theorem rmPS {l : Launch} {Z : State} {a0 : Array Value} {n0 : Nat} (X : Ctx Z a0) {x tb : Addr} {kb : ClassId} {sc : Int32} {bs : List Value} {a ta : Addr} {ka : ClassId} {z : Int32} {us : List Value} (nb : n0 ≤ tb) {h : Heap} (hO : Old Z n0 h) (Ex : Exa Z h x "java/lang/StringBuilder") (Fv : Fld Z h x "java/lang/AbstractStringBuilder" "value" "[B" (.ref tb)) (Fk : Fld Z h x "java/lang/AbstractStringBuilder" "coder" "B" (.int (0 : Int32))) (Fs : Fld Z h x "java/lang/AbstractStringBuilder" "count" "I" (.int sc)) (F : LS Z h a ta ka z us) (Vb : Arv Z h tb kb .byte (16 : Int32) bs (.int (0 : Int32))) (h0 : 0 ≤ sc.toInt) (h1 : 0 ≤ z.toInt) (h2 : sc.toInt + z.toInt ≤ 16) (hbl : bs.length = 16) :
    Ctr l Z EL1 n0 (⟨"java/lang/AbstractStringBuilder", "putStringAt", "(ILjava/lang/String;)V"⟩ : MethodName) jdk_68_method_73_code 3 none ({ frames := 2, cells := 0, slots := 0, locals := 33 } : Room) #[(.ref x), (.int sc), (.ref a)] h [tb] (fun v h' => v = none ∧ ∃ bs' : List Value, Keep h h' [tb] ∧ Arv Z h' tb kb .byte (16 : Int32) bs' (.int (0 : Int32)) ∧ bs'.length = 16) := by
  have hw := X.hw
  obtain ⟨z1, hz1, hz2⟩ := X.2.2.1
  refine Ctr.intro (a0 := a0) (plainFor_of_name pn0) hO X.ew ?_
  intro p e s m below meth c T0 V0 S0 hby hml hret hnm hsf
  rw [ef9]
  refine s_aloadN S0 (hb hby dPS_0) rfl rfl (pc' := 1) rfl ?_
  refine s_aloadN S0 (hb hby dPS_1) rfl rfl (pc' := 2) rfl ?_
  show Go p e below _ (T0.setTop (mkF m 2 #[.val (.ref x), .val (.int sc), .val (.ref a)] [(.ref a), (.ref x)]))
  refine g_private S0 (rmIF X S0.old Ex Fv Fk Fs F) (fun _ q => nomatch q) (w107 hw) (ni_sel (w100 hw) rfl) (w109 hw) (w108 hw) (w19 hw) (w111 hw) (by decide) (hb hby dPS_2) (by rw [hml]; rfl) x Ex [(.ref a)] (lenOf pd6 rfl) rfl rfl (Nat.le_of_ble_eq_true rfl) (Nat.le_of_ble_eq_true rfl) (Nat.le_of_ble_eq_true rfl) (Nat.le_of_ble_eq_true rfl) ?_
  intro v342 T342 V342 h342 S342 C342 q342
  obtain ⟨rfl, rfl⟩ := q342
  have sf343 := C342.safe Vb.lt (hsf tb List.mem_cons_self)
  show Go p e below _ (T342.setTop (mkF m 5 #[.val (.ref x), .val (.int sc), .val (.ref a)] []))
  refine s_aloadN S342 (hb hby dPS_5) rfl rfl (pc' := 6) rfl ?_
  refine s_aloadN S342 (hb hby dPS_6) rfl rfl (pc' := 7) rfl ?_
  refine g_getF S342 (w25 hw) Via.refl Fv (hb hby dPS_7) ?_
  intro T344 ST344
  show Go p e below _ (T344.setTop (mkF m 10 #[.val (.ref x), .val (.int sc), .val (.ref a)] [(.ref tb), (.ref a)]))
  refine s_iloadN ST344 (hb hby dPS_10) rfl (pc' := 11) rfl ?_
  refine s_aloadN ST344 (hb hby dPS_11) rfl rfl (pc' := 12) rfl ?_
  refine g_getF ST344 (w27 hw) Via.refl Fk (hb hby dPS_12) ?_
  intro T345 ST345
  show Go p e below _ (T345.setTop (mkF m 15 #[.val (.ref x), .val (.int sc), .val (.ref a)] [(.int (0 : Int32)), (.int sc), (.ref tb), (.ref a)]))
  show Go p e below _ (T345.setTop (mkF m 15 #[.val (.ref x), .val (.int sc), .val (.ref a)] [(.int (0 : Int32)), (.int sc), (.ref tb), (.ref a)]))
  refine g_virtual ST345 (rmGB X nb ST345.old F Vb h0 h1 h2 hbl) (sf1 Vb.lt sf343) (w113 hw) (w114 hw) (w116 hw) (w115 hw) (w23 hw) (w117 hw) (by decide) (fun _ h => notFace_of_selects h) (hb hby dPS_15) (by rw [hml]; rfl) a F.1 [(.ref tb), (.int sc), (.int (0 : Int32))] (lenOf pd7 rfl) rfl rfl (Nat.le_of_ble_eq_true rfl) (Nat.le_of_ble_eq_true rfl) (Nat.le_of_ble_eq_true rfl) (Nat.le_of_ble_eq_true rfl) ?_
  intro v346 T346 V346 h346 S346 C346 q346
  obtain ⟨rfl, bs2, K1, V1, l1⟩ := q346
  have sf347 := C346.safe Vb.lt sf343
  show Go p e below _ (T346.setTop (mkF m 18 #[.val (.ref x), .val (.int sc), .val (.ref a)] []))
  exact g_ret S346 (hb hby dPS_18) hret ⟨rfl, bs2, K1, V1, l1⟩
theorem dAT_0 : decode jdk_68_method_22_code 0 = .ok (.aload_n 1, 1) := by decide +kernel
theorem dAT_1 : decode jdk_68_method_22_code 1 = .ok (.ifnonnull 8, 3) := by decide +kernel
theorem dAT_9 : decode jdk_68_method_22_code 9 = .ok (.aload_n 1, 1) := by decide +kernel
theorem dAT_10 : decode jdk_68_method_22_code 10 = .ok (.invokevirtual 32, 3) := by decide +kernel
theorem dAT_13 : decode jdk_68_method_22_code 13 = .ok (.istore_n 2, 1) := by decide +kernel
theorem dAT_14 : decode jdk_68_method_22_code 14 = .ok (.aload_n 0, 1) := by decide +kernel
theorem dAT_15 : decode jdk_68_method_22_code 15 = .ok (.aload_n 0, 1) := by decide +kernel
theorem dAT_16 : decode jdk_68_method_22_code 16 = .ok (.getfield 79, 3) := by decide +kernel
theorem dAT_19 : decode jdk_68_method_22_code 19 = .ok (.iload_n 2, 1) := by decide +kernel
theorem dAT_20 : decode jdk_68_method_22_code 20 = .ok (.iadd, 1) := by decide +kernel
theorem dAT_21 : decode jdk_68_method_22_code 21 = .ok (.invokevirtual 100, 3) := by decide +kernel
theorem dAT_24 : decode jdk_68_method_22_code 24 = .ok (.aload_n 0, 1) := by decide +kernel
theorem dAT_25 : decode jdk_68_method_22_code 25 = .ok (.aload_n 0, 1) := by decide +kernel
theorem dAT_26 : decode jdk_68_method_22_code 26 = .ok (.getfield 79, 3) := by decide +kernel
theorem dAT_29 : decode jdk_68_method_22_code 29 = .ok (.aload_n 1, 1) := by decide +kernel
theorem dAT_30 : decode jdk_68_method_22_code 30 = .ok (.invokevirtual 208, 3) := by decide +kernel
theorem dAT_33 : decode jdk_68_method_22_code 33 = .ok (.aload_n 0, 1) := by decide +kernel
theorem dAT_34 : decode jdk_68_method_22_code 34 = .ok (.dup, 1) := by decide +kernel
theorem dAT_35 : decode jdk_68_method_22_code 35 = .ok (.getfield 79, 3) := by decide +kernel
theorem dAT_38 : decode jdk_68_method_22_code 38 = .ok (.iload_n 2, 1) := by decide +kernel
theorem dAT_39 : decode jdk_68_method_22_code 39 = .ok (.iadd, 1) := by decide +kernel
theorem dAT_40 : decode jdk_68_method_22_code 40 = .ok (.putfield 79, 3) := by decide +kernel
theorem dAT_43 : decode jdk_68_method_22_code 43 = .ok (.aload_n 0, 1) := by decide +kernel
theorem dAT_44 : decode jdk_68_method_22_code 44 = .ok (.areturn, 1) := by decide +kernel
set_option maxRecDepth 65536 in
set_option maxHeartbeats 40000000 in
theorem rmAT {l : Launch} {Z : State} {a0 : Array Value} {n0 : Nat} (X : Ctx Z a0) {x tb : Addr} {kb : ClassId} {sc : Int32} {bs : List Value} {a ta : Addr} {ka : ClassId} {z : Int32} {us : List Value} (na : n0 ≤ x) (nb : n0 ≤ tb) {h : Heap} (hO : Old Z n0 h) (Ex : Exa Z h x "java/lang/StringBuilder") (Fv : Fld Z h x "java/lang/AbstractStringBuilder" "value" "[B" (.ref tb)) (Fk : Fld Z h x "java/lang/AbstractStringBuilder" "coder" "B" (.int (0 : Int32))) (Fs : Fld Z h x "java/lang/AbstractStringBuilder" "count" "I" (.int sc)) (F : LS Z h a ta ka z us) (Vb : Arv Z h tb kb .byte (16 : Int32) bs (.int (0 : Int32))) (h0 : 0 ≤ sc.toInt) (h1 : 0 ≤ z.toInt) (h2 : sc.toInt + z.toInt ≤ 16) (hbl : bs.length = 16) :
    Ctr l Z EL1 n0 (⟨"java/lang/AbstractStringBuilder", "append", "(Ljava/lang/String;)Ljava/lang/AbstractStringBuilder;"⟩ : MethodName) jdk_68_method_22_code 3 (some (.object "java/lang/AbstractStringBuilder")) ({ frames := 3, cells := 0, slots := 0, locals := 47 } : Room) #[(.ref x), (.ref a)] h [tb] (fun v h' => v = some (.ref x) ∧ ∃ (sc' : Int32) (bs' : List Value), Keep h h' [x, tb] ∧ Exa Z h' x "java/lang/StringBuilder" ∧ Fld Z h' x "java/lang/AbstractStringBuilder" "value" "[B" (.ref tb) ∧ Fld Z h' x "java/lang/AbstractStringBuilder" "coder" "B" (.int (0 : Int32)) ∧ Fld Z h' x "java/lang/AbstractStringBuilder" "count" "I" (.int sc') ∧ Arv Z h' tb kb .byte (16 : Int32) bs' (.int (0 : Int32)) ∧ bs'.length = 16 ∧ sc'.toInt = sc.toInt + z.toInt) := by
  have hw := X.hw
  obtain ⟨z1, hz1, hz2⟩ := X.2.2.1
  refine Ctr.intro (a0 := a0) (plainFor_of_name pn0) hO X.ew ?_
  intro p e s m below meth c T0 V0 S0 hby hml hret hnm hsf
  rw [ef10]
  have nXB : x ≠ tb := Exa.neArv Ex Vb (w10 hw)
  have ez := own_add h0 h1 (by omega)
  show Go p e below _ (T0.setTop (mkF m 0 #[.val (.ref x), .val (.ref a), .unset] []))
  refine s_aloadN S0 (hb hby dAT_0) rfl rfl (pc' := 1) rfl ?_
  refine s_nonnullY S0 (hb hby dAT_1) (by decide) (pcT := 9) (by decide) ?_
  refine s_aloadN S0 (hb hby dAT_9) rfl rfl (pc' := 10) rfl ?_
  show Go p e below _ (T0.setTop (mkF m 10 #[.val (.ref x), .val (.ref a), .unset] [(.ref a)]))
  refine g_virtual S0 (rmSN X S0.old F) (fun _ q => nomatch q) (w85 hw) (w86 hw) (w88 hw) (w87 hw) (w23 hw) (w89 hw) (by decide) (fun _ h => notFace_of_selects h) (hb hby dAT_10) (by rw [hml]; rfl) a F.1 [] (lenOf pd1 rfl) rfl rfl (Nat.le_of_ble_eq_true rfl) (Nat.le_of_ble_eq_true rfl) (Nat.le_of_ble_eq_true rfl) (Nat.le_of_ble_eq_true rfl) ?_
  intro v348 T348 V348 h348 S348 C348 q348
  obtain ⟨rfl, rfl⟩ := q348
  have sf349 := C348.safe Vb.lt (hsf tb List.mem_cons_self)
  show Go p e below _ (T348.setTop (mkF m 13 #[.val (.ref x), .val (.ref a), .unset] [(.int z)]))
  refine s_istoreN S348 (hb hby dAT_13) (L' := #[.val (.ref x), .val (.ref a), .val (.int z)]) rfl (pc' := 14) rfl ?_
  refine s_aloadN S348 (hb hby dAT_14) rfl rfl (pc' := 15) rfl ?_
  refine s_aloadN S348 (hb hby dAT_15) rfl rfl (pc' := 16) rfl ?_
  refine g_getF S348 (w95 hw) Via.refl Fs (hb hby dAT_16) ?_
  intro T350 ST350
  show Go p e below _ (T350.setTop (mkF m 19 #[.val (.ref x), .val (.ref a), .val (.int z)] [(.int sc), (.ref x)]))
  refine s_iloadN ST350 (hb hby dAT_19) rfl (pc' := 20) rfl ?_
  refine s_iadd ST350 (hb hby dAT_20) (z := (sc + z)) rfl (pc' := 21) rfl ?_
  show Go p e below _ (T350.setTop (mkF m 21 #[.val (.ref x), .val (.ref a), .val (.int z)] [(.int (sc + z)), (.ref x)]))
  refine g_private ST350 (rmEG X ST350.old Ex Fv Fk Fs Vb (by omega) (by omega)) (fun _ q => nomatch q) (w97 hw) (ni_sel (w100 hw) rfl) (w99 hw) (w98 hw) (w19 hw) (w101 hw) (by decide) (hb hby dAT_21) (by rw [hml]; rfl) x Ex [(.int (sc + z))] (lenOf pd0 rfl) rfl rfl (Nat.le_of_ble_eq_true rfl) (Nat.le_of_ble_eq_true rfl) (Nat.le_of_ble_eq_true rfl) (Nat.le_of_ble_eq_true rfl) ?_
  intro v351 T351 V351 h351 S351 C351 q351
  obtain ⟨rfl, rfl⟩ := q351
  have sf352 := C351.safe Vb.lt sf349
  show Go p e below _ (T351.setTop (mkF m 24 #[.val (.ref x), .val (.ref a), .val (.int z)] []))
  refine s_aloadN S351 (hb hby dAT_24) rfl rfl (pc' := 25) rfl ?_
  refine s_aloadN S351 (hb hby dAT_25) rfl rfl (pc' := 26) rfl ?_
  refine g_getF S351 (w95 hw) Via.refl Fs (hb hby dAT_26) ?_
  intro T353 ST353
  show Go p e below _ (T353.setTop (mkF m 29 #[.val (.ref x), .val (.ref a), .val (.int z)] [(.int sc), (.ref x)]))
  refine s_aloadN ST353 (hb hby dAT_29) rfl rfl (pc' := 30) rfl ?_
  show Go p e below _ (T353.setTop (mkF m 30 #[.val (.ref x), .val (.ref a), .val (.int z)] [(.ref a), (.int sc), (.ref x)]))
  refine g_private ST353 (rmPS X nb ST353.old Ex Fv Fk Fs F Vb h0 h1 h2 hbl) (sf1 Vb.lt sf352) (w102 hw) (ni_sel (w100 hw) rfl) (w104 hw) (w103 hw) (w19 hw) (w106 hw) (by decide) (hb hby dAT_30) (by rw [hml]; rfl) x Ex [(.int sc), (.ref a)] (lenOf pd8 rfl) rfl rfl (Nat.le_of_ble_eq_true rfl) (Nat.le_of_ble_eq_true rfl) (Nat.le_of_ble_eq_true rfl) (Nat.le_of_ble_eq_true rfl) ?_
  intro v354 T354 V354 h354 S354 C354 q354
  obtain ⟨rfl, bs2, K1, V1, l1⟩ := q354
  have sf355 := C354.safe Vb.lt sf352
  show Go p e below _ (T354.setTop (mkF m 33 #[.val (.ref x), .val (.ref a), .val (.int z)] []))
  refine s_aloadN S354 (hb hby dAT_33) rfl rfl (pc' := 34) rfl ?_
  refine s_dup S354 (hb hby dAT_34) rfl (pc' := 35) rfl ?_
  have F356 := Fs.keep K1 (ninS nXB nin0)
  refine g_getF S354 (w95 hw) Via.refl F356 (hb hby dAT_35) ?_
  intro T357 ST357
  show Go p e below _ (T357.setTop (mkF m 38 #[.val (.ref x), .val (.ref a), .val (.int z)] [(.int sc), (.ref x)]))
  refine s_iloadN ST357 (hb hby dAT_38) rfl (pc' := 39) rfl ?_
  refine s_iadd ST357 (hb hby dAT_39) (z := (sc + z)) rfl (pc' := 40) rfl ?_
  show Go p e below _ (T357.setTop (mkF m 40 #[.val (.ref x), .val (.ref a), .val (.int z)] [(.int (sc + z)), (.ref x)]))
  have F359 := Ex.keep K1
  have F360 := Fv.keep K1 (ninS nXB nin0)
  have F361 := Fk.keep K1 (ninS nXB nin0)
  refine g_putF ST357 (w95 hw) Via.refl F356 F359 (Or.inl (w96 hw)) (w10 hw) (ty := .int) (v' := (.int (sc + z))) (by decide) rfl rfl na (Safe.exa ST357.warm.alike F359 (by decide) (by decide)) (hb hby dAT_40) ?_
  intro T358 h358 S358 K358 W358 A358 F358 sg358
  have sf362 := Safe.keep K358 (sfS (Safe.exa ST357.warm.alike F359 (by decide) (by decide)) sf0) ST357.chv sf355
  have F363 := F360.other W358 (Or.inr (slot_ne (Or.inl (w26 hw)) (Or.inl (w96 hw)) (by decide) (t := (.array .byte)) (t' := .int) (by decide) (by decide)))
  have F364 := F361.other W358 (Or.inr (slot_ne (Or.inl (w28 hw)) (Or.inl (w96 hw)) (by decide) (t := .byte) (t' := .int) (by decide) (by decide)))
  show Go p e below _ (T358.setTop (mkF m 43 #[.val (.ref x), .val (.ref a), .val (.int z)] []))
  refine s_aloadN S358 (hb hby dAT_43) rfl rfl (pc' := 44) rfl ?_
  show Go p e below _ (T358.setTop (mkF m 44 #[.val (.ref x), .val (.ref a), .val (.int z)] [(.ref x)]))
  have KA365 := (Keep.refl h351 [x, tb])
  have KA366 := (KA365.trans K1 (allS (Or.inl (by simp)) all0))
  have KA367 : Keep h351 h358 [x, tb] := (KA366.trans K358 (allS (Or.inl (by simp)) all0))
  have F368 := V1.keep K358 (ninS (Ne.symm nXB) nin0)
  exact g_aret S358 (hb hby dAT_44) hret rfl rfl rfl ⟨rfl, _, bs2, KA367, A358, F363, F364, F358, F368, l1, ez⟩
theorem dSS_0 : decode jdk_67_method_7_code 0 = .ok (.aload_n 0, 1) := by decide +kernel
theorem dSS_1 : decode jdk_67_method_7_code 1 = .ok (.aload_n 1, 1) := by decide +kernel
theorem dSS_2 : decode jdk_67_method_7_code 2 = .ok (.invokespecial 29, 3) := by decide +kernel
theorem dSS_5 : decode jdk_67_method_7_code 5 = .ok (.pop, 1) := by decide +kernel
theorem dSS_6 : decode jdk_67_method_7_code 6 = .ok (.aload_n 0, 1) := by decide +kernel
theorem dSS_7 : decode jdk_67_method_7_code 7 = .ok (.areturn, 1) := by decide +kernel
set_option maxRecDepth 65536 in
set_option maxHeartbeats 40000000 in
theorem rmSS {l : Launch} {Z : State} {a0 : Array Value} {n0 : Nat} (X : Ctx Z a0) {x tb : Addr} {kb : ClassId} {sc : Int32} {bs : List Value} {a ta : Addr} {ka : ClassId} {z : Int32} {us : List Value} (nx : n0 ≤ x) (nb : n0 ≤ tb) {h : Heap} (hO : Old Z n0 h) (Ex : Exa Z h x "java/lang/StringBuilder") (Fv : Fld Z h x "java/lang/AbstractStringBuilder" "value" "[B" (.ref tb)) (Fk : Fld Z h x "java/lang/AbstractStringBuilder" "coder" "B" (.int (0 : Int32))) (Fs : Fld Z h x "java/lang/AbstractStringBuilder" "count" "I" (.int sc)) (F : LS Z h a ta ka z us) (Vb : Arv Z h tb kb .byte (16 : Int32) bs (.int (0 : Int32))) (h0 : 0 ≤ sc.toInt) (h1 : 0 ≤ z.toInt) (h2 : sc.toInt + z.toInt ≤ 16) (hbl : bs.length = 16) :
    Ctr l Z EL1 n0 (⟨"java/lang/StringBuilder", "append", "(Ljava/lang/String;)Ljava/lang/StringBuilder;"⟩ : MethodName) jdk_67_method_7_code 2 (some (.object "java/lang/StringBuilder")) ({ frames := 4, cells := 0, slots := 0, locals := 61 } : Room) #[(.ref x), (.ref a)] h [tb] (fun v h' => v = some (.ref x) ∧ ∃ (sc' : Int32) (bs' : List Value), Keep h h' [x, tb] ∧ Exa Z h' x "java/lang/StringBuilder" ∧ Fld Z h' x "java/lang/AbstractStringBuilder" "value" "[B" (.ref tb) ∧ Fld Z h' x "java/lang/AbstractStringBuilder" "coder" "B" (.int (0 : Int32)) ∧ Fld Z h' x "java/lang/AbstractStringBuilder" "count" "I" (.int sc') ∧ Arv Z h' tb kb .byte (16 : Int32) bs' (.int (0 : Int32)) ∧ bs'.length = 16 ∧ sc'.toInt = sc.toInt + z.toInt) := by
  have hw := X.hw
  obtain ⟨z1, hz1, hz2⟩ := X.2.2.1
  refine Ctr.intro (a0 := a0) (plainFor_of_name pn1) hO X.ew ?_
  intro p e s m below meth c T0 V0 S0 hby hml hret hnm hsf
  rw [ef7]
  refine s_aloadN S0 (hb hby dSS_0) rfl rfl (pc' := 1) rfl ?_
  refine s_aloadN S0 (hb hby dSS_1) rfl rfl (pc' := 2) rfl ?_
  show Go p e below _ (T0.setTop (mkF m 2 #[.val (.ref x), .val (.ref a)] [(.ref a), (.ref x)]))
  refine g_super S0 (rmAT X nx nb S0.old Ex Fv Fk Fs F Vb h0 h1 h2 hbl) (sf1 Vb.lt (hsf tb List.mem_cons_self)) (by decide) (w80 hw) (ni_sel (w100 hw) rfl) (w81 hw) (w82 hw) (w19 hw) (w84 hw) (by decide) (hb hby dSS_2) (by rw [hml]; rfl) x Ex [(.ref a)] (lenOf pd9 rfl) rfl rfl (Nat.le_of_ble_eq_true rfl) (Nat.le_of_ble_eq_true rfl) (Nat.le_of_ble_eq_true rfl) (Nat.le_of_ble_eq_true rfl) ?_
  intro v369 T369 V369 h369 S369 C369 q369
  obtain ⟨rfl, q1⟩ := q369
  have sf370 := C369.safe Vb.lt (hsf tb List.mem_cons_self)
  show Go p e below _ (T369.setTop (mkF m 5 #[.val (.ref x), .val (.ref a)] [(.ref x)]))
  refine s_pop S369 (hb hby dSS_5) rfl (pc' := 6) rfl ?_
  refine s_aloadN S369 (hb hby dSS_6) rfl rfl (pc' := 7) rfl ?_
  exact g_aret S369 (hb hby dSS_7) hret rfl rfl rfl ⟨rfl, q1⟩
theorem dAX0_0 : decode prog_3_method_3_code 0 = .ok (.aload_n 0, 1) := by decide +kernel
theorem dAX0_1 : decode prog_3_method_3_code 1 = .ok (.getfield 10, 3) := by decide +kernel
theorem dAX0_4 : decode prog_3_method_3_code 4 = .ok (.aload 4, 2) := by decide +kernel
theorem dAX0_6 : decode prog_3_method_3_code 6 = .ok (.invokevirtual 28, 3) := by decide +kernel
theorem dAX0_9 : decode prog_3_method_3_code 9 = .ok (.pop, 1) := by decide +kernel
theorem dAX0_10 : decode prog_3_method_3_code 10 = .ok (.aload_n 0, 1) := by decide +kernel
theorem dAX0_11 : decode prog_3_method_3_code 11 = .ok (.getfield 10, 3) := by decide +kernel
theorem dAX0_14 : decode prog_3_method_3_code 14 = .ok (.invokevirtual 31, 3) := by decide +kernel
theorem dAX0_17 : decode prog_3_method_3_code 17 = .ok (.istore 6, 2) := by decide +kernel
theorem dAX0_19 : decode prog_3_method_3_code 19 = .ok (.aload_n 0, 1) := by decide +kernel
theorem dAX0_20 : decode prog_3_method_3_code 20 = .ok (.getfield 10, 3) := by decide +kernel
theorem dAX0_23 : decode prog_3_method_3_code 23 = .ok (.aload 5, 2) := by decide +kernel
theorem dAX0_25 : decode prog_3_method_3_code 25 = .ok (.invokevirtual 28, 3) := by decide +kernel
theorem dAX0_28 : decode prog_3_method_3_code 28 = .ok (.pop, 1) := by decide +kernel
theorem dAX0_29 : decode prog_3_method_3_code 29 = .ok (.aload_n 0, 1) := by decide +kernel
theorem dAX0_30 : decode prog_3_method_3_code 30 = .ok (.iload_n 1, 1) := by decide +kernel
theorem dAX0_31 : decode prog_3_method_3_code 31 = .ok (.iload_n 2, 1) := by decide +kernel
theorem dAX0_32 : decode prog_3_method_3_code 32 = .ok (.iload_n 3, 1) := by decide +kernel
theorem dAX0_33 : decode prog_3_method_3_code 33 = .ok (.iload 6, 2) := by decide +kernel
theorem dAX0_35 : decode prog_3_method_3_code 35 = .ok (.invokevirtual 24, 3) := by decide +kernel
theorem dAX0_38 : decode prog_3_method_3_code 38 = .ok (.return_, 1) := by decide +kernel
set_option maxRecDepth 65536 in
set_option maxHeartbeats 40000000 in
theorem rmAX0 {l : Launch} {Z : State} {a0 : Array Value} {n0 : Nat} (X : Ctx Z a0) {x sb tb t : Addr} {kb kt : ClassId} {sc : Int32} {bs : List Value} {a1 ta1 : Addr} {ka1 : ClassId} {z1 : Int32} {us1 : List Value} {a2 ta2 : Addr} {ka2 : ClassId} {z2 : Int32} {us2 : List Value} (pp qq oo : Int32) {h : Heap} (hO : Old Z n0 h) (A : AS Z h n0 x sb tb t kb kt (0 : Int32) (0 : Int32) [] (16 : Int32) sc bs) (F1 : LS Z h a1 ta1 ka1 z1 us1) (F2 : LS Z h a2 ta2 ka2 z2 us2) (ne2 : ta2 ≠ tb) (h0 : 0 ≤ sc.toInt) (h1 : 0 ≤ z1.toInt) (h2 : 0 ≤ z2.toInt) (h3 : sc.toInt + z1.toInt + z2.toInt ≤ 16) (hbl : bs.length = 16) :
    Ctr l Z EL1 n0 (⟨"com/example/nodewarden/nodewarden/core/Asides", "addInstruction", "(IIILjava/lang/String;Ljava/lang/String;)V"⟩ : MethodName) prog_3_method_3_code 7 none ({ frames := 5, cells := 1, slots := 80, locals := 74 } : Room) #[(.ref x), (.int pp), (.int qq), (.int oo), (.ref a1), (.ref a2)] h [tb] (fun v h' => v = none ∧ ∃ (u : Addr) (ku : ClassId) (dd ee sc' : Int32) (bs' : List Value), AS Z h' n0 x sb tb u kb ku (1 : Int32) (80 : Int32) [(.int pp), (.int qq), (.int oo), (.int dd), (.int ee), (.int (0 : Int32)), (.int (0 : Int32)), (.int (0 : Int32)), (.int (0 : Int32)), (.int (0 : Int32)), (.int (0 : Int32)), (.int (0 : Int32)), (.int (0 : Int32)), (.int (0 : Int32)), (.int (0 : Int32))] (16 : Int32) sc' bs' ∧ 0 ≤ dd.toInt ∧ sc'.toInt = sc.toInt + z1.toInt + z2.toInt ∧ bs'.length = 16) := by
  have hw := X.hw
  obtain ⟨z1, hz1, hz2⟩ := X.2.2.1
  refine Ctr.intro (a0 := a0) (plainFor_of_name pn3) hO X.ew ?_
  intro p e s m below meth c T0 V0 S0 hby hml hret hnm hsf
  rw [ef11]
  obtain ⟨Ex, Ft, Fb, Fn, Vt, ⟨Es, Fv, Fk, Fs, Vb⟩, nx, ns, nb, nt⟩ := A
  have nXS : x ≠ sb := ne_exa Ex Es (by decide)
  have nXT : x ≠ t := Exa.neArv Ex Vt (w1 hw)
  have nXB : x ≠ tb := Exa.neArv Ex Vb (w1 hw)
  have nST : sb ≠ t := Exa.neArv Es Vt (w10 hw)
  have nSB : sb ≠ tb := Exa.neArv Es Vb (w10 hw)
  have nTB : t ≠ tb := arv_kne Vt Vb (by decide)
  have e1 := own_nat h0
  have nAS : a2 ≠ sb := ne_exa F2.1 Es (by decide)
  have nAB : a2 ≠ tb := Exa.neArv F2.1 Vb (w42 hw)
  have nRS : sb ≠ ta2 := Exa.neArv Es F2.2.2.2 (w10 hw)
  show Go p e below _ (T0.setTop (mkF m 0 #[.val (.ref x), .val (.int pp), .val (.int qq), .val (.int oo), .val (.ref a1), .val (.ref a2), .unset] []))
  refine s_aloadN S0 (hb hby dAX0_0) rfl rfl (pc' := 1) rfl ?_
  refine g_getF S0 (w29 hw) Via.refl Ft (hb hby dAX0_1) ?_
  intro T371 ST371
  show Go p e below _ (T371.setTop (mkF m 4 #[.val (.ref x), .val (.int pp), .val (.int qq), .val (.int oo), .val (.ref a1), .val (.ref a2), .unset] [(.ref sb)]))
  refine s_aload ST371 (hb hby dAX0_4) rfl rfl (pc' := 6) rfl ?_
  show Go p e below _ (T371.setTop (mkF m 6 #[.val (.ref x), .val (.int pp), .val (.int qq), .val (.int oo), .val (.ref a1), .val (.ref a2), .unset] [(.ref a1), (.ref sb)]))
  refine g_virtual ST371 (rmSS X ns nb ST371.old Es Fv Fk Fs F1 Vb h0 h1 (by omega) hbl) (sf1 Vb.lt (hsf tb List.mem_cons_self)) (w75 hw) (w76 hw) (w78 hw) (w77 hw) (w11 hw) (w79 hw) (by decide) (fun _ h => notFace_of_selects h) (hb hby dAX0_6) (by rw [hml]; rfl) sb Es [(.ref a1)] (lenOf pd10 rfl) rfl rfl (Nat.le_of_ble_eq_true rfl) (Nat.le_of_ble_eq_true rfl) (Nat.le_of_ble_eq_true rfl) (Nat.le_of_ble_eq_true rfl) ?_
  intro v372 T372 V372 h372 S372 C372 q372
  obtain ⟨rfl, sc1, bs1, K1, E1_, Fa1, Fb1, Fc1, V1, lb1, ls1⟩ := q372
  have sf373 := C372.safe Vb.lt (hsf tb List.mem_cons_self)
  show Go p e below _ (T372.setTop (mkF m 9 #[.val (.ref x), .val (.int pp), .val (.int qq), .val (.int oo), .val (.ref a1), .val (.ref a2), .unset] [(.ref sb)]))
  refine s_pop S372 (hb hby dAX0_9) rfl (pc' := 10) rfl ?_
  refine s_aloadN S372 (hb hby dAX0_10) rfl rfl (pc' := 11) rfl ?_
  have F374 := Ft.keep K1 (ninS nXS (ninS nXB nin0))
  refine g_getF S372 (w29 hw) Via.refl F374 (hb hby dAX0_11) ?_
  intro T375 ST375
  show Go p e below _ (T375.setTop (mkF m 14 #[.val (.ref x), .val (.int pp), .val (.int qq), .val (.int oo), .val (.ref a1), .val (.ref a2), .unset] [(.ref sb)]))
  show Go p e below _ (T375.setTop (mkF m 14 #[.val (.ref x), .val (.int pp), .val (.int qq), .val (.int oo), .val (.ref a1), .val (.ref a2), .unset] [(.ref sb)]))
  refine g_virtual ST375 (rmSL X ST375.old E1_ Fa1 Fb1 Fc1) (fun _ q => nomatch q) (w122 hw) (w123 hw) (w125 hw) (w124 hw) (w11 hw) (w126 hw) (by decide) (fun _ h => notFace_of_selects h) (hb hby dAX0_14) (by rw [hml]; rfl) sb E1_ [] (lenOf pd1 rfl) rfl rfl (Nat.le_of_ble_eq_true rfl) (Nat.le_of_ble_eq_true rfl) (Nat.le_of_ble_eq_true rfl) (Nat.le_of_ble_eq_true rfl) ?_
  intro v376 T376 V376 h376 S376 C376 q376
  obtain ⟨rfl, rfl⟩ := q376
  have sf377 := C376.safe (Nat.lt_of_lt_of_le Vb.lt (Nat.le_trans (Nat.le_refl _) K1.1)) sf373
  show Go p e below _ (T376.setTop (mkF m 17 #[.val (.ref x), .val (.int pp), .val (.int qq), .val (.int oo), .val (.ref a1), .val (.ref a2), .unset] [(.int sc1)]))
  refine s_istore S376 (hb hby dAX0_17) (L' := #[.val (.ref x), .val (.int pp), .val (.int qq), .val (.int oo), .val (.ref a1), .val (.ref a2), .val (.int sc1)]) rfl (pc' := 19) rfl ?_
  refine s_aloadN S376 (hb hby dAX0_19) rfl rfl (pc' := 20) rfl ?_
  refine g_getF S376 (w29 hw) Via.refl F374 (hb hby dAX0_20) ?_
  intro T378 ST378
  show Go p e below _ (T378.setTop (mkF m 23 #[.val (.ref x), .val (.int pp), .val (.int qq), .val (.int oo), .val (.ref a1), .val (.ref a2), .val (.int sc1)] [(.ref sb)]))
  refine s_aload ST378 (hb hby dAX0_23) rfl rfl (pc' := 25) rfl ?_
  have F379 := F2.1.keep K1
  have F380 := F2.2.1.keep K1 (ninS nAS (ninS nAB nin0))
  have F381 := F2.2.2.1.keep K1 (ninS nAS (ninS nAB nin0))
  have F382 := F2.2.2.2.keep K1 (ninS (Ne.symm nRS) (ninS ne2 nin0))
  show Go p e below _ (T378.setTop (mkF m 25 #[.val (.ref x), .val (.int pp), .val (.int qq), .val (.int oo), .val (.ref a1), .val (.ref a2), .val (.int sc1)] [(.ref a2), (.ref sb)]))
  refine g_virtual ST378 (rmSS X ns nb ST378.old E1_ Fa1 Fb1 Fc1 ⟨F379, F380, F381, F382⟩ V1 (by omega) h2 (by omega) lb1) (sf1 V1.lt sf377) (w75 hw) (w76 hw) (w78 hw) (w77 hw) (w11 hw) (w79 hw) (by decide) (fun _ h => notFace_of_selects h) (hb hby dAX0_25) (by rw [hml]; rfl) sb E1_ [(.ref a2)] (lenOf pd10 rfl) rfl rfl (Nat.le_of_ble_eq_true rfl) (Nat.le_of_ble_eq_true rfl) (Nat.le_of_ble_eq_true rfl) (Nat.le_of_ble_eq_true rfl) ?_
  intro v383 T383 V383 h383 S383 C383 q383
  obtain ⟨rfl, sc2, bs2, K2, E2_, Fa2, Fb2, Fc2, V2, lb2, ls2⟩ := q383
  have sf384 := C383.safe (Nat.lt_of_lt_of_le Vb.lt (Nat.le_trans (Nat.le_refl _) K1.1)) sf377
  show Go p e below _ (T383.setTop (mkF m 28 #[.val (.ref x), .val (.int pp), .val (.int qq), .val (.int oo), .val (.ref a1), .val (.ref a2), .val (.int sc1)] [(.ref sb)]))
  refine s_pop S383 (hb hby dAX0_28) rfl (pc' := 29) rfl ?_
  refine s_aloadN S383 (hb hby dAX0_29) rfl rfl (pc' := 30) rfl ?_
  refine s_iloadN S383 (hb hby dAX0_30) rfl (pc' := 31) rfl ?_
  refine s_iloadN S383 (hb hby dAX0_31) rfl (pc' := 32) rfl ?_
  refine s_iloadN S383 (hb hby dAX0_32) rfl (pc' := 33) rfl ?_
  refine s_iload S383 (hb hby dAX0_33) rfl (pc' := 35) rfl ?_
  have F385 := Ex.keep K1
  have F386 := F385.keep K2
  have F387 := F374.keep K2 (ninS nXS (ninS nXB nin0))
  have F388 := Fb.keep K1 (ninS nXS (ninS nXB nin0))
  have F389 := F388.keep K2 (ninS nXS (ninS nXB nin0))
  have F390 := Fn.keep K1 (ninS nXS (ninS nXB nin0))
  have F391 := F390.keep K2 (ninS nXS (ninS nXB nin0))
  have F392 := Vt.keep K1 (ninS (Ne.symm nST) (ninS nTB nin0))
  have F393 := F392.keep K2 (ninS (Ne.symm nST) (ninS nTB nin0))
  show Go p e below _ (T383.setTop (mkF m 35 #[.val (.ref x), .val (.int pp), .val (.int qq), .val (.int oo), .val (.ref a1), .val (.ref a2), .val (.int sc1)] [(.int sc1), (.int oo), (.int qq), (.int pp), (.ref x)]))
  refine g_private S383 (rmAD0 X pp qq oo sc1 S383.old ⟨F386, F387, F389, F391, F393, ⟨E2_, Fa2, Fb2, Fc2, V2⟩, nx, ns, nb, nt⟩) (fun _ q => nomatch q) (w131 hw) (ni_inst (w1 hw)) (w133 hw) (w132 hw) (w2 hw) (w134 hw) (by decide) (hb hby dAX0_35) (by rw [hml]; rfl) x F386 [(.int pp), (.int qq), (.int oo), (.int sc1)] (lenOf pd11 rfl) rfl rfl (Nat.le_of_ble_eq_true rfl) (Nat.le_of_ble_eq_true rfl) (Nat.le_of_ble_eq_true rfl) (Nat.le_of_ble_eq_true rfl) ?_
  intro v394 T394 V394 h394 S394 C394 q394
  obtain ⟨rfl, u, ku, K9, A9⟩ := q394
  have sf395 := C394.safe (Nat.lt_of_lt_of_le Vb.lt (Nat.le_trans (Nat.le_trans (Nat.le_refl _) K1.1) K2.1)) sf384
  show Go p e below _ (T394.setTop (mkF m 38 #[.val (.ref x), .val (.int pp), .val (.int qq), .val (.int oo), .val (.ref a1), .val (.ref a2), .val (.int sc1)] []))
  exact g_ret S394 (hb hby dAX0_38) hret ⟨rfl, u, ku, sc1, sc2, sc2, bs2, A9, by omega, by omega, lb2⟩
theorem dAX1_0 : decode prog_3_method_3_code 0 = .ok (.aload_n 0, 1) := by decide +kernel
theorem dAX1_1 : decode prog_3_method_3_code 1 = .ok (.getfield 10, 3) := by decide +kernel
theorem dAX1_4 : decode prog_3_method_3_code 4 = .ok (.aload 4, 2) := by decide +kernel
theorem dAX1_6 : decode prog_3_method_3_code 6 = .ok (.invokevirtual 28, 3) := by decide +kernel
theorem dAX1_9 : decode prog_3_method_3_code 9 = .ok (.pop, 1) := by decide +kernel
theorem dAX1_10 : decode prog_3_method_3_code 10 = .ok (.aload_n 0, 1) := by decide +kernel
theorem dAX1_11 : decode prog_3_method_3_code 11 = .ok (.getfield 10, 3) := by decide +kernel
theorem dAX1_14 : decode prog_3_method_3_code 14 = .ok (.invokevirtual 31, 3) := by decide +kernel
theorem dAX1_17 : decode prog_3_method_3_code 17 = .ok (.istore 6, 2) := by decide +kernel
theorem dAX1_19 : decode prog_3_method_3_code 19 = .ok (.aload_n 0, 1) := by decide +kernel
theorem dAX1_20 : decode prog_3_method_3_code 20 = .ok (.getfield 10, 3) := by decide +kernel
theorem dAX1_23 : decode prog_3_method_3_code 23 = .ok (.aload 5, 2) := by decide +kernel
theorem dAX1_25 : decode prog_3_method_3_code 25 = .ok (.invokevirtual 28, 3) := by decide +kernel
theorem dAX1_28 : decode prog_3_method_3_code 28 = .ok (.pop, 1) := by decide +kernel
theorem dAX1_29 : decode prog_3_method_3_code 29 = .ok (.aload_n 0, 1) := by decide +kernel
theorem dAX1_30 : decode prog_3_method_3_code 30 = .ok (.iload_n 1, 1) := by decide +kernel
theorem dAX1_31 : decode prog_3_method_3_code 31 = .ok (.iload_n 2, 1) := by decide +kernel
theorem dAX1_32 : decode prog_3_method_3_code 32 = .ok (.iload_n 3, 1) := by decide +kernel
theorem dAX1_33 : decode prog_3_method_3_code 33 = .ok (.iload 6, 2) := by decide +kernel
theorem dAX1_35 : decode prog_3_method_3_code 35 = .ok (.invokevirtual 24, 3) := by decide +kernel
theorem dAX1_38 : decode prog_3_method_3_code 38 = .ok (.return_, 1) := by decide +kernel
set_option maxRecDepth 65536 in
set_option maxHeartbeats 40000000 in
theorem rmAX1 {l : Launch} {Z : State} {a0 : Array Value} {n0 : Nat} (X : Ctx Z a0) {x sb tb t : Addr} {kb kt : ClassId} {sc : Int32} {bs : List Value} {a1 ta1 : Addr} {ka1 : ClassId} {z1 : Int32} {us1 : List Value} {a2 ta2 : Addr} {ka2 : ClassId} {z2 : Int32} {us2 : List Value} {r0 r1 r2 r3 r4 : Int32} (pp qq oo : Int32) {h : Heap} (hO : Old Z n0 h) (A : AS Z h n0 x sb tb t kb kt (1 : Int32) (80 : Int32) [(.int r0), (.int r1), (.int r2), (.int r3), (.int r4), (.int (0 : Int32)), (.int (0 : Int32)), (.int (0 : Int32)), (.int (0 : Int32)), (.int (0 : Int32)), (.int (0 : Int32)), (.int (0 : Int32)), (.int (0 : Int32)), (.int (0 : Int32)), (.int (0 : Int32))] (16 : Int32) sc bs) (F1 : LS Z h a1 ta1 ka1 z1 us1) (F2 : LS Z h a2 ta2 ka2 z2 us2) (ne2 : ta2 ≠ tb) (h0 : 0 ≤ sc.toInt) (h1 : 0 ≤ z1.toInt) (h2 : 0 ≤ z2.toInt) (h3 : sc.toInt + z1.toInt + z2.toInt ≤ 16) (hbl : bs.length = 16) :
    Ctr l Z EL1 n0 (⟨"com/example/nodewarden/nodewarden/core/Asides", "addInstruction", "(IIILjava/lang/String;Ljava/lang/String;)V"⟩ : MethodName) prog_3_method_3_code 7 none ({ frames := 5, cells := 0, slots := 0, locals := 74 } : Room) #[(.ref x), (.int pp), (.int qq), (.int oo), (.ref a1), (.ref a2)] h [tb] (fun v h' => v = none ∧ ∃ (u : Addr) (ku : ClassId) (dd ee sc' : Int32) (bs' : List Value), AS Z h' n0 x sb tb u kb ku (2 : Int32) (80 : Int32) [(.int r0), (.int r1), (.int r2), (.int r3), (.int r4), (.int pp), (.int qq), (.int oo), (.int dd), (.int ee), (.int (0 : Int32)), (.int (0 : Int32)), (.int (0 : Int32)), (.int (0 : Int32)), (.int (0 : Int32))] (16 : Int32) sc' bs' ∧ 0 ≤ dd.toInt ∧ sc'.toInt = sc.toInt + z1.toInt + z2.toInt ∧ bs'.length = 16) := by
  have hw := X.hw
  obtain ⟨z1, hz1, hz2⟩ := X.2.2.1
  refine Ctr.intro (a0 := a0) (plainFor_of_name pn3) hO X.ew ?_
  intro p e s m below meth c T0 V0 S0 hby hml hret hnm hsf
  rw [ef11]
  obtain ⟨Ex, Ft, Fb, Fn, Vt, ⟨Es, Fv, Fk, Fs, Vb⟩, nx, ns, nb, nt⟩ := A
  have nXS : x ≠ sb := ne_exa Ex Es (by decide)
  have nXT : x ≠ t := Exa.neArv Ex Vt (w1 hw)
  have nXB : x ≠ tb := Exa.neArv Ex Vb (w1 hw)
  have nST : sb ≠ t := Exa.neArv Es Vt (w10 hw)
  have nSB : sb ≠ tb := Exa.neArv Es Vb (w10 hw)
  have nTB : t ≠ tb := arv_kne Vt Vb (by decide)
  have e1 := own_nat h0
  have nAS : a2 ≠ sb := ne_exa F2.1 Es (by decide)
  have nAB : a2 ≠ tb := Exa.neArv F2.1 Vb (w42 hw)
  have nRS : sb ≠ ta2 := Exa.neArv Es F2.2.2.2 (w10 hw)
  show Go p e below _ (T0.setTop (mkF m 0 #[.val (.ref x), .val (.int pp), .val (.int qq), .val (.int oo), .val (.ref a1), .val (.ref a2), .unset] []))
  refine s_aloadN S0 (hb hby dAX1_0) rfl rfl (pc' := 1) rfl ?_
  refine g_getF S0 (w29 hw) Via.refl Ft (hb hby dAX1_1) ?_
  intro T396 ST396
  show Go p e below _ (T396.setTop (mkF m 4 #[.val (.ref x), .val (.int pp), .val (.int qq), .val (.int oo), .val (.ref a1), .val (.ref a2), .unset] [(.ref sb)]))
  refine s_aload ST396 (hb hby dAX1_4) rfl rfl (pc' := 6) rfl ?_
  show Go p e below _ (T396.setTop (mkF m 6 #[.val (.ref x), .val (.int pp), .val (.int qq), .val (.int oo), .val (.ref a1), .val (.ref a2), .unset] [(.ref a1), (.ref sb)]))
  refine g_virtual ST396 (rmSS X ns nb ST396.old Es Fv Fk Fs F1 Vb h0 h1 (by omega) hbl) (sf1 Vb.lt (hsf tb List.mem_cons_self)) (w75 hw) (w76 hw) (w78 hw) (w77 hw) (w11 hw) (w79 hw) (by decide) (fun _ h => notFace_of_selects h) (hb hby dAX1_6) (by rw [hml]; rfl) sb Es [(.ref a1)] (lenOf pd10 rfl) rfl rfl (Nat.le_of_ble_eq_true rfl) (Nat.le_of_ble_eq_true rfl) (Nat.le_of_ble_eq_true rfl) (Nat.le_of_ble_eq_true rfl) ?_
  intro v397 T397 V397 h397 S397 C397 q397
  obtain ⟨rfl, sc1, bs1, K1, E1_, Fa1, Fb1, Fc1, V1, lb1, ls1⟩ := q397
  have sf398 := C397.safe Vb.lt (hsf tb List.mem_cons_self)
  show Go p e below _ (T397.setTop (mkF m 9 #[.val (.ref x), .val (.int pp), .val (.int qq), .val (.int oo), .val (.ref a1), .val (.ref a2), .unset] [(.ref sb)]))
  refine s_pop S397 (hb hby dAX1_9) rfl (pc' := 10) rfl ?_
  refine s_aloadN S397 (hb hby dAX1_10) rfl rfl (pc' := 11) rfl ?_
  have F399 := Ft.keep K1 (ninS nXS (ninS nXB nin0))
  refine g_getF S397 (w29 hw) Via.refl F399 (hb hby dAX1_11) ?_
  intro T400 ST400
  show Go p e below _ (T400.setTop (mkF m 14 #[.val (.ref x), .val (.int pp), .val (.int qq), .val (.int oo), .val (.ref a1), .val (.ref a2), .unset] [(.ref sb)]))
  show Go p e below _ (T400.setTop (mkF m 14 #[.val (.ref x), .val (.int pp), .val (.int qq), .val (.int oo), .val (.ref a1), .val (.ref a2), .unset] [(.ref sb)]))
  refine g_virtual ST400 (rmSL X ST400.old E1_ Fa1 Fb1 Fc1) (fun _ q => nomatch q) (w122 hw) (w123 hw) (w125 hw) (w124 hw) (w11 hw) (w126 hw) (by decide) (fun _ h => notFace_of_selects h) (hb hby dAX1_14) (by rw [hml]; rfl) sb E1_ [] (lenOf pd1 rfl) rfl rfl (Nat.le_of_ble_eq_true rfl) (Nat.le_of_ble_eq_true rfl) (Nat.le_of_ble_eq_true rfl) (Nat.le_of_ble_eq_true rfl) ?_
  intro v401 T401 V401 h401 S401 C401 q401
  obtain ⟨rfl, rfl⟩ := q401
  have sf402 := C401.safe (Nat.lt_of_lt_of_le Vb.lt (Nat.le_trans (Nat.le_refl _) K1.1)) sf398
  show Go p e below _ (T401.setTop (mkF m 17 #[.val (.ref x), .val (.int pp), .val (.int qq), .val (.int oo), .val (.ref a1), .val (.ref a2), .unset] [(.int sc1)]))
  refine s_istore S401 (hb hby dAX1_17) (L' := #[.val (.ref x), .val (.int pp), .val (.int qq), .val (.int oo), .val (.ref a1), .val (.ref a2), .val (.int sc1)]) rfl (pc' := 19) rfl ?_
  refine s_aloadN S401 (hb hby dAX1_19) rfl rfl (pc' := 20) rfl ?_
  refine g_getF S401 (w29 hw) Via.refl F399 (hb hby dAX1_20) ?_
  intro T403 ST403
  show Go p e below _ (T403.setTop (mkF m 23 #[.val (.ref x), .val (.int pp), .val (.int qq), .val (.int oo), .val (.ref a1), .val (.ref a2), .val (.int sc1)] [(.ref sb)]))
  refine s_aload ST403 (hb hby dAX1_23) rfl rfl (pc' := 25) rfl ?_
  have F404 := F2.1.keep K1
  have F405 := F2.2.1.keep K1 (ninS nAS (ninS nAB nin0))
  have F406 := F2.2.2.1.keep K1 (ninS nAS (ninS nAB nin0))
  have F407 := F2.2.2.2.keep K1 (ninS (Ne.symm nRS) (ninS ne2 nin0))
  show Go p e below _ (T403.setTop (mkF m 25 #[.val (.ref x), .val (.int pp), .val (.int qq), .val (.int oo), .val (.ref a1), .val (.ref a2), .val (.int sc1)] [(.ref a2), (.ref sb)]))
  refine g_virtual ST403 (rmSS X ns nb ST403.old E1_ Fa1 Fb1 Fc1 ⟨F404, F405, F406, F407⟩ V1 (by omega) h2 (by omega) lb1) (sf1 V1.lt sf402) (w75 hw) (w76 hw) (w78 hw) (w77 hw) (w11 hw) (w79 hw) (by decide) (fun _ h => notFace_of_selects h) (hb hby dAX1_25) (by rw [hml]; rfl) sb E1_ [(.ref a2)] (lenOf pd10 rfl) rfl rfl (Nat.le_of_ble_eq_true rfl) (Nat.le_of_ble_eq_true rfl) (Nat.le_of_ble_eq_true rfl) (Nat.le_of_ble_eq_true rfl) ?_
  intro v408 T408 V408 h408 S408 C408 q408
  obtain ⟨rfl, sc2, bs2, K2, E2_, Fa2, Fb2, Fc2, V2, lb2, ls2⟩ := q408
  have sf409 := C408.safe (Nat.lt_of_lt_of_le Vb.lt (Nat.le_trans (Nat.le_refl _) K1.1)) sf402
  show Go p e below _ (T408.setTop (mkF m 28 #[.val (.ref x), .val (.int pp), .val (.int qq), .val (.int oo), .val (.ref a1), .val (.ref a2), .val (.int sc1)] [(.ref sb)]))
  refine s_pop S408 (hb hby dAX1_28) rfl (pc' := 29) rfl ?_
  refine s_aloadN S408 (hb hby dAX1_29) rfl rfl (pc' := 30) rfl ?_
  refine s_iloadN S408 (hb hby dAX1_30) rfl (pc' := 31) rfl ?_
  refine s_iloadN S408 (hb hby dAX1_31) rfl (pc' := 32) rfl ?_
  refine s_iloadN S408 (hb hby dAX1_32) rfl (pc' := 33) rfl ?_
  refine s_iload S408 (hb hby dAX1_33) rfl (pc' := 35) rfl ?_
  have F410 := Ex.keep K1
  have F411 := F410.keep K2
  have F412 := F399.keep K2 (ninS nXS (ninS nXB nin0))
  have F413 := Fb.keep K1 (ninS nXS (ninS nXB nin0))
  have F414 := F413.keep K2 (ninS nXS (ninS nXB nin0))
  have F415 := Fn.keep K1 (ninS nXS (ninS nXB nin0))
  have F416 := F415.keep K2 (ninS nXS (ninS nXB nin0))
  have F417 := Vt.keep K1 (ninS (Ne.symm nST) (ninS nTB nin0))
  have F418 := F417.keep K2 (ninS (Ne.symm nST) (ninS nTB nin0))
  show Go p e below _ (T408.setTop (mkF m 35 #[.val (.ref x), .val (.int pp), .val (.int qq), .val (.int oo), .val (.ref a1), .val (.ref a2), .val (.int sc1)] [(.int sc1), (.int oo), (.int qq), (.int pp), (.ref x)]))
  refine g_private S408 (rmAD1 X pp qq oo sc1 S408.old ⟨F411, F412, F414, F416, F418, ⟨E2_, Fa2, Fb2, Fc2, V2⟩, nx, ns, nb, nt⟩) (fun _ q => nomatch q) (w131 hw) (ni_inst (w1 hw)) (w133 hw) (w132 hw) (w2 hw) (w134 hw) (by decide) (hb hby dAX1_35) (by rw [hml]; rfl) x F411 [(.int pp), (.int qq), (.int oo), (.int sc1)] (lenOf pd11 rfl) rfl rfl (Nat.le_of_ble_eq_true rfl) (Nat.le_of_ble_eq_true rfl) (Nat.le_of_ble_eq_true rfl) (Nat.le_of_ble_eq_true rfl) ?_
  intro v419 T419 V419 h419 S419 C419 q419
  obtain ⟨rfl, K9, A9⟩ := q419
  have sf420 := C419.safe (Nat.lt_of_lt_of_le Vb.lt (Nat.le_trans (Nat.le_trans (Nat.le_refl _) K1.1) K2.1)) sf409
  show Go p e below _ (T419.setTop (mkF m 38 #[.val (.ref x), .val (.int pp), .val (.int qq), .val (.int oo), .val (.ref a1), .val (.ref a2), .val (.int sc1)] []))
  exact g_ret S419 (hb hby dAX1_38) hret ⟨rfl, t, kt, sc1, sc2, sc2, bs2, A9, by omega, by omega, lb2⟩
theorem dAX2_0 : decode prog_3_method_3_code 0 = .ok (.aload_n 0, 1) := by decide +kernel
theorem dAX2_1 : decode prog_3_method_3_code 1 = .ok (.getfield 10, 3) := by decide +kernel
theorem dAX2_4 : decode prog_3_method_3_code 4 = .ok (.aload 4, 2) := by decide +kernel
theorem dAX2_6 : decode prog_3_method_3_code 6 = .ok (.invokevirtual 28, 3) := by decide +kernel
theorem dAX2_9 : decode prog_3_method_3_code 9 = .ok (.pop, 1) := by decide +kernel
theorem dAX2_10 : decode prog_3_method_3_code 10 = .ok (.aload_n 0, 1) := by decide +kernel
theorem dAX2_11 : decode prog_3_method_3_code 11 = .ok (.getfield 10, 3) := by decide +kernel
theorem dAX2_14 : decode prog_3_method_3_code 14 = .ok (.invokevirtual 31, 3) := by decide +kernel
theorem dAX2_17 : decode prog_3_method_3_code 17 = .ok (.istore 6, 2) := by decide +kernel
theorem dAX2_19 : decode prog_3_method_3_code 19 = .ok (.aload_n 0, 1) := by decide +kernel
theorem dAX2_20 : decode prog_3_method_3_code 20 = .ok (.getfield 10, 3) := by decide +kernel
theorem dAX2_23 : decode prog_3_method_3_code 23 = .ok (.aload 5, 2) := by decide +kernel
theorem dAX2_25 : decode prog_3_method_3_code 25 = .ok (.invokevirtual 28, 3) := by decide +kernel
theorem dAX2_28 : decode prog_3_method_3_code 28 = .ok (.pop, 1) := by decide +kernel
theorem dAX2_29 : decode prog_3_method_3_code 29 = .ok (.aload_n 0, 1) := by decide +kernel
theorem dAX2_30 : decode prog_3_method_3_code 30 = .ok (.iload_n 1, 1) := by decide +kernel
theorem dAX2_31 : decode prog_3_method_3_code 31 = .ok (.iload_n 2, 1) := by decide +kernel
theorem dAX2_32 : decode prog_3_method_3_code 32 = .ok (.iload_n 3, 1) := by decide +kernel
theorem dAX2_33 : decode prog_3_method_3_code 33 = .ok (.iload 6, 2) := by decide +kernel
theorem dAX2_35 : decode prog_3_method_3_code 35 = .ok (.invokevirtual 24, 3) := by decide +kernel
theorem dAX2_38 : decode prog_3_method_3_code 38 = .ok (.return_, 1) := by decide +kernel
set_option maxRecDepth 65536 in
set_option maxHeartbeats 40000000 in
theorem rmAX2 {l : Launch} {Z : State} {a0 : Array Value} {n0 : Nat} (X : Ctx Z a0) {x sb tb t : Addr} {kb kt : ClassId} {sc : Int32} {bs : List Value} {a1 ta1 : Addr} {ka1 : ClassId} {z1 : Int32} {us1 : List Value} {a2 ta2 : Addr} {ka2 : ClassId} {z2 : Int32} {us2 : List Value} {r0 r1 r2 r3 r4 r5 r6 r7 r8 r9 : Int32} (pp qq oo : Int32) {h : Heap} (hO : Old Z n0 h) (A : AS Z h n0 x sb tb t kb kt (2 : Int32) (80 : Int32) [(.int r0), (.int r1), (.int r2), (.int r3), (.int r4), (.int r5), (.int r6), (.int r7), (.int r8), (.int r9), (.int (0 : Int32)), (.int (0 : Int32)), (.int (0 : Int32)), (.int (0 : Int32)), (.int (0 : Int32))] (16 : Int32) sc bs) (F1 : LS Z h a1 ta1 ka1 z1 us1) (F2 : LS Z h a2 ta2 ka2 z2 us2) (ne2 : ta2 ≠ tb) (h0 : 0 ≤ sc.toInt) (h1 : 0 ≤ z1.toInt) (h2 : 0 ≤ z2.toInt) (h3 : sc.toInt + z1.toInt + z2.toInt ≤ 16) (hbl : bs.length = 16) :
    Ctr l Z EL1 n0 (⟨"com/example/nodewarden/nodewarden/core/Asides", "addInstruction", "(IIILjava/lang/String;Ljava/lang/String;)V"⟩ : MethodName) prog_3_method_3_code 7 none ({ frames := 5, cells := 0, slots := 0, locals := 74 } : Room) #[(.ref x), (.int pp), (.int qq), (.int oo), (.ref a1), (.ref a2)] h [tb] (fun v h' => v = none ∧ ∃ (u : Addr) (ku : ClassId) (dd ee sc' : Int32) (bs' : List Value), AS Z h' n0 x sb tb u kb ku (3 : Int32) (80 : Int32) [(.int r0), (.int r1), (.int r2), (.int r3), (.int r4), (.int r5), (.int r6), (.int r7), (.int r8), (.int r9), (.int pp), (.int qq), (.int oo), (.int dd), (.int ee)] (16 : Int32) sc' bs' ∧ 0 ≤ dd.toInt ∧ sc'.toInt = sc.toInt + z1.toInt + z2.toInt ∧ bs'.length = 16) := by
  have hw := X.hw
  obtain ⟨z1, hz1, hz2⟩ := X.2.2.1
  refine Ctr.intro (a0 := a0) (plainFor_of_name pn3) hO X.ew ?_
  intro p e s m below meth c T0 V0 S0 hby hml hret hnm hsf
  rw [ef11]
  obtain ⟨Ex, Ft, Fb, Fn, Vt, ⟨Es, Fv, Fk, Fs, Vb⟩, nx, ns, nb, nt⟩ := A
  have nXS : x ≠ sb := ne_exa Ex Es (by decide)
  have nXT : x ≠ t := Exa.neArv Ex Vt (w1 hw)
  have nXB : x ≠ tb := Exa.neArv Ex Vb (w1 hw)
  have nST : sb ≠ t := Exa.neArv Es Vt (w10 hw)
  have nSB : sb ≠ tb := Exa.neArv Es Vb (w10 hw)
  have nTB : t ≠ tb := arv_kne Vt Vb (by decide)
  have e1 := own_nat h0
  have nAS : a2 ≠ sb := ne_exa F2.1 Es (by decide)
  have nAB : a2 ≠ tb := Exa.neArv F2.1 Vb (w42 hw)
  have nRS : sb ≠ ta2 := Exa.neArv Es F2.2.2.2 (w10 hw)
  show Go p e below _ (T0.setTop (mkF m 0 #[.val (.ref x), .val (.int pp), .val (.int qq), .val (.int oo), .val (.ref a1), .val (.ref a2), .unset] []))
  refine s_aloadN S0 (hb hby dAX2_0) rfl rfl (pc' := 1) rfl ?_
  refine g_getF S0 (w29 hw) Via.refl Ft (hb hby dAX2_1) ?_
  intro T421 ST421
  show Go p e below _ (T421.setTop (mkF m 4 #[.val (.ref x), .val (.int pp), .val (.int qq), .val (.int oo), .val (.ref a1), .val (.ref a2), .unset] [(.ref sb)]))
  refine s_aload ST421 (hb hby dAX2_4) rfl rfl (pc' := 6) rfl ?_
  show Go p e below _ (T421.setTop (mkF m 6 #[.val (.ref x), .val (.int pp), .val (.int qq), .val (.int oo), .val (.ref a1), .val (.ref a2), .unset] [(.ref a1), (.ref sb)]))
  refine g_virtual ST421 (rmSS X ns nb ST421.old Es Fv Fk Fs F1 Vb h0 h1 (by omega) hbl) (sf1 Vb.lt (hsf tb List.mem_cons_self)) (w75 hw) (w76 hw) (w78 hw) (w77 hw) (w11 hw) (w79 hw) (by decide) (fun _ h => notFace_of_selects h) (hb hby dAX2_6) (by rw [hml]; rfl) sb Es [(.ref a1)] (lenOf pd10 rfl) rfl rfl (Nat.le_of_ble_eq_true rfl) (Nat.le_of_ble_eq_true rfl) (Nat.le_of_ble_eq_true rfl) (Nat.le_of_ble_eq_true rfl) ?_
  intro v422 T422 V422 h422 S422 C422 q422
  obtain ⟨rfl, sc1, bs1, K1, E1_, Fa1, Fb1, Fc1, V1, lb1, ls1⟩ := q422
  have sf423 := C422.safe Vb.lt (hsf tb List.mem_cons_self)
  show Go p e below _ (T422.setTop (mkF m 9 #[.val (.ref x), .val (.int pp), .val (.int qq), .val (.int oo), .val (.ref a1), .val (.ref a2), .unset] [(.ref sb)]))
  refine s_pop S422 (hb hby dAX2_9) rfl (pc' := 10) rfl ?_
  refine s_aloadN S422 (hb hby dAX2_10) rfl rfl (pc' := 11) rfl ?_
  have F424 := Ft.keep K1 (ninS nXS (ninS nXB nin0))
  refine g_getF S422 (w29 hw) Via.refl F424 (hb hby dAX2_11) ?_
  intro T425 ST425
  show Go p e below _ (T425.setTop (mkF m 14 #[.val (.ref x), .val (.int pp), .val (.int qq), .val (.int oo), .val (.ref a1), .val (.ref a2), .unset] [(.ref sb)]))
  show Go p e below _ (T425.setTop (mkF m 14 #[.val (.ref x), .val (.int pp), .val (.int qq), .val (.int oo), .val (.ref a1), .val (.ref a2), .unset] [(.ref sb)]))
  refine g_virtual ST425 (rmSL X ST425.old E1_ Fa1 Fb1 Fc1) (fun _ q => nomatch q) (w122 hw) (w123 hw) (w125 hw) (w124 hw) (w11 hw) (w126 hw) (by decide) (fun _ h => notFace_of_selects h) (hb hby dAX2_14) (by rw [hml]; rfl) sb E1_ [] (lenOf pd1 rfl) rfl rfl (Nat.le_of_ble_eq_true rfl) (Nat.le_of_ble_eq_true rfl) (Nat.le_of_ble_eq_true rfl) (Nat.le_of_ble_eq_true rfl) ?_
  intro v426 T426 V426 h426 S426 C426 q426
  obtain ⟨rfl, rfl⟩ := q426
  have sf427 := C426.safe (Nat.lt_of_lt_of_le Vb.lt (Nat.le_trans (Nat.le_refl _) K1.1)) sf423
  show Go p e below _ (T426.setTop (mkF m 17 #[.val (.ref x), .val (.int pp), .val (.int qq), .val (.int oo), .val (.ref a1), .val (.ref a2), .unset] [(.int sc1)]))
  refine s_istore S426 (hb hby dAX2_17) (L' := #[.val (.ref x), .val (.int pp), .val (.int qq), .val (.int oo), .val (.ref a1), .val (.ref a2), .val (.int sc1)]) rfl (pc' := 19) rfl ?_
  refine s_aloadN S426 (hb hby dAX2_19) rfl rfl (pc' := 20) rfl ?_
  refine g_getF S426 (w29 hw) Via.refl F424 (hb hby dAX2_20) ?_
  intro T428 ST428
  show Go p e below _ (T428.setTop (mkF m 23 #[.val (.ref x), .val (.int pp), .val (.int qq), .val (.int oo), .val (.ref a1), .val (.ref a2), .val (.int sc1)] [(.ref sb)]))
  refine s_aload ST428 (hb hby dAX2_23) rfl rfl (pc' := 25) rfl ?_
  have F429 := F2.1.keep K1
  have F430 := F2.2.1.keep K1 (ninS nAS (ninS nAB nin0))
  have F431 := F2.2.2.1.keep K1 (ninS nAS (ninS nAB nin0))
  have F432 := F2.2.2.2.keep K1 (ninS (Ne.symm nRS) (ninS ne2 nin0))
  show Go p e below _ (T428.setTop (mkF m 25 #[.val (.ref x), .val (.int pp), .val (.int qq), .val (.int oo), .val (.ref a1), .val (.ref a2), .val (.int sc1)] [(.ref a2), (.ref sb)]))
  refine g_virtual ST428 (rmSS X ns nb ST428.old E1_ Fa1 Fb1 Fc1 ⟨F429, F430, F431, F432⟩ V1 (by omega) h2 (by omega) lb1) (sf1 V1.lt sf427) (w75 hw) (w76 hw) (w78 hw) (w77 hw) (w11 hw) (w79 hw) (by decide) (fun _ h => notFace_of_selects h) (hb hby dAX2_25) (by rw [hml]; rfl) sb E1_ [(.ref a2)] (lenOf pd10 rfl) rfl rfl (Nat.le_of_ble_eq_true rfl) (Nat.le_of_ble_eq_true rfl) (Nat.le_of_ble_eq_true rfl) (Nat.le_of_ble_eq_true rfl) ?_
  intro v433 T433 V433 h433 S433 C433 q433
  obtain ⟨rfl, sc2, bs2, K2, E2_, Fa2, Fb2, Fc2, V2, lb2, ls2⟩ := q433
  have sf434 := C433.safe (Nat.lt_of_lt_of_le Vb.lt (Nat.le_trans (Nat.le_refl _) K1.1)) sf427
  show Go p e below _ (T433.setTop (mkF m 28 #[.val (.ref x), .val (.int pp), .val (.int qq), .val (.int oo), .val (.ref a1), .val (.ref a2), .val (.int sc1)] [(.ref sb)]))
  refine s_pop S433 (hb hby dAX2_28) rfl (pc' := 29) rfl ?_
  refine s_aloadN S433 (hb hby dAX2_29) rfl rfl (pc' := 30) rfl ?_
  refine s_iloadN S433 (hb hby dAX2_30) rfl (pc' := 31) rfl ?_
  refine s_iloadN S433 (hb hby dAX2_31) rfl (pc' := 32) rfl ?_
  refine s_iloadN S433 (hb hby dAX2_32) rfl (pc' := 33) rfl ?_
  refine s_iload S433 (hb hby dAX2_33) rfl (pc' := 35) rfl ?_
  have F435 := Ex.keep K1
  have F436 := F435.keep K2
  have F437 := F424.keep K2 (ninS nXS (ninS nXB nin0))
  have F438 := Fb.keep K1 (ninS nXS (ninS nXB nin0))
  have F439 := F438.keep K2 (ninS nXS (ninS nXB nin0))
  have F440 := Fn.keep K1 (ninS nXS (ninS nXB nin0))
  have F441 := F440.keep K2 (ninS nXS (ninS nXB nin0))
  have F442 := Vt.keep K1 (ninS (Ne.symm nST) (ninS nTB nin0))
  have F443 := F442.keep K2 (ninS (Ne.symm nST) (ninS nTB nin0))
  show Go p e below _ (T433.setTop (mkF m 35 #[.val (.ref x), .val (.int pp), .val (.int qq), .val (.int oo), .val (.ref a1), .val (.ref a2), .val (.int sc1)] [(.int sc1), (.int oo), (.int qq), (.int pp), (.ref x)]))
  refine g_private S433 (rmAD2 X pp qq oo sc1 S433.old ⟨F436, F437, F439, F441, F443, ⟨E2_, Fa2, Fb2, Fc2, V2⟩, nx, ns, nb, nt⟩) (fun _ q => nomatch q) (w131 hw) (ni_inst (w1 hw)) (w133 hw) (w132 hw) (w2 hw) (w134 hw) (by decide) (hb hby dAX2_35) (by rw [hml]; rfl) x F436 [(.int pp), (.int qq), (.int oo), (.int sc1)] (lenOf pd11 rfl) rfl rfl (Nat.le_of_ble_eq_true rfl) (Nat.le_of_ble_eq_true rfl) (Nat.le_of_ble_eq_true rfl) (Nat.le_of_ble_eq_true rfl) ?_
  intro v444 T444 V444 h444 S444 C444 q444
  obtain ⟨rfl, K9, A9⟩ := q444
  have sf445 := C444.safe (Nat.lt_of_lt_of_le Vb.lt (Nat.le_trans (Nat.le_trans (Nat.le_refl _) K1.1) K2.1)) sf434
  show Go p e below _ (T444.setTop (mkF m 38 #[.val (.ref x), .val (.int pp), .val (.int qq), .val (.int oo), .val (.ref a1), .val (.ref a2), .val (.int sc1)] []))
  exact g_ret S444 (hb hby dAX2_38) hret ⟨rfl, t, kt, sc1, sc2, sc2, bs2, A9, by omega, by omega, lb2⟩
theorem dCB_0 : decode jdk_65_method_121_code 0 = .ok (.iload_n 1, 1) := by decide +kernel
theorem dCB_1 : decode jdk_65_method_121_code 1 = .ok (.aload_n 0, 1) := by decide +kernel
theorem dCB_2 : decode jdk_65_method_121_code 2 = .ok (.arraylength, 1) := by decide +kernel
theorem dCB_3 : decode jdk_65_method_121_code 3 = .ok (.if_icmp .ne 11, 3) := by decide +kernel
theorem dCB_14 : decode jdk_65_method_121_code 14 = .ok (.iload_n 1, 1) := by decide +kernel
theorem dCB_15 : decode jdk_65_method_121_code 15 = .ok (.newarray .byte, 2) := by decide +kernel
theorem dCB_17 : decode jdk_65_method_121_code 17 = .ok (.astore_n 2, 1) := by decide +kernel
theorem dCB_18 : decode jdk_65_method_121_code 18 = .ok (.aload_n 0, 1) := by decide +kernel
theorem dCB_19 : decode jdk_65_method_121_code 19 = .ok (.iconst 0, 1) := by decide +kernel
theorem dCB_20 : decode jdk_65_method_121_code 20 = .ok (.aload_n 2, 1) := by decide +kernel
theorem dCB_21 : decode jdk_65_method_121_code 21 = .ok (.iconst 0, 1) := by decide +kernel
theorem dCB_22 : decode jdk_65_method_121_code 22 = .ok (.aload_n 0, 1) := by decide +kernel
theorem dCB_23 : decode jdk_65_method_121_code 23 = .ok (.arraylength, 1) := by decide +kernel
theorem dCB_24 : decode jdk_65_method_121_code 24 = .ok (.iload_n 1, 1) := by decide +kernel
theorem dCB_25 : decode jdk_65_method_121_code 25 = .ok (.invokestatic 304, 3) := by decide +kernel
theorem dCB_28 : decode jdk_65_method_121_code 28 = .ok (.invokestatic 150, 3) := by decide +kernel
theorem dCB_31 : decode jdk_65_method_121_code 31 = .ok (.aload_n 2, 1) := by decide +kernel
theorem dCB_32 : decode jdk_65_method_121_code 32 = .ok (.areturn, 1) := by decide +kernel
set_option maxRecDepth 65536 in
set_option maxHeartbeats 40000000 in
theorem rmCB {l : Launch} {Z : State} {a0 : Array Value} {n0 : Nat} (X : Ctx Z a0) {tb : Addr} {kb : ClassId} {sc : Int32} {bs : List Value} {dv : Value} {h : Heap} (hO : Old Z n0 h) (Vb : Arv Z h tb kb .byte (16 : Int32) bs dv) (h0 : 0 ≤ sc.toInt) (h1 : sc.toInt < 16) :
    Ctr l Z EL1 n0 (⟨"java/util/Arrays", "copyOf", "([BI)[B"⟩ : MethodName) jdk_65_method_121_code 3 (some (.array .byte)) ({ frames := 1, cells := 1, slots := 16, locals := 18 } : Room) #[(.ref tb), (.int sc)] h [] (fun v h' => ∃ u, v = some (.ref u) ∧ Ext h h') := by
  have hw := X.hw
  obtain ⟨z1, hz1, hz2⟩ := X.2.2.1
  refine Ctr.intro (a0 := a0) (plainFor_of_name pn4) hO X.ew ?_
  intro p e s m below meth c T0 V0 S0 hby hml hret hnm hsf
  rw [ef5]
  refine s_iloadN S0 (hb hby dCB_0) rfl (pc' := 1) rfl ?_
  refine s_aloadN S0 (hb hby dCB_1) rfl rfl (pc' := 2) rfl ?_
  refine g_len S0 Vb (hb hby dCB_2) ?_
  show Go p e below _ (T0.setTop (mkF m 3 #[.val (.ref tb), .val (.int sc), .unset] [(.int (16 : Int32)), (.int sc)]))
  refine s_icmpY S0 (hb hby dCB_3) ((feq (own_ne16 h1)).2) (by decide) (pcT := 14) (by decide) ?_
  refine s_iloadN S0 (hb hby dCB_14) rfl (pc' := 15) rfl ?_
  show Go p e below _ (T0.setTop (mkF m 15 #[.val (.ref tb), .val (.int sc), .unset] [(.int sc)]))
  refine g_newarr (aty := .byte) S0 (w24 hw) (hb hby dCB_15) (own_nn h0) (cap := 16) (by have e := own_nat h0; omega) (by decide) (Nat.le_of_ble_eq_true rfl) (Nat.le_of_ble_eq_true rfl) ?_
  intro T5 h5 u ku S5 E5 fr5 lt5 na5 sf5 A5
  have V5 := A5 16
  show Go p e below _ (T5.setTop (mkF m 17 #[.val (.ref tb), .val (.int sc), .unset] [(.ref u)]))
  refine s_astoreN S5 (hb hby dCB_17) rfl (L' := #[.val (.ref tb), .val (.int sc), .val (.ref u)]) rfl (pc' := 18) rfl ?_
  refine s_aloadN S5 (hb hby dCB_18) rfl rfl (pc' := 19) rfl ?_
  refine s_iconst S5 (hb hby dCB_19) (v := (0 : Int32)) rfl (pc' := 20) rfl ?_
  refine s_aloadN S5 (hb hby dCB_20) rfl rfl (pc' := 21) rfl ?_
  refine s_iconst S5 (hb hby dCB_21) (v := (0 : Int32)) rfl (pc' := 22) rfl ?_
  refine s_aloadN S5 (hb hby dCB_22) rfl rfl (pc' := 23) rfl ?_
  have Vb446 := Vb.ext E5
  refine g_len S5 Vb446 (hb hby dCB_23) ?_
  show Go p e below _ (T5.setTop (mkF m 24 #[.val (.ref tb), .val (.int sc), .val (.ref u)] [(.int (16 : Int32)), (.int (0 : Int32)), (.ref u), (.int (0 : Int32)), (.ref tb)]))
  refine s_iloadN S5 (hb hby dCB_24) rfl (pc' := 25) rfl ?_
  show Go p e below _ (T5.setTop (mkF m 25 #[.val (.ref tb), .val (.int sc), .val (.ref u)] [(.int sc), (.int (16 : Int32)), (.int (0 : Int32)), (.ref u), (.int (0 : Int32)), (.ref tb)]))
  refine g_static S5 (rmMN X (z := sc) (by rw [if_pos (own_lt16 h1)]) S5.old) (fun _ q => nomatch q) (w145 hw) (w146 hw) (w139 hw) (w147 hw) (by decide) (hb hby dCB_25) (by rw [hml]; rfl) [(.int (16 : Int32)), (.int sc)] (lenOf pd3 rfl) rfl rfl (Nat.le_of_ble_eq_true rfl) (Nat.le_of_ble_eq_true rfl) (Nat.le_of_ble_eq_true rfl) (Nat.le_of_ble_eq_true rfl) ?_
  intro v447 T447 V447 h447 S447 C447 q447
  obtain ⟨rfl, rfl⟩ := q447
  have sf448 := C447.safe lt5 sf5
  show Go p e below _ (T447.setTop (mkF m 28 #[.val (.ref tb), .val (.int sc), .val (.ref u)] [(.int sc), (.int (0 : Int32)), (.ref u), (.int (0 : Int32)), (.ref tb)]))
  show Go p e below _ (T447.setTop (mkF m 28 #[.val (.ref tb), .val (.int sc), .val (.ref u)] [(.int sc), (.int (0 : Int32)), (.ref u), (.int (0 : Int32)), (.ref tb)]))
  refine g_copy S447 (w148 hw) (w121 hw) (w119 hw) (w120 hw) Vb446 V5 rfl (by decide) (by decide) (own_nn h0) (by have e := own_nat h0; show 0 + _ ≤ 16; omega) (by show 0 + _ ≤ _; omega) rfl (by have e := own_nat h0; rw [List.length_replicate]; show 0 + _ ≤ _; omega) na5 sf448 (hb hby dCB_28) (by rw [hml]; rfl) (Nat.le_of_ble_eq_true rfl) (by decide) ?_
  intro T9 h9 S9 K9 V9 sg9
  show Go p e below _ (T9.setTop (mkF m 31 #[.val (.ref tb), .val (.int sc), .val (.ref u)] []))
  refine s_aloadN S9 (hb hby dCB_31) rfl rfl (pc' := 32) rfl ?_
  show Go p e below _ (T9.setTop (mkF m 32 #[.val (.ref tb), .val (.int sc), .val (.ref u)] [(.ref u)]))
  have X449 : Ext h h9 := ext_keep1 E5 K9 fr5
  exact g_aret S9 (hb hby dCB_32) hret rfl rfl rfl ⟨u, rfl, X449⟩
theorem dTR_0 : decode jdk_68_method_12_code 0 = .ok (.aload_n 0, 1) := by decide +kernel
theorem dTR_1 : decode jdk_68_method_12_code 1 = .ok (.getfield 79, 3) := by decide +kernel
theorem dTR_4 : decode jdk_68_method_12_code 4 = .ok (.aload_n 0, 1) := by decide +kernel
theorem dTR_5 : decode jdk_68_method_12_code 5 = .ok (.getfield 22, 3) := by decide +kernel
theorem dTR_8 : decode jdk_68_method_12_code 8 = .ok (.ishl, 1) := by decide +kernel
theorem dTR_9 : decode jdk_68_method_12_code 9 = .ok (.istore_n 1, 1) := by decide +kernel
theorem dTR_10 : decode jdk_68_method_12_code 10 = .ok (.iload_n 1, 1) := by decide +kernel
theorem dTR_11 : decode jdk_68_method_12_code 11 = .ok (.aload_n 0, 1) := by decide +kernel
theorem dTR_12 : decode jdk_68_method_12_code 12 = .ok (.getfield 15, 3) := by decide +kernel
theorem dTR_15 : decode jdk_68_method_12_code 15 = .ok (.arraylength, 1) := by decide +kernel
theorem dTR_16 : decode jdk_68_method_12_code 16 = .ok (.if_icmp .ge 15, 3) := by decide +kernel
theorem dTR_19 : decode jdk_68_method_12_code 19 = .ok (.aload_n 0, 1) := by decide +kernel
theorem dTR_20 : decode jdk_68_method_12_code 20 = .ok (.aload_n 0, 1) := by decide +kernel
theorem dTR_21 : decode jdk_68_method_12_code 21 = .ok (.getfield 15, 3) := by decide +kernel
theorem dTR_24 : decode jdk_68_method_12_code 24 = .ok (.iload_n 1, 1) := by decide +kernel
theorem dTR_25 : decode jdk_68_method_12_code 25 = .ok (.invokestatic 108, 3) := by decide +kernel
theorem dTR_28 : decode jdk_68_method_12_code 28 = .ok (.putfield 15, 3) := by decide +kernel
theorem dTR_31 : decode jdk_68_method_12_code 31 = .ok (.return_, 1) := by decide +kernel
set_option maxRecDepth 65536 in
set_option maxHeartbeats 40000000 in
theorem rmTR {l : Launch} {Z : State} {a0 : Array Value} {n0 : Nat} (X : Ctx Z a0) {x tb : Addr} {kb : ClassId} {sc : Int32} {bs : List Value} (na : n0 ≤ x) {h : Heap} (hO : Old Z n0 h) (Ex : Exa Z h x "java/lang/StringBuilder") (Fv : Fld Z h x "java/lang/AbstractStringBuilder" "value" "[B" (.ref tb)) (Fk : Fld Z h x "java/lang/AbstractStringBuilder" "coder" "B" (.int (0 : Int32))) (Fs : Fld Z h x "java/lang/AbstractStringBuilder" "count" "I" (.int sc)) (Vb : Arv Z h tb kb .byte (16 : Int32) bs (.int (0 : Int32))) (h0 : 0 ≤ sc.toInt) (h1 : sc.toInt < 16) :
    Ctr l Z EL1 n0 (⟨"java/lang/AbstractStringBuilder", "trimToSize", "()V"⟩ : MethodName) jdk_68_method_12_code 2 none ({ frames := 2, cells := 1, slots := 16, locals := 33 } : Room) #[(.ref x)] h [] (fun v h' => v = none ∧ Keep h h' [x]) := by
  have hw := X.hw
  obtain ⟨z1, hz1, hz2⟩ := X.2.2.1
  refine Ctr.intro (a0 := a0) (plainFor_of_name pn0) hO X.ew ?_
  intro p e s m below meth c T0 V0 S0 hby hml hret hnm hsf
  rw [ef12]
  refine s_aloadN S0 (hb hby dTR_0) rfl rfl (pc' := 1) rfl ?_
  refine g_getF S0 (w95 hw) Via.refl Fs (hb hby dTR_1) ?_
  intro T450 ST450
  show Go p e below _ (T450.setTop (mkF m 4 #[.val (.ref x), .unset] [(.int sc)]))
  refine s_aloadN ST450 (hb hby dTR_4) rfl rfl (pc' := 5) rfl ?_
  refine g_getF ST450 (w27 hw) Via.refl Fk (hb hby dTR_5) ?_
  intro T451 ST451
  show Go p e below _ (T451.setTop (mkF m 8 #[.val (.ref x), .unset] [(.int (0 : Int32)), (.int sc)]))
  refine s_ishl ST451 (hb hby dTR_8) (z := sc) (own_shl0 sc) (pc' := 9) rfl ?_
  refine s_istoreN ST451 (hb hby dTR_9) (L' := #[.val (.ref x), .val (.int sc)]) rfl (pc' := 10) rfl ?_
  refine s_iloadN ST451 (hb hby dTR_10) rfl (pc' := 11) rfl ?_
  refine s_aloadN ST451 (hb hby dTR_11) rfl rfl (pc' := 12) rfl ?_
  refine g_getF ST451 (w25 hw) Via.refl Fv (hb hby dTR_12) ?_
  intro T452 ST452
  show Go p e below _ (T452.setTop (mkF m 15 #[.val (.ref x), .val (.int sc)] [(.ref tb), (.int sc)]))
  refine g_len ST452 Vb (hb hby dTR_15) ?_
  show Go p e below _ (T452.setTop (mkF m 16 #[.val (.ref x), .val (.int sc)] [(.int (16 : Int32)), (.int sc)]))
  refine s_icmpN ST452 (hb hby dTR_16) ((tlt (own_lt16 h1)).2.1) (pc' := 19) rfl ?_
  refine s_aloadN ST452 (hb hby dTR_19) rfl rfl (pc' := 20) rfl ?_
  refine s_aloadN ST452 (hb hby dTR_20) rfl rfl (pc' := 21) rfl ?_
  refine g_getF ST452 (w25 hw) Via.refl Fv (hb hby dTR_21) ?_
  intro T453 ST453
  show Go p e below _ (T453.setTop (mkF m 24 #[.val (.ref x), .val (.int sc)] [(.ref tb), (.ref x)]))
  refine s_iloadN ST453 (hb hby dTR_24) rfl (pc' := 25) rfl ?_
  show Go p e below _ (T453.setTop (mkF m 25 #[.val (.ref x), .val (.int sc)] [(.int sc), (.ref tb), (.ref x)]))
  refine g_static ST453 (rmCB X ST453.old Vb h0 h1) (fun _ q => nomatch q) (w203 hw) (w204 hw) (w143 hw) (w205 hw) (by decide) (hb hby dTR_25) (by rw [hml]; rfl) [(.ref tb), (.int sc)] (lenOf pd12 rfl) rfl rfl (Nat.le_of_ble_eq_true rfl) (Nat.le_of_ble_eq_true rfl) (Nat.le_of_ble_eq_true rfl) (Nat.le_of_ble_eq_true rfl) ?_
  intro v454 T454 V454 h454 S454 C454 q454
  obtain ⟨u, rfl, Eu⟩ := q454
  show Go p e below _ (T454.setTop (mkF m 28 #[.val (.ref x), .val (.int sc)] [(.ref u), (.ref x)]))
  show Go p e below _ (T454.setTop (mkF m 28 #[.val (.ref x), .val (.int sc)] [(.ref u), (.ref x)]))
  have Fv456 := Fv.ext Eu
  have Ex457 := Ex.ext Eu
  have Fk458 := Fk.ext Eu
  have Fs459 := Fs.ext Eu
  refine g_putF S454 (w25 hw) Via.refl Fv456 Ex457 (Or.inl (w26 hw)) (w10 hw) (ty := (.array .byte)) (v' := (.ref u)) (by decide) rfl rfl na (Safe.exa S454.warm.alike Ex457 (by decide) (by decide)) (hb hby dTR_28) ?_
  intro T455 h455 S455 K455 W455 A455 F455 sg455
  have F460 := Fk458.other W455 (Or.inr (slot_ne (Or.inl (w28 hw)) (Or.inl (w26 hw)) (by decide) (t := .byte) (t' := (.array .byte)) (by decide) (by decide)))
  have F461 := Fs459.other W455 (Or.inr (slot_ne (Or.inl (w96 hw)) (Or.inl (w26 hw)) (by decide) (t := .int) (t' := (.array .byte)) (by decide) (by decide)))
  show Go p e below _ (T455.setTop (mkF m 31 #[.val (.ref x), .val (.int sc)] []))
  show Go p e below _ (T455.setTop (mkF m 31 #[.val (.ref x), .val (.int sc)] []))
  have KA462 : Keep h h455 [x] := (((Keep.refl h [x]).ext Eu).trans K455 (fun y hy => Or.inl hy))
  exact g_ret S455 (hb hby dTR_31) hret ⟨rfl, KA462⟩
theorem dTS_0 : decode jdk_67_method_90_code 0 = .ok (.aload_n 0, 1) := by decide +kernel
theorem dTS_1 : decode jdk_67_method_90_code 1 = .ok (.invokespecial 336, 3) := by decide +kernel
theorem dTS_4 : decode jdk_67_method_90_code 4 = .ok (.return_, 1) := by decide +kernel
set_option maxRecDepth 65536 in
set_option maxHeartbeats 40000000 in
theorem rmTS {l : Launch} {Z : State} {a0 : Array Value} {n0 : Nat} (X : Ctx Z a0) {x tb : Addr} {kb : ClassId} {sc : Int32} {bs : List Value} (na : n0 ≤ x) {h : Heap} (hO : Old Z n0 h) (Ex : Exa Z h x "java/lang/StringBuilder") (Fv : Fld Z h x "java/lang/AbstractStringBuilder" "value" "[B" (.ref tb)) (Fk : Fld Z h x "java/lang/AbstractStringBuilder" "coder" "B" (.int (0 : Int32))) (Fs : Fld Z h x "java/lang/AbstractStringBuilder" "count" "I" (.int sc)) (Vb : Arv Z h tb kb .byte (16 : Int32) bs (.int (0 : Int32))) (h0 : 0 ≤ sc.toInt) (h1 : sc.toInt < 16) :
    Ctr l Z EL1 n0 (⟨"java/lang/StringBuilder", "trimToSize", "()V"⟩ : MethodName) jdk_67_method_90_code 1 none ({ frames := 3, cells := 1, slots := 16, locals := 46 } : Room) #[(.ref x)] h [] (fun v h' => v = none ∧ Keep h h' [x]) := by
  have hw := X.hw
  obtain ⟨z1, hz1, hz2⟩ := X.2.2.1
  refine Ctr.intro (a0 := a0) (plainFor_of_name pn1) hO X.ew ?_
  intro p e s m below meth c T0 V0 S0 hby hml hret hnm hsf
  rw [ef2]
  refine s_aloadN S0 (hb hby dTS_0) rfl rfl (pc' := 1) rfl ?_
  show Go p e below _ (T0.setTop (mkF m 1 #[.val (.ref x)] [(.ref x)]))
  refine g_super S0 (rmTR X na S0.old Ex Fv Fk Fs Vb h0 h1) (fun _ q => nomatch q) (by decide) (w199 hw) (ni_sel (w100 hw) rfl) (w200 hw) (w82 hw) (w19 hw) (w202 hw) (by decide) (hb hby dTS_1) (by rw [hml]; rfl) x Ex [] (lenOf pd2 rfl) rfl rfl (Nat.le_of_ble_eq_true rfl) (Nat.le_of_ble_eq_true rfl) (Nat.le_of_ble_eq_true rfl) (Nat.le_of_ble_eq_true rfl) ?_
  intro v463 T463 V463 h463 S463 C463 q463
  obtain ⟨rfl, K1⟩ := q463
  show Go p e below _ (T463.setTop (mkF m 4 #[.val (.ref x)] []))
  exact g_ret S463 (hb hby dTS_4) hret ⟨rfl, K1⟩
theorem dCJ3_0 : decode jdk_65_method_123_code 0 = .ok (.iload_n 1, 1) := by decide +kernel
theorem dCJ3_1 : decode jdk_65_method_123_code 1 = .ok (.aload_n 0, 1) := by decide +kernel
theorem dCJ3_2 : decode jdk_65_method_123_code 2 = .ok (.arraylength, 1) := by decide +kernel
theorem dCJ3_3 : decode jdk_65_method_123_code 3 = .ok (.if_icmp .ne 11, 3) := by decide +kernel
theorem dCJ3_14 : decode jdk_65_method_123_code 14 = .ok (.iload_n 1, 1) := by decide +kernel
theorem dCJ3_15 : decode jdk_65_method_123_code 15 = .ok (.newarray .int, 2) := by decide +kernel
theorem dCJ3_17 : decode jdk_65_method_123_code 17 = .ok (.astore_n 2, 1) := by decide +kernel
theorem dCJ3_18 : decode jdk_65_method_123_code 18 = .ok (.aload_n 0, 1) := by decide +kernel
theorem dCJ3_19 : decode jdk_65_method_123_code 19 = .ok (.iconst 0, 1) := by decide +kernel
theorem dCJ3_20 : decode jdk_65_method_123_code 20 = .ok (.aload_n 2, 1) := by decide +kernel
theorem dCJ3_21 : decode jdk_65_method_123_code 21 = .ok (.iconst 0, 1) := by decide +kernel
theorem dCJ3_22 : decode jdk_65_method_123_code 22 = .ok (.aload_n 0, 1) := by decide +kernel
theorem dCJ3_23 : decode jdk_65_method_123_code 23 = .ok (.arraylength, 1) := by decide +kernel
theorem dCJ3_24 : decode jdk_65_method_123_code 24 = .ok (.iload_n 1, 1) := by decide +kernel
theorem dCJ3_25 : decode jdk_65_method_123_code 25 = .ok (.invokestatic 304, 3) := by decide +kernel
theorem dCJ3_28 : decode jdk_65_method_123_code 28 = .ok (.invokestatic 150, 3) := by decide +kernel
theorem dCJ3_31 : decode jdk_65_method_123_code 31 = .ok (.aload_n 2, 1) := by decide +kernel
theorem dCJ3_32 : decode jdk_65_method_123_code 32 = .ok (.areturn, 1) := by decide +kernel
set_option maxRecDepth 65536 in
set_option maxHeartbeats 40000000 in
theorem rmCJ3 {l : Launch} {Z : State} {a0 : Array Value} {n0 : Nat} (X : Ctx Z a0) {t : Addr} {kt : ClassId} {r0 r1 r2 r3 r4 r5 r6 r7 r8 r9 r10 r11 r12 r13 r14 : Int32} {h : Heap} (hO : Old Z n0 h) (Vt : Arv Z h t kt .int (80 : Int32) [(.int r0), (.int r1), (.int r2), (.int r3), (.int r4), (.int r5), (.int r6), (.int r7), (.int r8), (.int r9), (.int r10), (.int r11), (.int r12), (.int r13), (.int r14)] (.int (0 : Int32))) :
    Ctr l Z EL1 n0 (⟨"java/util/Arrays", "copyOf", "([II)[I"⟩ : MethodName) jdk_65_method_123_code 3 (some (.array .int)) ({ frames := 1, cells := 1, slots := 15, locals := 18 } : Room) #[(.ref t), (.int (15 : Int32))] h [] (fun v h' => ∃ u ku, v = some (.ref u) ∧ Ext h h' ∧ Arv Z h' u ku .int (15 : Int32) [(.int r0), (.int r1), (.int r2), (.int r3), (.int r4), (.int r5), (.int r6), (.int r7), (.int r8), (.int r9), (.int r10), (.int r11), (.int r12), (.int r13), (.int r14)] (.int (0 : Int32))) := by
  have hw := X.hw
  obtain ⟨z1, hz1, hz2⟩ := X.2.2.1
  refine Ctr.intro (a0 := a0) (plainFor_of_name pn4) hO X.ew ?_
  intro p e s m below meth c T0 V0 S0 hby hml hret hnm hsf
  rw [ef5]
  refine s_iloadN S0 (hb hby dCJ3_0) rfl (pc' := 1) rfl ?_
  refine s_aloadN S0 (hb hby dCJ3_1) rfl rfl (pc' := 2) rfl ?_
  refine g_len S0 Vt (hb hby dCJ3_2) ?_
  show Go p e below _ (T0.setTop (mkF m 3 #[.val (.ref t), .val (.int (15 : Int32)), .unset] [(.int (80 : Int32)), (.int (15 : Int32))]))
  refine s_icmpY S0 (hb hby dCJ3_3) (by decide) (by decide) (pcT := 14) (by decide) ?_
  refine s_iloadN S0 (hb hby dCJ3_14) rfl (pc' := 15) rfl ?_
  refine g_newarr (aty := .int) S0 (w31 hw) (hb hby dCJ3_15) (by decide) (cap := 15) (by decide) (by decide) (Nat.le_of_ble_eq_true rfl) (Nat.le_of_ble_eq_true rfl) ?_
  intro T464 h464 b464 kc464 S464 E464 fr464 lt464 na464 sf464 A464
  have V464 : Arv Z h464 b464 kc464 .int (15 : Int32) [(.int (0 : Int32)), (.int (0 : Int32)), (.int (0 : Int32)), (.int (0 : Int32)), (.int (0 : Int32)), (.int (0 : Int32)), (.int (0 : Int32)), (.int (0 : Int32)), (.int (0 : Int32)), (.int (0 : Int32)), (.int (0 : Int32)), (.int (0 : Int32)), (.int (0 : Int32)), (.int (0 : Int32)), (.int (0 : Int32))] (.int (0 : Int32)) := A464 15
  show Go p e below _ (T464.setTop (mkF m 17 #[.val (.ref t), .val (.int (15 : Int32)), .unset] [(.ref b464)]))
  refine s_astoreN S464 (hb hby dCJ3_17) rfl (L' := #[.val (.ref t), .val (.int (15 : Int32)), .val (.ref b464)]) rfl (pc' := 18) rfl ?_
  refine s_aloadN S464 (hb hby dCJ3_18) rfl rfl (pc' := 19) rfl ?_
  refine s_iconst S464 (hb hby dCJ3_19) (v := (0 : Int32)) rfl (pc' := 20) rfl ?_
  refine s_aloadN S464 (hb hby dCJ3_20) rfl rfl (pc' := 21) rfl ?_
  refine s_iconst S464 (hb hby dCJ3_21) (v := (0 : Int32)) rfl (pc' := 22) rfl ?_
  refine s_aloadN S464 (hb hby dCJ3_22) rfl rfl (pc' := 23) rfl ?_
  have Vt465 := Vt.ext E464
  refine g_len S464 Vt465 (hb hby dCJ3_23) ?_
  show Go p e below _ (T464.setTop (mkF m 24 #[.val (.ref t), .val (.int (15 : Int32)), .val (.ref b464)] [(.int (80 : Int32)), (.int (0 : Int32)), (.ref b464), (.int (0 : Int32)), (.ref t)]))
  refine s_iloadN S464 (hb hby dCJ3_24) rfl (pc' := 25) rfl ?_
  show Go p e below _ (T464.setTop (mkF m 25 #[.val (.ref t), .val (.int (15 : Int32)), .val (.ref b464)] [(.int (15 : Int32)), (.int (80 : Int32)), (.int (0 : Int32)), (.ref b464), (.int (0 : Int32)), (.ref t)]))
  refine g_static S464 (rmMN X (z := (15 : Int32)) (by decide) S464.old) (fun _ q => nomatch q) (w145 hw) (w146 hw) (w139 hw) (w147 hw) (by decide) (hb hby dCJ3_25) (by rw [hml]; rfl) [(.int (80 : Int32)), (.int (15 : Int32))] (lenOf pd3 rfl) rfl rfl (Nat.le_of_ble_eq_true rfl) (Nat.le_of_ble_eq_true rfl) (Nat.le_of_ble_eq_true rfl) (Nat.le_of_ble_eq_true rfl) ?_
  intro v466 T466 V466 h466 S466 C466 q466
  obtain ⟨rfl, rfl⟩ := q466
  show Go p e below _ (T466.setTop (mkF m 28 #[.val (.ref t), .val (.int (15 : Int32)), .val (.ref b464)] [(.int (15 : Int32)), (.int (0 : Int32)), (.ref b464), (.int (0 : Int32)), (.ref t)]))
  show Go p e below _ (T466.setTop (mkF m 28 #[.val (.ref t), .val (.int (15 : Int32)), .val (.ref b464)] [(.int (15 : Int32)), (.int (0 : Int32)), (.ref b464), (.int (0 : Int32)), (.ref t)]))
  refine g_copy S466 (w148 hw) (w121 hw) (w119 hw) (w120 hw) Vt465 V464 rfl (by decide) (by decide) (by decide) (by decide) (by decide) (us := [(.int r0), (.int r1), (.int r2), (.int r3), (.int r4), (.int r5), (.int r6), (.int r7), (.int r8), (.int r9), (.int r10), (.int r11), (.int r12), (.int r13), (.int r14)]) rfl (Nat.le_of_ble_eq_true rfl) na464 (Safe.arv S466.warm.alike V464 (by decide)) (hb hby dCJ3_28) (by rw [hml]; rfl) (Nat.le_of_ble_eq_true rfl) (by decide) ?_
  intro T467 h467 S467 K467 V467 sg467
  have V467 : Arv Z h467 b464 kc464 .int (15 : Int32) [(.int r0), (.int r1), (.int r2), (.int r3), (.int r4), (.int r5), (.int r6), (.int r7), (.int r8), (.int r9), (.int r10), (.int r11), (.int r12), (.int r13), (.int r14)] (.int (0 : Int32)) := V467
  show Go p e below _ (T467.setTop (mkF m 31 #[.val (.ref t), .val (.int (15 : Int32)), .val (.ref b464)] []))
  refine s_aloadN S467 (hb hby dCJ3_31) rfl rfl (pc' := 32) rfl ?_
  show Go p e below _ (T467.setTop (mkF m 32 #[.val (.ref t), .val (.int (15 : Int32)), .val (.ref b464)] [(.ref b464)]))
  have X468 : Ext h h467 := ext_keep1 E464 K467 fr464
  exact g_aret S467 (hb hby dCJ3_32) hret rfl rfl rfl ⟨b464, _, rfl, X468, V467⟩
theorem dCL3_0 : decode prog_3_method_4_code 0 = .ok (.aload_n 0, 1) := by decide +kernel
theorem dCL3_1 : decode prog_3_method_4_code 1 = .ok (.getfield 10, 3) := by decide +kernel
theorem dCL3_4 : decode prog_3_method_4_code 4 = .ok (.invokevirtual 35, 3) := by decide +kernel
theorem dCL3_7 : decode prog_3_method_4_code 7 = .ok (.aload_n 0, 1) := by decide +kernel
theorem dCL3_8 : decode prog_3_method_4_code 8 = .ok (.aload_n 0, 1) := by decide +kernel
theorem dCL3_9 : decode prog_3_method_4_code 9 = .ok (.getfield 16, 3) := by decide +kernel
theorem dCL3_12 : decode prog_3_method_4_code 12 = .ok (.aload_n 0, 1) := by decide +kernel
theorem dCL3_13 : decode prog_3_method_4_code 13 = .ok (.getfield 38, 3) := by decide +kernel
theorem dCL3_16 : decode prog_3_method_4_code 16 = .ok (.iconst 5, 1) := by decide +kernel
theorem dCL3_17 : decode prog_3_method_4_code 17 = .ok (.imul, 1) := by decide +kernel
theorem dCL3_18 : decode prog_3_method_4_code 18 = .ok (.invokestatic 42, 3) := by decide +kernel
theorem dCL3_21 : decode prog_3_method_4_code 21 = .ok (.putfield 16, 3) := by decide +kernel
theorem dCL3_24 : decode prog_3_method_4_code 24 = .ok (.return_, 1) := by decide +kernel
set_option maxRecDepth 65536 in
set_option maxHeartbeats 40000000 in
theorem rmCL3 {l : Launch} {Z : State} {a0 : Array Value} {n0 : Nat} (X : Ctx Z a0) {x sb tb t : Addr} {kb kt : ClassId} {sc : Int32} {bs : List Value} {r0 r1 r2 r3 r4 r5 r6 r7 r8 r9 r10 r11 r12 r13 r14 : Int32} {h : Heap} (hO : Old Z n0 h) (A : AS Z h n0 x sb tb t kb kt (3 : Int32) (80 : Int32) [(.int r0), (.int r1), (.int r2), (.int r3), (.int r4), (.int r5), (.int r6), (.int r7), (.int r8), (.int r9), (.int r10), (.int r11), (.int r12), (.int r13), (.int r14)] (16 : Int32) sc bs) (h0 : 0 ≤ sc.toInt) (h1 : sc.toInt < 16) :
    Ctr l Z EL1 n0 (⟨"com/example/nodewarden/nodewarden/core/Asides", "close", "()V"⟩ : MethodName) prog_3_method_4_code 1 none ({ frames := 4, cells := 2, slots := 31, locals := 58 } : Room) #[(.ref x)] h [] (fun v h' => v = none ∧ ∃ (u : Addr) (ku : ClassId), Exa Z h' x "com/example/nodewarden/nodewarden/core/Asides" ∧ Fld Z h' x "com/example/nodewarden/nodewarden/core/Asides" "table" "[I" (.ref u) ∧ Fld Z h' x "com/example/nodewarden/nodewarden/core/Asides" "count" "I" (.int (3 : Int32)) ∧ Arv Z h' u ku .int (15 : Int32) [(.int r0), (.int r1), (.int r2), (.int r3), (.int r4), (.int r5), (.int r6), (.int r7), (.int r8), (.int r9), (.int r10), (.int r11), (.int r12), (.int r13), (.int r14)] (.int (0 : Int32))) := by
  have hw := X.hw
  obtain ⟨z1, hz1, hz2⟩ := X.2.2.1
  refine Ctr.intro (a0 := a0) (plainFor_of_name pn3) hO X.ew ?_
  intro p e s m below meth c T0 V0 S0 hby hml hret hnm hsf
  rw [ef2]
  obtain ⟨Ex, Ft, Fb, Fn, Vt, ⟨Es, Fv, Fk, Fs, Vb⟩, nx, ns, nb, nt⟩ := A
  have nXS : x ≠ sb := ne_exa Ex Es (by decide)
  have nXT : x ≠ t := Exa.neArv Ex Vt (w1 hw)
  have nXB : x ≠ tb := Exa.neArv Ex Vb (w1 hw)
  have nST : sb ≠ t := Exa.neArv Es Vt (w10 hw)
  have nSB : sb ≠ tb := Exa.neArv Es Vb (w10 hw)
  have nTB : t ≠ tb := arv_kne Vt Vb (by decide)
  show Go p e below _ (T0.setTop (mkF m 0 #[.val (.ref x)] []))
  refine s_aloadN S0 (hb hby dCL3_0) rfl rfl (pc' := 1) rfl ?_
  refine g_getF S0 (w29 hw) Via.refl Ft (hb hby dCL3_1) ?_
  intro T469 ST469
  show Go p e below _ (T469.setTop (mkF m 4 #[.val (.ref x)] [(.ref sb)]))
  show Go p e below _ (T469.setTop (mkF m 4 #[.val (.ref x)] [(.ref sb)]))
  refine g_virtual ST469 (rmTS X ns ST469.old Es Fv Fk Fs Vb h0 h1) (fun _ q => nomatch q) (w194 hw) (w195 hw) (w197 hw) (w196 hw) (w11 hw) (w198 hw) (by decide) (fun _ h => notFace_of_selects h) (hb hby dCL3_4) (by rw [hml]; rfl) sb Es [] (lenOf pd2 rfl) rfl rfl (Nat.le_of_ble_eq_true rfl) (Nat.le_of_ble_eq_true rfl) (Nat.le_of_ble_eq_true rfl) (Nat.le_of_ble_eq_true rfl) ?_
  intro v470 T470 V470 h470 S470 C470 q470
  obtain ⟨rfl, K1⟩ := q470
  show Go p e below _ (T470.setTop (mkF m 7 #[.val (.ref x)] []))
  refine s_aloadN S470 (hb hby dCL3_7) rfl rfl (pc' := 8) rfl ?_
  refine s_aloadN S470 (hb hby dCL3_8) rfl rfl (pc' := 9) rfl ?_
  have F471 := Fb.keep K1 (ninS nXS nin0)
  refine g_getF S470 (w32 hw) Via.refl F471 (hb hby dCL3_9) ?_
  intro T472 ST472
  show Go p e below _ (T472.setTop (mkF m 12 #[.val (.ref x)] [(.ref t), (.ref x)]))
  refine s_aloadN ST472 (hb hby dCL3_12) rfl rfl (pc' := 13) rfl ?_
  have F473 := Fn.keep K1 (ninS nXS nin0)
  refine g_getF ST472 (w135 hw) Via.refl F473 (hb hby dCL3_13) ?_
  intro T474 ST474
  show Go p e below _ (T474.setTop (mkF m 16 #[.val (.ref x)] [(.int (3 : Int32)), (.ref t), (.ref x)]))
  refine s_iconst ST474 (hb hby dCL3_16) (v := (5 : Int32)) rfl (pc' := 17) rfl ?_
  refine s_imul ST474 (hb hby dCL3_17) (z := (15 : Int32)) rfl (pc' := 18) rfl ?_
  have F475 := Vt.keep K1 (ninS (Ne.symm nST) nin0)
  show Go p e below _ (T474.setTop (mkF m 18 #[.val (.ref x)] [(.int (15 : Int32)), (.ref t), (.ref x)]))
  refine g_static ST474 (rmCJ3 X ST474.old F475) (fun _ q => nomatch q) (w141 hw) (w142 hw) (w143 hw) (w144 hw) (by decide) (hb hby dCL3_18) (by rw [hml]; rfl) [(.ref t), (.int (15 : Int32))] (lenOf pd4 rfl) rfl rfl (Nat.le_of_ble_eq_true rfl) (Nat.le_of_ble_eq_true rfl) (Nat.le_of_ble_eq_true rfl) (Nat.le_of_ble_eq_true rfl) ?_
  intro v476 T476 V476 h476 S476 C476 q476
  obtain ⟨u, ku, rfl, Eu, Vu⟩ := q476
  have F477 := Ex.keep K1
  have F478 := F477.ext Eu
  have nXU : x ≠ u := Exa.neArv F478 Vu (w1 hw)
  show Go p e below _ (T476.setTop (mkF m 21 #[.val (.ref x)] [(.ref u), (.ref x)]))
  show Go p e below _ (T476.setTop (mkF m 21 #[.val (.ref x)] [(.ref u), (.ref x)]))
  have F480 := F471.ext Eu
  have F481 := Ft.keep K1 (ninS nXS nin0)
  have F482 := F481.ext Eu
  have F483 := F473.ext Eu
  refine g_putF S476 (w32 hw) Via.refl F480 F478 (Or.inl (w33 hw)) (w1 hw) (ty := (.array .int)) (v' := (.ref u)) (by decide) rfl rfl nx (Safe.exa S476.warm.alike F478 (by decide) (by decide)) (hb hby dCL3_21) ?_
  intro T479 h479 S479 K479 W479 A479 F479 sg479
  have F484 := F482.other W479 (Or.inr (slot_ne (Or.inr (w30 hw)) (Or.inl (w33 hw)) (by decide) (t := (.object "java/lang/StringBuilder")) (t' := (.array .int)) (by decide) (by decide)))
  have F485 := F483.other W479 (Or.inr (slot_ne (Or.inl (w136 hw)) (Or.inl (w33 hw)) (by decide) (t := .int) (t' := (.array .int)) (by decide) (by decide)))
  show Go p e below _ (T479.setTop (mkF m 24 #[.val (.ref x)] []))
  show Go p e below _ (T479.setTop (mkF m 24 #[.val (.ref x)] []))
  have F486 := Vu.keep K479 (ninS (Ne.symm nXU) nin0)
  exact g_ret S479 (hb hby dCL3_24) hret ⟨rfl, u, ku, A479, F479, F485, F486⟩
theorem dCE_0 : decode jdk_43_method_3_code 0 = .ok (.iload_n 0, 1) := by decide +kernel
theorem dCE_1 : decode jdk_43_method_3_code 1 = .ok (.sipush 255, 3) := by decide +kernel
theorem dCE_4 : decode jdk_43_method_3_code 4 = .ok (.if_icmp .gt 7, 3) := by decide +kernel
theorem dCE_7 : decode jdk_43_method_3_code 7 = .ok (.iconst 1, 1) := by decide +kernel
theorem dCE_8 : decode jdk_43_method_3_code 8 = .ok (.goto 4, 3) := by decide +kernel
theorem dCE_12 : decode jdk_43_method_3_code 12 = .ok (.ireturn, 1) := by decide +kernel
set_option maxRecDepth 65536 in
set_option maxHeartbeats 40000000 in
theorem rmCE {l : Launch} {Z : State} {a0 : Array Value} {n0 : Nat} (X : Ctx Z a0) {ch : Int32} {h : Heap} (hO : Old Z n0 h) (r : ¬ ch < 0 ∧ ¬ (255 : Int32) < ch) :
    Ctr l Z EL1 n0 (⟨"java/lang/StringLatin1", "canEncode", "(C)Z"⟩ : MethodName) jdk_43_method_3_code 1 (some .boolean) ({ frames := 0, cells := 0, slots := 0, locals := 0 } : Room) #[(.int ch)] h [] (fun v h' => v = some (.int 1) ∧ h' = h) := by
  have hw := X.hw
  obtain ⟨z1, hz1, hz2⟩ := X.2.2.1
  refine Ctr.intro (a0 := a0) (plainFor_of_name pn6) hO X.ew ?_
  intro p e s m below meth c T0 V0 S0 hby hml hret hnm hsf
  rw [ef13]
  refine s_iloadN S0 (hb hby dCE_0) rfl (pc' := 1) rfl ?_
  refine s_sipush S0 (hb hby dCE_1) (v := (255 : Int32)) rfl (pc' := 4) rfl ?_
  refine s_icmpN S0 (hb hby dCE_4) (tlt_no r.2) (pc' := 7) rfl ?_
  refine s_iconst S0 (hb hby dCE_7) (v := (1 : Int32)) rfl (pc' := 8) rfl ?_
  refine s_goto S0 (hb hby dCE_8) (by decide) (pcT := 12) (by decide) ?_
  exact g_iretN S0 (hb hby dCE_12) hret (by simp) ⟨rfl, rfl⟩
theorem dTB_0 : decode jdk_43_method_46_code 0 = .ok (.iconst 1, 1) := by decide +kernel
theorem dTB_1 : decode jdk_43_method_46_code 1 = .ok (.newarray .byte, 2) := by decide +kernel
theorem dTB_3 : decode jdk_43_method_46_code 3 = .ok (.dup, 1) := by decide +kernel
theorem dTB_4 : decode jdk_43_method_46_code 4 = .ok (.iconst 0, 1) := by decide +kernel
theorem dTB_5 : decode jdk_43_method_46_code 5 = .ok (.iload_n 0, 1) := by decide +kernel
theorem dTB_6 : decode jdk_43_method_46_code 6 = .ok (.i2b, 1) := by decide +kernel
theorem dTB_7 : decode jdk_43_method_46_code 7 = .ok (.bastore, 1) := by decide +kernel
theorem dTB_8 : decode jdk_43_method_46_code 8 = .ok (.areturn, 1) := by decide +kernel
set_option maxRecDepth 65536 in
set_option maxHeartbeats 40000000 in
theorem rmTB {l : Launch} {Z : State} {a0 : Array Value} {n0 : Nat} (X : Ctx Z a0) (ch : Int32) {h : Heap} (hO : Old Z n0 h)  :
    Ctr l Z EL1 n0 (⟨"java/lang/StringLatin1", "toBytes", "(C)[B"⟩ : MethodName) jdk_43_method_46_code 1 (some (.array .byte)) ({ frames := 0, cells := 1, slots := 1, locals := 0 } : Room) #[(.int ch)] h [] (fun v h' => ∃ t kt, v = some (.ref t) ∧ Ext h h' ∧ Arv Z h' t kt .byte (1 : Int32) [(.int (StrChars.lo8 ch))] (.int (0 : Int32))) := by
  have hw := X.hw
  obtain ⟨z1, hz1, hz2⟩ := X.2.2.1
  refine Ctr.intro (a0 := a0) (plainFor_of_name pn6) hO X.ew ?_
  intro p e s m below meth c T0 V0 S0 hby hml hret hnm hsf
  rw [ef13]
  refine s_iconst S0 (hb hby dTB_0) (v := (1 : Int32)) rfl (pc' := 1) rfl ?_
  refine g_newarr (aty := .byte) S0 (w24 hw) (hb hby dTB_1) (by decide) (cap := 1) (by decide) (by decide) (Nat.le_of_ble_eq_true rfl) (Nat.le_of_ble_eq_true rfl) ?_
  intro T487 h487 b487 kc487 S487 E487 fr487 lt487 na487 sf487 A487
  have V487 : Arv Z h487 b487 kc487 .byte (1 : Int32) [(.int (0 : Int32))] (.int (0 : Int32)) := A487 1
  show Go p e below _ (T487.setTop (mkF m 3 #[.val (.int ch)] [(.ref b487)]))
  refine s_dup S487 (hb hby dTB_3) rfl (pc' := 4) rfl ?_
  refine s_iconst S487 (hb hby dTB_4) (v := (0 : Int32)) rfl (pc' := 5) rfl ?_
  refine s_iloadN S487 (hb hby dTB_5) rfl (pc' := 6) rfl ?_
  refine s_i2b S487 (hb hby dTB_6) (z := (ch.toInt8.toInt32)) rfl (pc' := 7) rfl ?_
  show Go p e below _ (T487.setTop (mkF m 7 #[.val (.int ch)] [(.int (ch.toInt8.toInt32)), (.int (0 : Int32)), (.ref b487), (.ref b487)]))
  refine g_bastore S487 V487 ⟨by decide, by decide⟩ 0 rfl (Nat.le_of_ble_eq_true rfl) na487 sf487 (hb hby dTB_7) ?_
  intro T488 h488 S488 K488 V488 sg488
  have V488 : Arv Z h488 b487 kc487 .byte (1 : Int32) [(.int (StrChars.lo8 (StrChars.lo8 ch)))] (.int (0 : Int32)) := V488
  rw [lo8_lo8] at V488
  show Go p e below _ (T488.setTop (mkF m 8 #[.val (.int ch)] [(.ref b487)]))
  have X489 : Ext h h488 := ext_keep1 E487 K488 fr487
  show Go p e below _ (T488.setTop (mkF m 8 #[.val (.int ch)] [(.ref b487)]))
  exact g_aret S488 (hb hby dTB_8) hret rfl rfl rfl ⟨_, _, rfl, X489, V488⟩
theorem dBB_0 : decode jdk_42_method_151_code 0 = .ok (.aload_n 0, 1) := by decide +kernel
theorem dBB_1 : decode jdk_42_method_151_code 1 = .ok (.invokespecial 1, 3) := by decide +kernel
theorem dBB_4 : decode jdk_42_method_151_code 4 = .ok (.aload_n 0, 1) := by decide +kernel
theorem dBB_5 : decode jdk_42_method_151_code 5 = .ok (.aload_n 1, 1) := by decide +kernel
theorem dBB_6 : decode jdk_42_method_151_code 6 = .ok (.putfield 9, 3) := by decide +kernel
theorem dBB_9 : decode jdk_42_method_151_code 9 = .ok (.aload_n 0, 1) := by decide +kernel
theorem dBB_10 : decode jdk_42_method_151_code 10 = .ok (.iload_n 2, 1) := by decide +kernel
theorem dBB_11 : decode jdk_42_method_151_code 11 = .ok (.putfield 15, 3) := by decide +kernel
theorem dBB_14 : decode jdk_42_method_151_code 14 = .ok (.return_, 1) := by decide +kernel
set_option maxRecDepth 65536 in
set_option maxHeartbeats 40000000 in
theorem rmBB {l : Launch} {Z : State} {a0 : Array Value} {n0 : Nat} (X : Ctx Z a0) {x t : Addr} {v0 c0 : Value} (na : n0 ≤ x) {h : Heap} (hO : Old Z n0 h) (E : Exa Z h x ST) (Fv : Fld Z h x ST "value" "[B" v0) (Fc : Fld Z h x ST "coder" "B" c0) :
    Ctr l Z EL1 n0 (⟨"java/lang/String", "<init>", "([BB)V"⟩ : MethodName) jdk_42_method_151_code 3 none ({ frames := 1, cells := 0, slots := 0, locals := 13 } : Room) #[(.ref x), (.ref t), (.int (0 : Int32))] h [x] (fun v h' => v = none ∧ Keep h h' [x] ∧ Exa Z h' x ST ∧ Fld Z h' x ST "value" "[B" (.ref t) ∧ Fld Z h' x ST "coder" "B" (.int 0)) := by
  have hw := X.hw
  obtain ⟨z1, hz1, hz2⟩ := X.2.2.1
  refine Ctr.intro (a0 := a0) (plainFor_of_name pn5) hO X.ew ?_
  intro p e s m below meth c T0 V0 S0 hby hml hret hnm hsf
  rw [ef14]
  refine s_aloadN S0 (hb hby dBB_0) rfl rfl (pc' := 1) rfl ?_
  refine g_initO S0 (w51 hw) (w7 hw) (w8 hw) (by rw [hml]; rfl) (hb hby dBB_1) (Nat.le_of_ble_eq_true rfl) (Nat.le_of_ble_eq_true rfl) ?_
  intro T490 ST490
  show Go p e below _ (T490.setTop (mkF m 4 #[.val (.ref x), .val (.ref t), .val (.int (0 : Int32))] []))
  refine s_aloadN ST490 (hb hby dBB_4) rfl rfl (pc' := 5) rfl ?_
  refine s_aloadN ST490 (hb hby dBB_5) rfl rfl (pc' := 6) rfl ?_
  show Go p e below _ (T490.setTop (mkF m 6 #[.val (.ref x), .val (.ref t), .val (.int (0 : Int32))] [(.ref t), (.ref x)]))
  refine g_putF ST490 (w65 hw) Via.refl Fv E (Or.inr ⟨(w66 hw), rfl, hnm⟩) (w42 hw) (ty := .array .byte) (by decide) rfl rfl na (hsf x List.mem_cons_self) (hb hby dBB_6) ?_
  intro T92 h92 S92 K92 W92 E2 Fv2 sf92
  have Fc2 := Fc.other W92 (Or.inr (slot_ne (Or.inr (w64 hw)) (Or.inr (w66 hw)) (by decide) (t := .byte) (t' := .array .byte) (by decide) (by decide)))
  show Go p e below _ (T92.setTop (mkF m 9 #[.val (.ref x), .val (.ref t), .val (.int (0 : Int32))] []))
  refine s_aloadN S92 (hb hby dBB_9) rfl rfl (pc' := 10) rfl ?_
  refine s_iloadN S92 (hb hby dBB_10) rfl (pc' := 11) rfl ?_
  show Go p e below _ (T92.setTop (mkF m 11 #[.val (.ref x), .val (.ref t), .val (.int (0 : Int32))] [(.int (0 : Int32)), (.ref x)]))
  refine g_putF S92 (w63 hw) Via.refl Fc2 E2 (Or.inr ⟨(w64 hw), rfl, hnm⟩) (w42 hw) (ty := .byte) (v' := .int 0) (by decide) rfl rfl na sf92 (hb hby dBB_11) ?_
  intro T94 h94 S94 K94 W94 E4 Fc4 sf94
  have Fv4 := Fv2.other W94 (Or.inr (slot_ne (Or.inr (w66 hw)) (Or.inr (w64 hw)) (by decide) (t := .array .byte) (t' := .byte) (by decide) (by decide)))
  show Go p e below _ (T94.setTop (mkF m 14 #[.val (.ref x), .val (.ref t), .val (.int (0 : Int32))] []))
  exact g_ret S94 (hb hby dBB_14) hret ⟨rfl, K92.trans K94 (fun y hy => Or.inl hy), E4, Fv4, Fc4⟩
theorem dVO_0 : decode jdk_42_method_139_code 0 = .ok (.getstatic 38, 3) := by decide +kernel
theorem dVO_3 : decode jdk_42_method_139_code 3 = .ok (.ifCond .eq 23, 3) := by decide +kernel
theorem dVO_6 : decode jdk_42_method_139_code 6 = .ok (.iload_n 0, 1) := by decide +kernel
theorem dVO_7 : decode jdk_42_method_139_code 7 = .ok (.invokestatic 1015, 3) := by decide +kernel
theorem dVO_10 : decode jdk_42_method_139_code 10 = .ok (.ifCond .eq 16, 3) := by decide +kernel
theorem dVO_13 : decode jdk_42_method_139_code 13 = .ok (.new 10, 3) := by decide +kernel
theorem dVO_16 : decode jdk_42_method_139_code 16 = .ok (.dup, 1) := by decide +kernel
theorem dVO_17 : decode jdk_42_method_139_code 17 = .ok (.iload_n 0, 1) := by decide +kernel
theorem dVO_18 : decode jdk_42_method_139_code 18 = .ok (.invokestatic 1018, 3) := by decide +kernel
theorem dVO_21 : decode jdk_42_method_139_code 21 = .ok (.iconst 0, 1) := by decide +kernel
theorem dVO_22 : decode jdk_42_method_139_code 22 = .ok (.invokespecial 209, 3) := by decide +kernel
theorem dVO_25 : decode jdk_42_method_139_code 25 = .ok (.areturn, 1) := by decide +kernel
set_option maxRecDepth 65536 in
set_option maxHeartbeats 40000000 in
theorem rmVO {l : Launch} {Z : State} {a0 : Array Value} {n0 : Nat} (X : Ctx Z a0) {ch : Int32} {h : Heap} (hO : Old Z n0 h) (r : ¬ ch < 0 ∧ ¬ (255 : Int32) < ch) :
    Ctr l Z EL1 n0 (⟨"java/lang/String", "valueOf", "(C)Ljava/lang/String;"⟩ : MethodName) jdk_42_method_139_code 1 (some (.object "java/lang/String")) ({ frames := 2, cells := 2, slots := 5, locals := 30 } : Room) #[(.int ch)] h [] (fun v h' => ∃ a, v = some (.ref a) ∧ StrF Z h' a [ch] ∧ Ext h h') := by
  have hw := X.hw
  obtain ⟨z1, hz1, hz2⟩ := X.2.2.1
  refine Ctr.intro (a0 := a0) (plainFor_of_name pn5) hO X.ew ?_
  intro p e s m below meth c T0 V0 S0 hby hml hret hnm hsf
  rw [ef13]
  refine g_getS S0 (w52 hw) Via.refl (hz1.ext S0.old.2) (hb hby dVO_0) ?_
  intro T491 ST491
  show Go p e below _ (T491.setTop (mkF m 3 #[.val (.int ch)] [(.int z1)]))
  show Go p e below _ (T491.setTop (mkF m 3 #[.val (.int ch)] [(.int z1)]))
  refine s_ifN ST491 (hb hby dVO_3) ((if0 _ _).trans (feq hz2).1) (pc' := 6) rfl ?_
  refine s_iloadN ST491 (hb hby dVO_6) rfl (pc' := 7) rfl ?_
  show Go p e below _ (T491.setTop (mkF m 7 #[.val (.int ch)] [(.int ch)]))
  refine g_static ST491 (rmCE X ST491.old r) (fun _ q => nomatch q) (w209 hw) (w186 hw) (w187 hw) (w188 hw) (by decide) (hb hby dVO_7) (by rw [hml]; rfl) [(.int ch)] (lenOf pd13 rfl) rfl rfl (Nat.le_of_ble_eq_true rfl) (Nat.le_of_ble_eq_true rfl) (Nat.le_of_ble_eq_true rfl) (Nat.le_of_ble_eq_true rfl) ?_
  intro v492 T492 V492 h492 S492 C492 q492
  obtain ⟨rfl, rfl⟩ := q492
  show Go p e below _ (T492.setTop (mkF m 10 #[.val (.int ch)] [(.int (1 : Int32))]))
  refine s_ifN S492 (hb hby dVO_10) (by decide) (pc' := 13) rfl ?_
  refine g_new S492 (w210 hw) (w42 hw) (w23 hw) (hb hby dVO_13) (Nat.le_of_ble_eq_true rfl) (Nat.le_of_ble_eq_true rfl) ?_
  intro T493 h493 b493 S493 E493 fr493 lt493 na493 sf493 A493 D493
  have F494 : Fld Z h493 b493 "java/lang/String" "coder" "B" (.int (0 : Int32)) := D493 (Or.inr (w64 hw)) (ty := .byte) (by decide)
  have F495 : Fld Z h493 b493 "java/lang/String" "value" "[B" .null := D493 (Or.inr (w66 hw)) (ty := (.array .byte)) (by decide)
  show Go p e below _ (T493.setTop (mkF m 16 #[.val (.int ch)] [(.ref b493)]))
  refine s_dup S493 (hb hby dVO_16) rfl (pc' := 17) rfl ?_
  refine s_iloadN S493 (hb hby dVO_17) rfl (pc' := 18) rfl ?_
  show Go p e below _ (T493.setTop (mkF m 18 #[.val (.int ch)] [(.int ch), (.ref b493), (.ref b493)]))
  refine g_static S493 (rmTB X ch S493.old) (fun _ q => nomatch q) (w211 hw) (w212 hw) (w187 hw) (w213 hw) (by decide) (hb hby dVO_18) (by rw [hml]; rfl) [(.int ch)] (lenOf pd14 rfl) rfl rfl (Nat.le_of_ble_eq_true rfl) (Nat.le_of_ble_eq_true rfl) (Nat.le_of_ble_eq_true rfl) (Nat.le_of_ble_eq_true rfl) ?_
  intro v496 T496 V496 h496 S496 C496 q496
  obtain ⟨t1, kt1, rfl, Et1, Vt1⟩ := q496
  have sf497 := C496.safe lt493 sf493
  show Go p e below _ (T496.setTop (mkF m 21 #[.val (.int ch)] [(.ref t1), (.ref b493), (.ref b493)]))
  refine s_iconst S496 (hb hby dVO_21) (v := (0 : Int32)) rfl (pc' := 22) rfl ?_
  have A498 := A493.ext Et1
  have F499 := F495.ext Et1
  have F500 := F494.ext Et1
  have ne1 : t1 ≠ b493 := fun q => by obtain ⟨c1, A1, -⟩ := Vt1; exact ne_arr A498 (w42 hw) A1 q.symm
  show Go p e below _ (T496.setTop (mkF m 22 #[.val (.int ch)] [(.int (0 : Int32)), (.ref t1), (.ref b493), (.ref b493)]))
  refine g_special S496 (rmBB X na493 S496.old A498 F499 F500) (sf1 A498.lt sf497) rfl (w214 hw) (w215 hw) (w23 hw) (w216 hw) (by decide) (hb hby dVO_22) (by rw [hml]; rfl) b493 [(.ref t1), (.int (0 : Int32))] (lenOf pd15 rfl) rfl rfl (Nat.le_of_ble_eq_true rfl) (Nat.le_of_ble_eq_true rfl) (Nat.le_of_ble_eq_true rfl) (Nat.le_of_ble_eq_true rfl) ?_
  intro v501 T501 V501 h501 S501 C501 q501
  obtain ⟨rfl, K9, Ex9, Fv9, Fc9⟩ := q501
  have sf502 := C501.safe (Nat.lt_of_lt_of_le lt493 (Nat.le_trans (Nat.le_refl _) Et1.1)) sf497
  have Vt9 := Vt1.keep K9 (ninS ne1 nin0)
  show Go p e below _ (T501.setTop (mkF m 25 #[.val (.int ch)] [(.ref b493)]))
  have X503 : Ext h492 h496 := ext_trans E493 Et1
  have X504 : Ext h492 h501 := ext_keep1 X503 K9 fr493
  show Go p e below _ (T501.setTop (mkF m 25 #[.val (.int ch)] [(.ref b493)]))
  exact g_aret S501 (hb hby dVO_25) hret rfl rfl rfl ⟨_, rfl, ⟨t1, kt1, 0, _, _, Ex9, Fv9, Fc9, Vt9, StrChars.Road.codOf (cs := [ch]) rfl (faS r.2 fa0), up255 (faS r fa0), Nat.le_of_ble_eq_true rfl⟩, X504⟩
theorem dAP00_0 : decode jdk_68_method_74_code 0 = .ok (.aload_n 0, 1) := by decide +kernel
theorem dAP00_1 : decode jdk_68_method_74_code 1 = .ok (.getfield 79, 3) := by decide +kernel
theorem dAP00_4 : decode jdk_68_method_74_code 4 = .ok (.istore 4, 2) := by decide +kernel
theorem dAP00_6 : decode jdk_68_method_74_code 6 = .ok (.aload_n 0, 1) := by decide +kernel
theorem dAP00_7 : decode jdk_68_method_74_code 7 = .ok (.invokevirtual 83, 3) := by decide +kernel
theorem dAP00_10 : decode jdk_68_method_74_code 10 = .ok (.ifCond .eq 97, 3) := by decide +kernel
theorem dAP00_13 : decode jdk_68_method_74_code 13 = .ok (.aload_n 0, 1) := by decide +kernel
theorem dAP00_14 : decode jdk_68_method_74_code 14 = .ok (.getfield 15, 3) := by decide +kernel
theorem dAP00_17 : decode jdk_68_method_74_code 17 = .ok (.astore 5, 2) := by decide +kernel
theorem dAP00_19 : decode jdk_68_method_74_code 19 = .ok (.iload_n 2, 1) := by decide +kernel
theorem dAP00_20 : decode jdk_68_method_74_code 20 = .ok (.istore 6, 2) := by decide +kernel
theorem dAP00_22 : decode jdk_68_method_74_code 22 = .ok (.iload 4, 2) := by decide +kernel
theorem dAP00_24 : decode jdk_68_method_74_code 24 = .ok (.istore 7, 2) := by decide +kernel
theorem dAP00_26 : decode jdk_68_method_74_code 26 = .ok (.iload 6, 2) := by decide +kernel
theorem dAP00_28 : decode jdk_68_method_74_code 28 = .ok (.iload_n 3, 1) := by decide +kernel
theorem dAP00_29 : decode jdk_68_method_74_code 29 = .ok (.if_icmp .ge 75, 3) := by decide +kernel
theorem dAP00_104 : decode jdk_68_method_74_code 104 = .ok (.goto 15, 3) := by decide +kernel
theorem dAP00_119 : decode jdk_68_method_74_code 119 = .ok (.aload_n 0, 1) := by decide +kernel
theorem dAP00_120 : decode jdk_68_method_74_code 120 = .ok (.iload 4, 2) := by decide +kernel
theorem dAP00_122 : decode jdk_68_method_74_code 122 = .ok (.iload_n 3, 1) := by decide +kernel
theorem dAP00_123 : decode jdk_68_method_74_code 123 = .ok (.iadd, 1) := by decide +kernel
theorem dAP00_124 : decode jdk_68_method_74_code 124 = .ok (.iload_n 2, 1) := by decide +kernel
theorem dAP00_125 : decode jdk_68_method_74_code 125 = .ok (.isub, 1) := by decide +kernel
theorem dAP00_126 : decode jdk_68_method_74_code 126 = .ok (.putfield 79, 3) := by decide +kernel
theorem dAP00_129 : decode jdk_68_method_74_code 129 = .ok (.return_, 1) := by decide +kernel
set_option maxRecDepth 65536 in
set_option maxHeartbeats 40000000 in
theorem rmAP00 {l : Launch} {Z : State} {a0 : Array Value} {n0 : Nat} (X : Ctx Z a0) {x tb : Addr} {kb : ClassId} {sc : Int32} {bs : List Value} {b : Addr} {kc : ClassId} {c0 c1 c2 : Int32} {dv : Value} (nx : n0 ≤ x) (nb : n0 ≤ tb) {h : Heap} (hO : Old Z n0 h) (Ex : Exa Z h x "java/lang/StringBuilder") (Fv : Fld Z h x "java/lang/AbstractStringBuilder" "value" "[B" (.ref tb)) (Fk : Fld Z h x "java/lang/AbstractStringBuilder" "coder" "B" (.int (0 : Int32))) (Fs : Fld Z h x "java/lang/AbstractStringBuilder" "count" "I" (.int sc)) (Vb : Arv Z h tb kb .byte (16 : Int32) bs (.int (0 : Int32))) (Vc : Arv Z h b kc .char (3 : Int32) [(.int c0), (.int c1), (.int c2)] dv) (rc0 : ¬ c0 < 0 ∧ ¬ (255 : Int32) < c0) (rc1 : ¬ c1 < 0 ∧ ¬ (255 : Int32) < c1) (rc2 : ¬ c2 < 0 ∧ ¬ (255 : Int32) < c2) (h0 : 0 ≤ sc.toInt) (h2 : sc.toInt + 0 ≤ 16) (hbl : bs.length = 16) :
    Ctr l Z EL1 n0 (⟨"java/lang/AbstractStringBuilder", "appendChars", "([CII)V"⟩ : MethodName) jdk_68_method_74_code 9 none ({ frames := 1, cells := 0, slots := 0, locals := 12 } : Room) #[(.ref x), (.ref b), (.int (0 : Int32)), (.int (0 : Int32))] h [tb] (fun v h' => v = none ∧ ∃ (sc' : Int32) (bs' : List Value), Keep h h' [x, tb] ∧ Exa Z h' x "java/lang/StringBuilder" ∧ Fld Z h' x "java/lang/AbstractStringBuilder" "value" "[B" (.ref tb) ∧ Fld Z h' x "java/lang/AbstractStringBuilder" "coder" "B" (.int (0 : Int32)) ∧ Fld Z h' x "java/lang/AbstractStringBuilder" "count" "I" (.int sc') ∧ Arv Z h' tb kb .byte (16 : Int32) bs' (.int (0 : Int32)) ∧ bs'.length = 16 ∧ sc'.toInt = sc.toInt + 0) := by
  have hw := X.hw
  obtain ⟨z1, hz1, hz2⟩ := X.2.2.1
  refine Ctr.intro (a0 := a0) (plainFor_of_name pn0) hO X.ew ?_
  intro p e s m below meth c T0 V0 S0 hby hml hret hnm hsf
  rw [ef15]
  have nXB : x ≠ tb := Exa.neArv Ex Vb (w10 hw)
  have nXC : x ≠ b := Exa.neArv Ex Vc (w10 hw)
  have nBC : tb ≠ b := arv_kne Vb Vc (by decide)
  show Go p e below _ (T0.setTop (mkF m 0 #[.val (.ref x), .val (.ref b), .val (.int (0 : Int32)), .val (.int (0 : Int32)), .unset, .unset, .unset, .unset, .unset] []))
  refine s_aloadN S0 (hb hby dAP00_0) rfl rfl (pc' := 1) rfl ?_
  refine g_getF S0 (w95 hw) Via.refl Fs (hb hby dAP00_1) ?_
  intro T505 ST505
  show Go p e below _ (T505.setTop (mkF m 4 #[.val (.ref x), .val (.ref b), .val (.int (0 : Int32)), .val (.int (0 : Int32)), .unset, .unset, .unset, .unset, .unset] [(.int sc)]))
  refine s_istore ST505 (hb hby dAP00_4) (L' := #[.val (.ref x), .val (.ref b), .val (.int (0 : Int32)), .val (.int (0 : Int32)), .val (.int sc), .unset, .unset, .unset, .unset]) rfl (pc' := 6) rfl ?_
  refine s_aloadN ST505 (hb hby dAP00_6) rfl rfl (pc' := 7) rfl ?_
  show Go p e below _ (T505.setTop (mkF m 7 #[.val (.ref x), .val (.ref b), .val (.int (0 : Int32)), .val (.int (0 : Int32)), .val (.int sc), .unset, .unset, .unset, .unset] [(.ref x)]))
  refine g_virtual ST505 (rmIL X ST505.old Ex Fv Fk Fs) (fun _ q => nomatch q) (w180 hw) (w181 hw) (w183 hw) (w182 hw) (w19 hw) (w184 hw) (by decide) (fun _ h => notFace_of_selects h) (hb hby dAP00_7) (by rw [hml]; rfl) x Ex [] (lenOf pd16 rfl) rfl rfl (Nat.le_of_ble_eq_true rfl) (Nat.le_of_ble_eq_true rfl) (Nat.le_of_ble_eq_true rfl) (Nat.le_of_ble_eq_true rfl) ?_
  intro v506 T506 V506 h506 S506 C506 q506
  obtain ⟨rfl, rfl⟩ := q506
  have sf507 := C506.safe Vb.lt (hsf tb List.mem_cons_self)
  show Go p e below _ (T506.setTop (mkF m 10 #[.val (.ref x), .val (.ref b), .val (.int (0 : Int32)), .val (.int (0 : Int32)), .val (.int sc), .unset, .unset, .unset, .unset] [(.int (1 : Int32))]))
  refine s_ifN S506 (hb hby dAP00_10) (by decide) (pc' := 13) rfl ?_
  refine s_aloadN S506 (hb hby dAP00_13) rfl rfl (pc' := 14) rfl ?_
  refine g_getF S506 (w25 hw) Via.refl Fv (hb hby dAP00_14) ?_
  intro T508 ST508
  show Go p e below _ (T508.setTop (mkF m 17 #[.val (.ref x), .val (.ref b), .val (.int (0 : Int32)), .val (.int (0 : Int32)), .val (.int sc), .unset, .unset, .unset, .unset] [(.ref tb)]))
  refine s_astore ST508 (hb hby dAP00_17) rfl (L' := #[.val (.ref x), .val (.ref b), .val (.int (0 : Int32)), .val (.int (0 : Int32)), .val (.int sc), .val (.ref tb), .unset, .unset, .unset]) rfl (pc' := 19) rfl ?_
  refine s_iloadN ST508 (hb hby dAP00_19) rfl (pc' := 20) rfl ?_
  refine s_istore ST508 (hb hby dAP00_20) (L' := #[.val (.ref x), .val (.ref b), .val (.int (0 : Int32)), .val (.int (0 : Int32)), .val (.int sc), .val (.ref tb), .val (.int (0 : Int32)), .unset, .unset]) rfl (pc' := 22) rfl ?_
  refine s_iload ST508 (hb hby dAP00_22) rfl (pc' := 24) rfl ?_
  refine s_istore ST508 (hb hby dAP00_24) (L' := #[.val (.ref x), .val (.ref b), .val (.int (0 : Int32)), .val (.int (0 : Int32)), .val (.int sc), .val (.ref tb), .val (.int (0 : Int32)), .val (.int sc), .unset]) rfl (pc' := 26) rfl ?_
  refine s_iload ST508 (hb hby dAP00_26) rfl (pc' := 28) rfl ?_
  refine s_iloadN ST508 (hb hby dAP00_28) rfl (pc' := 29) rfl ?_
  refine s_icmpY ST508 (hb hby dAP00_29) (by decide) (by decide) (pcT := 104) (by decide) ?_
  refine s_goto ST508 (hb hby dAP00_104) (by decide) (pcT := 119) (by decide) ?_
  refine s_aloadN ST508 (hb hby dAP00_119) rfl rfl (pc' := 120) rfl ?_
  refine s_iload ST508 (hb hby dAP00_120) rfl (pc' := 122) rfl ?_
  refine s_iloadN ST508 (hb hby dAP00_122) rfl (pc' := 123) rfl ?_
  refine s_iadd ST508 (hb hby dAP00_123) (z := (sc + (0 : Int32))) rfl (pc' := 124) rfl ?_
  refine s_iloadN ST508 (hb hby dAP00_124) rfl (pc' := 125) rfl ?_
  refine s_isub ST508 (hb hby dAP00_125) (z := ((sc + (0 : Int32)) - (0 : Int32))) rfl (pc' := 126) rfl ?_
  show Go p e below _ (T508.setTop (mkF m 126 #[.val (.ref x), .val (.ref b), .val (.int (0 : Int32)), .val (.int (0 : Int32)), .val (.int sc), .val (.ref tb), .val (.int (0 : Int32)), .val (.int sc), .unset] [(.int ((sc + (0 : Int32)) - (0 : Int32))), (.ref x)]))
  refine g_putF ST508 (w95 hw) Via.refl Fs Ex (Or.inl (w96 hw)) (w10 hw) (ty := .int) (v' := (.int ((sc + (0 : Int32)) - (0 : Int32)))) (by decide) rfl rfl nx (Safe.exa ST508.warm.alike Ex (by decide) (by decide)) (hb hby dAP00_126) ?_
  intro T509 h509 S509 K509 W509 A509 F509 sg509
  have sf510 := Safe.keep K509 (sfS (Safe.exa ST508.warm.alike Ex (by decide) (by decide)) sf0) ST508.chv sf507
  have F511 := Fv.other W509 (Or.inr (slot_ne (Or.inl (w26 hw)) (Or.inl (w96 hw)) (by decide) (t := (.array .byte)) (t' := .int) (by decide) (by decide)))
  have F512 := Fk.other W509 (Or.inr (slot_ne (Or.inl (w28 hw)) (Or.inl (w96 hw)) (by decide) (t := .byte) (t' := .int) (by decide) (by decide)))
  show Go p e below _ (T509.setTop (mkF m 129 #[.val (.ref x), .val (.ref b), .val (.int (0 : Int32)), .val (.int (0 : Int32)), .val (.int sc), .val (.ref tb), .val (.int (0 : Int32)), .val (.int sc), .unset] []))
  show Go p e below _ (T509.setTop (mkF m 129 #[.val (.ref x), .val (.ref b), .val (.int (0 : Int32)), .val (.int (0 : Int32)), .val (.int sc), .val (.ref tb), .val (.int (0 : Int32)), .val (.int sc), .unset] []))
  have KA513 := (Keep.refl h506 [x, tb])
  have KA514 : Keep h506 h509 [x, tb] := (KA513.trans K509 (allS (Or.inl (by simp)) all0))
  have F515 := Vb.keep K509 (ninS (Ne.symm nXB) nin0)
  exact g_ret S509 (hb hby dAP00_129) hret ⟨rfl, _, _, KA514, A509, F511, F512, F509, F515, hbl, own_cnt (0 : Int32) (0 : Int32) 0 0 rfl rfl h0 (by omega) (by omega) (by omega)⟩
theorem dAA00_0 : decode jdk_68_method_29_code 0 = .ok (.iload_n 2, 1) := by decide +kernel
theorem dAA00_1 : decode jdk_68_method_29_code 1 = .ok (.iload_n 3, 1) := by decide +kernel
theorem dAA00_2 : decode jdk_68_method_29_code 2 = .ok (.iadd, 1) := by decide +kernel
theorem dAA00_3 : decode jdk_68_method_29_code 3 = .ok (.istore 4, 2) := by decide +kernel
theorem dAA00_5 : decode jdk_68_method_29_code 5 = .ok (.iload_n 2, 1) := by decide +kernel
theorem dAA00_6 : decode jdk_68_method_29_code 6 = .ok (.iload 4, 2) := by decide +kernel
theorem dAA00_8 : decode jdk_68_method_29_code 8 = .ok (.aload_n 1, 1) := by decide +kernel
theorem dAA00_9 : decode jdk_68_method_29_code 9 = .ok (.arraylength, 1) := by decide +kernel
theorem dAA00_10 : decode jdk_68_method_29_code 10 = .ok (.getstatic 183, 3) := by decide +kernel
theorem dAA00_13 : decode jdk_68_method_29_code 13 = .ok (.invokestatic 161, 3) := by decide +kernel
theorem dAA00_16 : decode jdk_68_method_29_code 16 = .ok (.pop, 1) := by decide +kernel
theorem dAA00_17 : decode jdk_68_method_29_code 17 = .ok (.aload_n 0, 1) := by decide +kernel
theorem dAA00_18 : decode jdk_68_method_29_code 18 = .ok (.aload_n 0, 1) := by decide +kernel
theorem dAA00_19 : decode jdk_68_method_29_code 19 = .ok (.getfield 79, 3) := by decide +kernel
theorem dAA00_22 : decode jdk_68_method_29_code 22 = .ok (.iload_n 3, 1) := by decide +kernel
theorem dAA00_23 : decode jdk_68_method_29_code 23 = .ok (.iadd, 1) := by decide +kernel
theorem dAA00_24 : decode jdk_68_method_29_code 24 = .ok (.invokevirtual 100, 3) := by decide +kernel
theorem dAA00_27 : decode jdk_68_method_29_code 27 = .ok (.aload_n 0, 1) := by decide +kernel
theorem dAA00_28 : decode jdk_68_method_29_code 28 = .ok (.aload_n 1, 1) := by decide +kernel
theorem dAA00_29 : decode jdk_68_method_29_code 29 = .ok (.iload_n 2, 1) := by decide +kernel
theorem dAA00_30 : decode jdk_68_method_29_code 30 = .ok (.iload 4, 2) := by decide +kernel
theorem dAA00_32 : decode jdk_68_method_29_code 32 = .ok (.invokevirtual 239, 3) := by decide +kernel
theorem dAA00_35 : decode jdk_68_method_29_code 35 = .ok (.aload_n 0, 1) := by decide +kernel
theorem dAA00_36 : decode jdk_68_method_29_code 36 = .ok (.areturn, 1) := by decide +kernel
set_option maxRecDepth 65536 in
set_option maxHeartbeats 40000000 in
theorem rmAA00 {l : Launch} {Z : State} {a0 : Array Value} {n0 : Nat} (X : Ctx Z a0) {x tb : Addr} {kb : ClassId} {sc : Int32} {bs : List Value} {b : Addr} {kc : ClassId} {c0 c1 c2 : Int32} {dv : Value} (nx : n0 ≤ x) (nb : n0 ≤ tb) {h : Heap} (hO : Old Z n0 h) (Ex : Exa Z h x "java/lang/StringBuilder") (Fv : Fld Z h x "java/lang/AbstractStringBuilder" "value" "[B" (.ref tb)) (Fk : Fld Z h x "java/lang/AbstractStringBuilder" "coder" "B" (.int (0 : Int32))) (Fs : Fld Z h x "java/lang/AbstractStringBuilder" "count" "I" (.int sc)) (Vb : Arv Z h tb kb .byte (16 : Int32) bs (.int (0 : Int32))) (Vc : Arv Z h b kc .char (3 : Int32) [(.int c0), (.int c1), (.int c2)] dv) (rc0 : ¬ c0 < 0 ∧ ¬ (255 : Int32) < c0) (rc1 : ¬ c1 < 0 ∧ ¬ (255 : Int32) < c1) (rc2 : ¬ c2 < 0 ∧ ¬ (255 : Int32) < c2) (h0 : 0 ≤ sc.toInt) (h2 : sc.toInt + 0 ≤ 16) (hbl : bs.length = 16) :
    Ctr l Z EL1 n0 (⟨"java/lang/AbstractStringBuilder", "append", "([CII)Ljava/lang/AbstractStringBuilder;"⟩ : MethodName) jdk_68_method_29_code 5 (some (.object "java/lang/AbstractStringBuilder")) ({ frames := 2, cells := 0, slots := 0, locals := 32 } : Room) #[(.ref x), (.ref b), (.int (0 : Int32)), (.int (0 : Int32))] h [tb] (fun v h' => v = some (.ref x) ∧ ∃ (sc' : Int32) (bs' : List Value), Keep h h' [x, tb] ∧ Exa Z h' x "java/lang/StringBuilder" ∧ Fld Z h' x "java/lang/AbstractStringBuilder" "value" "[B" (.ref tb) ∧ Fld Z h' x "java/lang/AbstractStringBuilder" "coder" "B" (.int (0 : Int32)) ∧ Fld Z h' x "java/lang/AbstractStringBuilder" "count" "I" (.int sc') ∧ Arv Z h' tb kb .byte (16 : Int32) bs' (.int (0 : Int32)) ∧ bs'.length = 16 ∧ sc'.toInt = sc.toInt + 0) := by
  have hw := X.hw
  obtain ⟨z1, hz1, hz2⟩ := X.2.2.1
  refine Ctr.intro (a0 := a0) (plainFor_of_name pn0) hO X.ew ?_
  intro p e s m below meth c T0 V0 S0 hby hml hret hnm hsf
  rw [ef16]
  obtain ⟨fm, hfm, rfm⟩ := X.2.2.2.2
  rcases ref_cases rfm with rfl | ⟨fb, rfl⟩
  · skip
    have nXB : x ≠ tb := Exa.neArv Ex Vb (w10 hw)
    have nXC : x ≠ b := Exa.neArv Ex Vc (w10 hw)
    have nBC : tb ≠ b := arv_kne Vb Vc (by decide)
    have em := own_addl (x := sc) (0 : Int32) 0 rfl h0 (by omega) (by omega)
    show Go p e below _ (T0.setTop (mkF m 0 #[.val (.ref x), .val (.ref b), .val (.int (0 : Int32)), .val (.int (0 : Int32)), .unset] []))
    refine s_iloadN S0 (hb hby dAA00_0) rfl (pc' := 1) rfl ?_
    refine s_iloadN S0 (hb hby dAA00_1) rfl (pc' := 2) rfl ?_
    refine s_iadd S0 (hb hby dAA00_2) (z := (0 : Int32)) rfl (pc' := 3) rfl ?_
    refine s_istore S0 (hb hby dAA00_3) (L' := #[.val (.ref x), .val (.ref b), .val (.int (0 : Int32)), .val (.int (0 : Int32)), .val (.int (0 : Int32))]) rfl (pc' := 5) rfl ?_
    refine s_iloadN S0 (hb hby dAA00_5) rfl (pc' := 6) rfl ?_
    refine s_iload S0 (hb hby dAA00_6) rfl (pc' := 8) rfl ?_
    refine s_aloadN S0 (hb hby dAA00_8) rfl rfl (pc' := 9) rfl ?_
    refine g_len S0 Vc (hb hby dAA00_9) ?_
    show Go p e below _ (T0.setTop (mkF m 10 #[.val (.ref x), .val (.ref b), .val (.int (0 : Int32)), .val (.int (0 : Int32)), .val (.int (0 : Int32))] [(.int (3 : Int32)), (.int (0 : Int32)), (.int (0 : Int32))]))
    refine g_getS S0 (w169 hw) Via.refl (hfm.ext S0.old.2) (hb hby dAA00_10) ?_
    intro T516 ST516
    show Go p e below _ (T516.setTop (mkF m 13 #[.val (.ref x), .val (.ref b), .val (.int (0 : Int32)), .val (.int (0 : Int32)), .val (.int (0 : Int32))] [.null, (.int (3 : Int32)), (.int (0 : Int32)), (.int (0 : Int32))]))
    show Go p e below _ (T516.setTop (mkF m 13 #[.val (.ref x), .val (.ref b), .val (.int (0 : Int32)), .val (.int (0 : Int32)), .val (.int (0 : Int32))] [.null, (.int (3 : Int32)), (.int (0 : Int32)), (.int (0 : Int32))]))
    refine g_static ST516 (rmCF003n X ST516.old) (fun _ q => nomatch q) (w172 hw) (w173 hw) (w170 hw) (w174 hw) (by decide) (hb hby dAA00_13) (by rw [hml]; rfl) [(.int (0 : Int32)), (.int (0 : Int32)), (.int (3 : Int32)), .null] (lenOf pd17 rfl) rfl rfl (Nat.le_of_ble_eq_true rfl) (Nat.le_of_ble_eq_true rfl) (Nat.le_of_ble_eq_true rfl) (Nat.le_of_ble_eq_true rfl) ?_
    intro v517 T517 V517 h517 S517 C517 q517
    obtain ⟨rfl, rfl⟩ := q517
    have sf518 := C517.safe Vb.lt (hsf tb List.mem_cons_self)
    show Go p e below _ (T517.setTop (mkF m 16 #[.val (.ref x), .val (.ref b), .val (.int (0 : Int32)), .val (.int (0 : Int32)), .val (.int (0 : Int32))] [(.int (0 : Int32))]))
    refine s_pop S517 (hb hby dAA00_16) rfl (pc' := 17) rfl ?_
    refine s_aloadN S517 (hb hby dAA00_17) rfl rfl (pc' := 18) rfl ?_
    refine s_aloadN S517 (hb hby dAA00_18) rfl rfl (pc' := 19) rfl ?_
    refine g_getF S517 (w95 hw) Via.refl Fs (hb hby dAA00_19) ?_
    intro T519 ST519
    show Go p e below _ (T519.setTop (mkF m 22 #[.val (.ref x), .val (.ref b), .val (.int (0 : Int32)), .val (.int (0 : Int32)), .val (.int (0 : Int32))] [(.int sc), (.ref x)]))
    refine s_iloadN ST519 (hb hby dAA00_22) rfl (pc' := 23) rfl ?_
    refine s_iadd ST519 (hb hby dAA00_23) (z := (sc + (0 : Int32))) rfl (pc' := 24) rfl ?_
    show Go p e below _ (T519.setTop (mkF m 24 #[.val (.ref x), .val (.ref b), .val (.int (0 : Int32)), .val (.int (0 : Int32)), .val (.int (0 : Int32))] [(.int (sc + (0 : Int32))), (.ref x)]))
    refine g_private ST519 (rmEG X ST519.old Ex Fv Fk Fs Vb (by omega) (by omega)) (fun _ q => nomatch q) (w97 hw) (ni_sel (w100 hw) rfl) (w99 hw) (w98 hw) (w19 hw) (w101 hw) (by decide) (hb hby dAA00_24) (by rw [hml]; rfl) x Ex [(.int (sc + (0 : Int32)))] (lenOf pd0 rfl) rfl rfl (Nat.le_of_ble_eq_true rfl) (Nat.le_of_ble_eq_true rfl) (Nat.le_of_ble_eq_true rfl) (Nat.le_of_ble_eq_true rfl) ?_
    intro v520 T520 V520 h520 S520 C520 q520
    obtain ⟨rfl, rfl⟩ := q520
    have sf521 := C520.safe Vb.lt sf518
    show Go p e below _ (T520.setTop (mkF m 27 #[.val (.ref x), .val (.ref b), .val (.int (0 : Int32)), .val (.int (0 : Int32)), .val (.int (0 : Int32))] []))
    refine s_aloadN S520 (hb hby dAA00_27) rfl rfl (pc' := 28) rfl ?_
    refine s_aloadN S520 (hb hby dAA00_28) rfl rfl (pc' := 29) rfl ?_
    refine s_iloadN S520 (hb hby dAA00_29) rfl (pc' := 30) rfl ?_
    refine s_iload S520 (hb hby dAA00_30) rfl (pc' := 32) rfl ?_
    show Go p e below _ (T520.setTop (mkF m 32 #[.val (.ref x), .val (.ref b), .val (.int (0 : Int32)), .val (.int (0 : Int32)), .val (.int (0 : Int32))] [(.int (0 : Int32)), (.int (0 : Int32)), (.ref b), (.ref x)]))
    refine g_private S520 (rmAP00 X nx nb S520.old Ex Fv Fk Fs Vb Vc rc0 rc1 rc2 h0 h2 hbl) (sf1 Vb.lt sf521) (w175 hw) (ni_sel (w100 hw) rfl) (w177 hw) (w176 hw) (w19 hw) (w179 hw) (by decide) (hb hby dAA00_32) (by rw [hml]; rfl) x Ex [(.ref b), (.int (0 : Int32)), (.int (0 : Int32))] (lenOf pd18 rfl) rfl rfl (Nat.le_of_ble_eq_true rfl) (Nat.le_of_ble_eq_true rfl) (Nat.le_of_ble_eq_true rfl) (Nat.le_of_ble_eq_true rfl) ?_
    intro v522 T522 V522 h522 S522 C522 q522
    obtain ⟨rfl, q1⟩ := q522
    have sf523 := C522.safe Vb.lt sf521
    show Go p e below _ (T522.setTop (mkF m 35 #[.val (.ref x), .val (.ref b), .val (.int (0 : Int32)), .val (.int (0 : Int32)), .val (.int (0 : Int32))] []))
    refine s_aloadN S522 (hb hby dAA00_35) rfl rfl (pc' := 36) rfl ?_
    exact g_aret S522 (hb hby dAA00_36) hret rfl rfl rfl ⟨rfl, q1⟩
  · skip
    have nXB : x ≠ tb := Exa.neArv Ex Vb (w10 hw)
    have nXC : x ≠ b := Exa.neArv Ex Vc (w10 hw)
    have nBC : tb ≠ b := arv_kne Vb Vc (by decide)
    have em := own_addl (x := sc) (0 : Int32) 0 rfl h0 (by omega) (by omega)
    show Go p e below _ (T0.setTop (mkF m 0 #[.val (.ref x), .val (.ref b), .val (.int (0 : Int32)), .val (.int (0 : Int32)), .unset] []))
    refine s_iloadN S0 (hb hby dAA00_0) rfl (pc' := 1) rfl ?_
    refine s_iloadN S0 (hb hby dAA00_1) rfl (pc' := 2) rfl ?_
    refine s_iadd S0 (hb hby dAA00_2) (z := (0 : Int32)) rfl (pc' := 3) rfl ?_
    refine s_istore S0 (hb hby dAA00_3) (L' := #[.val (.ref x), .val (.ref b), .val (.int (0 : Int32)), .val (.int (0 : Int32)), .val (.int (0 : Int32))]) rfl (pc' := 5) rfl ?_
    refine s_iloadN S0 (hb hby dAA00_5) rfl (pc' := 6) rfl ?_
    refine s_iload S0 (hb hby dAA00_6) rfl (pc' := 8) rfl ?_
    refine s_aloadN S0 (hb hby dAA00_8) rfl rfl (pc' := 9) rfl ?_
    refine g_len S0 Vc (hb hby dAA00_9) ?_
    show Go p e below _ (T0.setTop (mkF m 10 #[.val (.ref x), .val (.ref b), .val (.int (0 : Int32)), .val (.int (0 : Int32)), .val (.int (0 : Int32))] [(.int (3 : Int32)), (.int (0 : Int32)), (.int (0 : Int32))]))
    refine g_getS S0 (w169 hw) Via.refl (hfm.ext S0.old.2) (hb hby dAA00_10) ?_
    intro T524 ST524
    show Go p e below _ (T524.setTop (mkF m 13 #[.val (.ref x), .val (.ref b), .val (.int (0 : Int32)), .val (.int (0 : Int32)), .val (.int (0 : Int32))] [(.ref fb), (.int (3 : Int32)), (.int (0 : Int32)), (.int (0 : Int32))]))
    show Go p e below _ (T524.setTop (mkF m 13 #[.val (.ref x), .val (.ref b), .val (.int (0 : Int32)), .val (.int (0 : Int32)), .val (.int (0 : Int32))] [(.ref fb), (.int (3 : Int32)), (.int (0 : Int32)), (.int (0 : Int32))]))
    refine g_static ST524 (rmCF003r X fb ST524.old) (fun _ q => nomatch q) (w172 hw) (w173 hw) (w170 hw) (w174 hw) (by decide) (hb hby dAA00_13) (by rw [hml]; rfl) [(.int (0 : Int32)), (.int (0 : Int32)), (.int (3 : Int32)), (.ref fb)] (lenOf pd17 rfl) rfl rfl (Nat.le_of_ble_eq_true rfl) (Nat.le_of_ble_eq_true rfl) (Nat.le_of_ble_eq_true rfl) (Nat.le_of_ble_eq_true rfl) ?_
    intro v525 T525 V525 h525 S525 C525 q525
    obtain ⟨rfl, rfl⟩ := q525
    have sf526 := C525.safe Vb.lt (hsf tb List.mem_cons_self)
    show Go p e below _ (T525.setTop (mkF m 16 #[.val (.ref x), .val (.ref b), .val (.int (0 : Int32)), .val (.int (0 : Int32)), .val (.int (0 : Int32))] [(.int (0 : Int32))]))
    refine s_pop S525 (hb hby dAA00_16) rfl (pc' := 17) rfl ?_
    refine s_aloadN S525 (hb hby dAA00_17) rfl rfl (pc' := 18) rfl ?_
    refine s_aloadN S525 (hb hby dAA00_18) rfl rfl (pc' := 19) rfl ?_
    refine g_getF S525 (w95 hw) Via.refl Fs (hb hby dAA00_19) ?_
    intro T527 ST527
    show Go p e below _ (T527.setTop (mkF m 22 #[.val (.ref x), .val (.ref b), .val (.int (0 : Int32)), .val (.int (0 : Int32)), .val (.int (0 : Int32))] [(.int sc), (.ref x)]))
    refine s_iloadN ST527 (hb hby dAA00_22) rfl (pc' := 23) rfl ?_
    refine s_iadd ST527 (hb hby dAA00_23) (z := (sc + (0 : Int32))) rfl (pc' := 24) rfl ?_
    show Go p e below _ (T527.setTop (mkF m 24 #[.val (.ref x), .val (.ref b), .val (.int (0 : Int32)), .val (.int (0 : Int32)), .val (.int (0 : Int32))] [(.int (sc + (0 : Int32))), (.ref x)]))
    refine g_private ST527 (rmEG X ST527.old Ex Fv Fk Fs Vb (by omega) (by omega)) (fun _ q => nomatch q) (w97 hw) (ni_sel (w100 hw) rfl) (w99 hw) (w98 hw) (w19 hw) (w101 hw) (by decide) (hb hby dAA00_24) (by rw [hml]; rfl) x Ex [(.int (sc + (0 : Int32)))] (lenOf pd0 rfl) rfl rfl (Nat.le_of_ble_eq_true rfl) (Nat.le_of_ble_eq_true rfl) (Nat.le_of_ble_eq_true rfl) (Nat.le_of_ble_eq_true rfl) ?_
    intro v528 T528 V528 h528 S528 C528 q528
    obtain ⟨rfl, rfl⟩ := q528
    have sf529 := C528.safe Vb.lt sf526
    show Go p e below _ (T528.setTop (mkF m 27 #[.val (.ref x), .val (.ref b), .val (.int (0 : Int32)), .val (.int (0 : Int32)), .val (.int (0 : Int32))] []))
    refine s_aloadN S528 (hb hby dAA00_27) rfl rfl (pc' := 28) rfl ?_
    refine s_aloadN S528 (hb hby dAA00_28) rfl rfl (pc' := 29) rfl ?_
    refine s_iloadN S528 (hb hby dAA00_29) rfl (pc' := 30) rfl ?_
    refine s_iload S528 (hb hby dAA00_30) rfl (pc' := 32) rfl ?_
    show Go p e below _ (T528.setTop (mkF m 32 #[.val (.ref x), .val (.ref b), .val (.int (0 : Int32)), .val (.int (0 : Int32)), .val (.int (0 : Int32))] [(.int (0 : Int32)), (.int (0 : Int32)), (.ref b), (.ref x)]))
    refine g_private S528 (rmAP00 X nx nb S528.old Ex Fv Fk Fs Vb Vc rc0 rc1 rc2 h0 h2 hbl) (sf1 Vb.lt sf529) (w175 hw) (ni_sel (w100 hw) rfl) (w177 hw) (w176 hw) (w19 hw) (w179 hw) (by decide) (hb hby dAA00_32) (by rw [hml]; rfl) x Ex [(.ref b), (.int (0 : Int32)), (.int (0 : Int32))] (lenOf pd18 rfl) rfl rfl (Nat.le_of_ble_eq_true rfl) (Nat.le_of_ble_eq_true rfl) (Nat.le_of_ble_eq_true rfl) (Nat.le_of_ble_eq_true rfl) ?_
    intro v530 T530 V530 h530 S530 C530 q530
    obtain ⟨rfl, q1⟩ := q530
    have sf531 := C530.safe Vb.lt sf529
    show Go p e below _ (T530.setTop (mkF m 35 #[.val (.ref x), .val (.ref b), .val (.int (0 : Int32)), .val (.int (0 : Int32)), .val (.int (0 : Int32))] []))
    refine s_aloadN S530 (hb hby dAA00_35) rfl rfl (pc' := 36) rfl ?_
    exact g_aret S530 (hb hby dAA00_36) hret rfl rfl rfl ⟨rfl, q1⟩
theorem dSA00_0 : decode jdk_67_method_12_code 0 = .ok (.aload_n 0, 1) := by decide +kernel
theorem dSA00_1 : decode jdk_67_method_12_code 1 = .ok (.aload_n 1, 1) := by decide +kernel
theorem dSA00_2 : decode jdk_67_method_12_code 2 = .ok (.iload_n 2, 1) := by decide +kernel
theorem dSA00_3 : decode jdk_67_method_12_code 3 = .ok (.iload_n 3, 1) := by decide +kernel
theorem dSA00_4 : decode jdk_67_method_12_code 4 = .ok (.invokespecial 44, 3) := by decide +kernel
theorem dSA00_7 : decode jdk_67_method_12_code 7 = .ok (.pop, 1) := by decide +kernel
theorem dSA00_8 : decode jdk_67_method_12_code 8 = .ok (.aload_n 0, 1) := by decide +kernel
theorem dSA00_9 : decode jdk_67_method_12_code 9 = .ok (.areturn, 1) := by decide +kernel
set_option maxRecDepth 65536 in
set_option maxHeartbeats 40000000 in
theorem rmSA00 {l : Launch} {Z : State} {a0 : Array Value} {n0 : Nat} (X : Ctx Z a0) {x tb : Addr} {kb : ClassId} {sc : Int32} {bs : List Value} {b : Addr} {kc : ClassId} {c0 c1 c2 : Int32} {dv : Value} (nx : n0 ≤ x) (nb : n0 ≤ tb) {h : Heap} (hO : Old Z n0 h) (Ex : Exa Z h x "java/lang/StringBuilder") (Fv : Fld Z h x "java/lang/AbstractStringBuilder" "value" "[B" (.ref tb)) (Fk : Fld Z h x "java/lang/AbstractStringBuilder" "coder" "B" (.int (0 : Int32))) (Fs : Fld Z h x "java/lang/AbstractStringBuilder" "count" "I" (.int sc)) (Vb : Arv Z h tb kb .byte (16 : Int32) bs (.int (0 : Int32))) (Vc : Arv Z h b kc .char (3 : Int32) [(.int c0), (.int c1), (.int c2)] dv) (rc0 : ¬ c0 < 0 ∧ ¬ (255 : Int32) < c0) (rc1 : ¬ c1 < 0 ∧ ¬ (255 : Int32) < c1) (rc2 : ¬ c2 < 0 ∧ ¬ (255 : Int32) < c2) (h0 : 0 ≤ sc.toInt) (h2 : sc.toInt + 0 ≤ 16) (hbl : bs.length = 16) :
    Ctr l Z EL1 n0 (⟨"java/lang/StringBuilder", "append", "([CII)Ljava/lang/StringBuilder;"⟩ : MethodName) jdk_67_method_12_code 4 (some (.object "java/lang/StringBuilder")) ({ frames := 3, cells := 0, slots := 0, locals := 48 } : Room) #[(.ref x), (.ref b), (.int (0 : Int32)), (.int (0 : Int32))] h [tb] (fun v h' => v = some (.ref x) ∧ ∃ (sc' : Int32) (bs' : List Value), Keep h h' [x, tb] ∧ Exa Z h' x "java/lang/StringBuilder" ∧ Fld Z h' x "java/lang/AbstractStringBuilder" "value" "[B" (.ref tb) ∧ Fld Z h' x "java/lang/AbstractStringBuilder" "coder" "B" (.int (0 : Int32)) ∧ Fld Z h' x "java/lang/AbstractStringBuilder" "count" "I" (.int sc') ∧ Arv Z h' tb kb .byte (16 : Int32) bs' (.int (0 : Int32)) ∧ bs'.length = 16 ∧ sc'.toInt = sc.toInt + 0) := by
  have hw := X.hw
  obtain ⟨z1, hz1, hz2⟩ := X.2.2.1
  refine Ctr.intro (a0 := a0) (plainFor_of_name pn1) hO X.ew ?_
  intro p e s m below meth c T0 V0 S0 hby hml hret hnm hsf
  rw [ef8]
  have nXB : x ≠ tb := Exa.neArv Ex Vb (w10 hw)
  have nXC : x ≠ b := Exa.neArv Ex Vc (w10 hw)
  have nBC : tb ≠ b := arv_kne Vb Vc (by decide)
  show Go p e below _ (T0.setTop (mkF m 0 #[.val (.ref x), .val (.ref b), .val (.int (0 : Int32)), .val (.int (0 : Int32))] []))
  refine s_aloadN S0 (hb hby dSA00_0) rfl rfl (pc' := 1) rfl ?_
  refine s_aloadN S0 (hb hby dSA00_1) rfl rfl (pc' := 2) rfl ?_
  refine s_iloadN S0 (hb hby dSA00_2) rfl (pc' := 3) rfl ?_
  refine s_iloadN S0 (hb hby dSA00_3) rfl (pc' := 4) rfl ?_
  show Go p e below _ (T0.setTop (mkF m 4 #[.val (.ref x), .val (.ref b), .val (.int (0 : Int32)), .val (.int (0 : Int32))] [(.int (0 : Int32)), (.int (0 : Int32)), (.ref b), (.ref x)]))
  refine g_super S0 (rmAA00 X nx nb S0.old Ex Fv Fk Fs Vb Vc rc0 rc1 rc2 h0 h2 hbl) (sf1 Vb.lt (hsf tb List.mem_cons_self)) (by decide) (w165 hw) (ni_sel (w100 hw) rfl) (w166 hw) (w82 hw) (w19 hw) (w168 hw) (by decide) (hb hby dSA00_4) (by rw [hml]; rfl) x Ex [(.ref b), (.int (0 : Int32)), (.int (0 : Int32))] (lenOf pd19 rfl) rfl rfl (Nat.le_of_ble_eq_true rfl) (Nat.le_of_ble_eq_true rfl) (Nat.le_of_ble_eq_true rfl) (Nat.le_of_ble_eq_true rfl) ?_
  intro v532 T532 V532 h532 S532 C532 q532
  obtain ⟨rfl, q1⟩ := q532
  have sf533 := C532.safe Vb.lt (hsf tb List.mem_cons_self)
  show Go p e below _ (T532.setTop (mkF m 7 #[.val (.ref x), .val (.ref b), .val (.int (0 : Int32)), .val (.int (0 : Int32))] [(.ref x)]))
  refine s_pop S532 (hb hby dSA00_7) rfl (pc' := 8) rfl ?_
  refine s_aloadN S532 (hb hby dSA00_8) rfl rfl (pc' := 9) rfl ?_
  exact g_aret S532 (hb hby dSA00_9) hret rfl rfl rfl ⟨rfl, q1⟩
theorem dAP01_0 : decode jdk_68_method_74_code 0 = .ok (.aload_n 0, 1) := by decide +kernel
theorem dAP01_1 : decode jdk_68_method_74_code 1 = .ok (.getfield 79, 3) := by decide +kernel
theorem dAP01_4 : decode jdk_68_method_74_code 4 = .ok (.istore 4, 2) := by decide +kernel
theorem dAP01_6 : decode jdk_68_method_74_code 6 = .ok (.aload_n 0, 1) := by decide +kernel
theorem dAP01_7 : decode jdk_68_method_74_code 7 = .ok (.invokevirtual 83, 3) := by decide +kernel
theorem dAP01_10 : decode jdk_68_method_74_code 10 = .ok (.ifCond .eq 97, 3) := by decide +kernel
theorem dAP01_13 : decode jdk_68_method_74_code 13 = .ok (.aload_n 0, 1) := by decide +kernel
theorem dAP01_14 : decode jdk_68_method_74_code 14 = .ok (.getfield 15, 3) := by decide +kernel
theorem dAP01_17 : decode jdk_68_method_74_code 17 = .ok (.astore 5, 2) := by decide +kernel
theorem dAP01_19 : decode jdk_68_method_74_code 19 = .ok (.iload_n 2, 1) := by decide +kernel
theorem dAP01_20 : decode jdk_68_method_74_code 20 = .ok (.istore 6, 2) := by decide +kernel
theorem dAP01_22 : decode jdk_68_method_74_code 22 = .ok (.iload 4, 2) := by decide +kernel
theorem dAP01_24 : decode jdk_68_method_74_code 24 = .ok (.istore 7, 2) := by decide +kernel
theorem dAP01_26 : decode jdk_68_method_74_code 26 = .ok (.iload 6, 2) := by decide +kernel
theorem dAP01_28 : decode jdk_68_method_74_code 28 = .ok (.iload_n 3, 1) := by decide +kernel
theorem dAP01_29 : decode jdk_68_method_74_code 29 = .ok (.if_icmp .ge 75, 3) := by decide +kernel
theorem dAP01_32 : decode jdk_68_method_74_code 32 = .ok (.aload_n 1, 1) := by decide +kernel
theorem dAP01_33 : decode jdk_68_method_74_code 33 = .ok (.iload 6, 2) := by decide +kernel
theorem dAP01_35 : decode jdk_68_method_74_code 35 = .ok (.caload, 1) := by decide +kernel
theorem dAP01_36 : decode jdk_68_method_74_code 36 = .ok (.istore 8, 2) := by decide +kernel
theorem dAP01_38 : decode jdk_68_method_74_code 38 = .ok (.iload 8, 2) := by decide +kernel
theorem dAP01_40 : decode jdk_68_method_74_code 40 = .ok (.invokestatic 191, 3) := by decide +kernel
theorem dAP01_43 : decode jdk_68_method_74_code 43 = .ok (.ifCond .eq 17, 3) := by decide +kernel
theorem dAP01_46 : decode jdk_68_method_74_code 46 = .ok (.aload 5, 2) := by decide +kernel
theorem dAP01_48 : decode jdk_68_method_74_code 48 = .ok (.iload 7, 2) := by decide +kernel
theorem dAP01_50 : decode jdk_68_method_74_code 50 = .ok (.iinc 7 1, 3) := by decide +kernel
theorem dAP01_53 : decode jdk_68_method_74_code 53 = .ok (.iload 8, 2) := by decide +kernel
theorem dAP01_55 : decode jdk_68_method_74_code 55 = .ok (.i2b, 1) := by decide +kernel
theorem dAP01_56 : decode jdk_68_method_74_code 56 = .ok (.bastore, 1) := by decide +kernel
theorem dAP01_57 : decode jdk_68_method_74_code 57 = .ok (.goto 41, 3) := by decide +kernel
theorem dAP01_98 : decode jdk_68_method_74_code 98 = .ok (.iinc 6 1, 3) := by decide +kernel
theorem dAP01_101 : decode jdk_68_method_74_code 101 = .ok (.goto (-75), 3) := by decide +kernel
theorem dAP01_104 : decode jdk_68_method_74_code 104 = .ok (.goto 15, 3) := by decide +kernel
theorem dAP01_119 : decode jdk_68_method_74_code 119 = .ok (.aload_n 0, 1) := by decide +kernel
theorem dAP01_120 : decode jdk_68_method_74_code 120 = .ok (.iload 4, 2) := by decide +kernel
theorem dAP01_122 : decode jdk_68_method_74_code 122 = .ok (.iload_n 3, 1) := by decide +kernel
theorem dAP01_123 : decode jdk_68_method_74_code 123 = .ok (.iadd, 1) := by decide +kernel
theorem dAP01_124 : decode jdk_68_method_74_code 124 = .ok (.iload_n 2, 1) := by decide +kernel
theorem dAP01_125 : decode jdk_68_method_74_code 125 = .ok (.isub, 1) := by decide +kernel
theorem dAP01_126 : decode jdk_68_method_74_code 126 = .ok (.putfield 79, 3) := by decide +kernel
theorem dAP01_129 : decode jdk_68_method_74_code 129 = .ok (.return_, 1) := by decide +kernel
set_option maxRecDepth 65536 in
set_option maxHeartbeats 40000000 in
theorem rmAP01 {l : Launch} {Z : State} {a0 : Array Value} {n0 : Nat} (X : Ctx Z a0) {x tb : Addr} {kb : ClassId} {sc : Int32} {bs : List Value} {b : Addr} {kc : ClassId} {c0 c1 c2 : Int32} {dv : Value} (nx : n0 ≤ x) (nb : n0 ≤ tb) {h : Heap} (hO : Old Z n0 h) (Ex : Exa Z h x "java/lang/StringBuilder") (Fv : Fld Z h x "java/lang/AbstractStringBuilder" "value" "[B" (.ref tb)) (Fk : Fld Z h x "java/lang/AbstractStringBuilder" "coder" "B" (.int (0 : Int32))) (Fs : Fld Z h x "java/lang/AbstractStringBuilder" "count" "I" (.int sc)) (Vb : Arv Z h tb kb .byte (16 : Int32) bs (.int (0 : Int32))) (Vc : Arv Z h b kc .char (3 : Int32) [(.int c0), (.int c1), (.int c2)] dv) (rc0 : ¬ c0 < 0 ∧ ¬ (255 : Int32) < c0) (rc1 : ¬ c1 < 0 ∧ ¬ (255 : Int32) < c1) (rc2 : ¬ c2 < 0 ∧ ¬ (255 : Int32) < c2) (h0 : 0 ≤ sc.toInt) (h2 : sc.toInt + 1 ≤ 16) (hbl : bs.length = 16) :
    Ctr l Z EL1 n0 (⟨"java/lang/AbstractStringBuilder", "appendChars", "([CII)V"⟩ : MethodName) jdk_68_method_74_code 9 none ({ frames := 1, cells := 0, slots := 0, locals := 12 } : Room) #[(.ref x), (.ref b), (.int (0 : Int32)), (.int (1 : Int32))] h [tb] (fun v h' => v = none ∧ ∃ (sc' : Int32) (bs' : List Value), Keep h h' [x, tb] ∧ Exa Z h' x "java/lang/StringBuilder" ∧ Fld Z h' x "java/lang/AbstractStringBuilder" "value" "[B" (.ref tb) ∧ Fld Z h' x "java/lang/AbstractStringBuilder" "coder" "B" (.int (0 : Int32)) ∧ Fld Z h' x "java/lang/AbstractStringBuilder" "count" "I" (.int sc') ∧ Arv Z h' tb kb .byte (16 : Int32) bs' (.int (0 : Int32)) ∧ bs'.length = 16 ∧ sc'.toInt = sc.toInt + 1) := by
  have hw := X.hw
  obtain ⟨z1, hz1, hz2⟩ := X.2.2.1
  refine Ctr.intro (a0 := a0) (plainFor_of_name pn0) hO X.ew ?_
  intro p e s m below meth c T0 V0 S0 hby hml hret hnm hsf
  rw [ef15]
  have nXB : x ≠ tb := Exa.neArv Ex Vb (w10 hw)
  have nXC : x ≠ b := Exa.neArv Ex Vc (w10 hw)
  have nBC : tb ≠ b := arv_kne Vb Vc (by decide)
  show Go p e below _ (T0.setTop (mkF m 0 #[.val (.ref x), .val (.ref b), .val (.int (0 : Int32)), .val (.int (1 : Int32)), .unset, .unset, .unset, .unset, .unset] []))
  refine s_aloadN S0 (hb hby dAP01_0) rfl rfl (pc' := 1) rfl ?_
  refine g_getF S0 (w95 hw) Via.refl Fs (hb hby dAP01_1) ?_
  intro T534 ST534
  show Go p e below _ (T534.setTop (mkF m 4 #[.val (.ref x), .val (.ref b), .val (.int (0 : Int32)), .val (.int (1 : Int32)), .unset, .unset, .unset, .unset, .unset] [(.int sc)]))
  refine s_istore ST534 (hb hby dAP01_4) (L' := #[.val (.ref x), .val (.ref b), .val (.int (0 : Int32)), .val (.int (1 : Int32)), .val (.int sc), .unset, .unset, .unset, .unset]) rfl (pc' := 6) rfl ?_
  refine s_aloadN ST534 (hb hby dAP01_6) rfl rfl (pc' := 7) rfl ?_
  show Go p e below _ (T534.setTop (mkF m 7 #[.val (.ref x), .val (.ref b), .val (.int (0 : Int32)), .val (.int (1 : Int32)), .val (.int sc), .unset, .unset, .unset, .unset] [(.ref x)]))
  refine g_virtual ST534 (rmIL X ST534.old Ex Fv Fk Fs) (fun _ q => nomatch q) (w180 hw) (w181 hw) (w183 hw) (w182 hw) (w19 hw) (w184 hw) (by decide) (fun _ h => notFace_of_selects h) (hb hby dAP01_7) (by rw [hml]; rfl) x Ex [] (lenOf pd16 rfl) rfl rfl (Nat.le_of_ble_eq_true rfl) (Nat.le_of_ble_eq_true rfl) (Nat.le_of_ble_eq_true rfl) (Nat.le_of_ble_eq_true rfl) ?_
  intro v535 T535 V535 h535 S535 C535 q535
  obtain ⟨rfl, rfl⟩ := q535
  have sf536 := C535.safe Vb.lt (hsf tb List.mem_cons_self)
  show Go p e below _ (T535.setTop (mkF m 10 #[.val (.ref x), .val (.ref b), .val (.int (0 : Int32)), .val (.int (1 : Int32)), .val (.int sc), .unset, .unset, .unset, .unset] [(.int (1 : Int32))]))
  refine s_ifN S535 (hb hby dAP01_10) (by decide) (pc' := 13) rfl ?_
  refine s_aloadN S535 (hb hby dAP01_13) rfl rfl (pc' := 14) rfl ?_
  refine g_getF S535 (w25 hw) Via.refl Fv (hb hby dAP01_14) ?_
  intro T537 ST537
  show Go p e below _ (T537.setTop (mkF m 17 #[.val (.ref x), .val (.ref b), .val (.int (0 : Int32)), .val (.int (1 : Int32)), .val (.int sc), .unset, .unset, .unset, .unset] [(.ref tb)]))
  refine s_astore ST537 (hb hby dAP01_17) rfl (L' := #[.val (.ref x), .val (.ref b), .val (.int (0 : Int32)), .val (.int (1 : Int32)), .val (.int sc), .val (.ref tb), .unset, .unset, .unset]) rfl (pc' := 19) rfl ?_
  refine s_iloadN ST537 (hb hby dAP01_19) rfl (pc' := 20) rfl ?_
  refine s_istore ST537 (hb hby dAP01_20) (L' := #[.val (.ref x), .val (.ref b), .val (.int (0 : Int32)), .val (.int (1 : Int32)), .val (.int sc), .val (.ref tb), .val (.int (0 : Int32)), .unset, .unset]) rfl (pc' := 22) rfl ?_
  refine s_iload ST537 (hb hby dAP01_22) rfl (pc' := 24) rfl ?_
  refine s_istore ST537 (hb hby dAP01_24) (L' := #[.val (.ref x), .val (.ref b), .val (.int (0 : Int32)), .val (.int (1 : Int32)), .val (.int sc), .val (.ref tb), .val (.int (0 : Int32)), .val (.int sc), .unset]) rfl (pc' := 26) rfl ?_
  refine s_iload ST537 (hb hby dAP01_26) rfl (pc' := 28) rfl ?_
  refine s_iloadN ST537 (hb hby dAP01_28) rfl (pc' := 29) rfl ?_
  refine s_icmpN ST537 (hb hby dAP01_29) (by decide) (pc' := 32) rfl ?_
  refine s_aloadN ST537 (hb hby dAP01_32) rfl rfl (pc' := 33) rfl ?_
  refine s_iload ST537 (hb hby dAP01_33) rfl (pc' := 35) rfl ?_
  refine g_caload ST537 Vc ⟨by decide, by decide⟩ (x := c0) rfl (hb hby dAP01_35) ?_
  show Go p e below _ (T537.setTop (mkF m 36 #[.val (.ref x), .val (.ref b), .val (.int (0 : Int32)), .val (.int (1 : Int32)), .val (.int sc), .val (.ref tb), .val (.int (0 : Int32)), .val (.int sc), .unset] [(.int c0)]))
  refine s_istore ST537 (hb hby dAP01_36) (L' := #[.val (.ref x), .val (.ref b), .val (.int (0 : Int32)), .val (.int (1 : Int32)), .val (.int sc), .val (.ref tb), .val (.int (0 : Int32)), .val (.int sc), .val (.int c0)]) rfl (pc' := 38) rfl ?_
  refine s_iload ST537 (hb hby dAP01_38) rfl (pc' := 40) rfl ?_
  show Go p e below _ (T537.setTop (mkF m 40 #[.val (.ref x), .val (.ref b), .val (.int (0 : Int32)), .val (.int (1 : Int32)), .val (.int sc), .val (.ref tb), .val (.int (0 : Int32)), .val (.int sc), .val (.int c0)] [(.int c0)]))
  refine g_static ST537 (rmCE X ST537.old rc0) (fun _ q => nomatch q) (w185 hw) (w186 hw) (w187 hw) (w188 hw) (by decide) (hb hby dAP01_40) (by rw [hml]; rfl) [(.int c0)] (lenOf pd13 rfl) rfl rfl (Nat.le_of_ble_eq_true rfl) (Nat.le_of_ble_eq_true rfl) (Nat.le_of_ble_eq_true rfl) (Nat.le_of_ble_eq_true rfl) ?_
  intro v538 T538 V538 h538 S538 C538 q538
  obtain ⟨rfl, rfl⟩ := q538
  have sf539 := C538.safe Vb.lt sf536
  show Go p e below _ (T538.setTop (mkF m 43 #[.val (.ref x), .val (.ref b), .val (.int (0 : Int32)), .val (.int (1 : Int32)), .val (.int sc), .val (.ref tb), .val (.int (0 : Int32)), .val (.int sc), .val (.int c0)] [(.int (1 : Int32))]))
  refine s_ifN S538 (hb hby dAP01_43) (by decide) (pc' := 46) rfl ?_
  refine s_aload S538 (hb hby dAP01_46) rfl rfl (pc' := 48) rfl ?_
  refine s_iload S538 (hb hby dAP01_48) rfl (pc' := 50) rfl ?_
  refine s_iinc S538 (hb hby dAP01_50) rfl (z := (sc + (1 : Int32))) rfl (L' := #[.val (.ref x), .val (.ref b), .val (.int (0 : Int32)), .val (.int (1 : Int32)), .val (.int sc), .val (.ref tb), .val (.int (0 : Int32)), .val (.int (sc + (1 : Int32))), .val (.int c0)]) rfl (pc' := 53) rfl ?_
  refine s_iload S538 (hb hby dAP01_53) rfl (pc' := 55) rfl ?_
  refine s_i2b S538 (hb hby dAP01_55) (z := (c0.toInt8.toInt32)) rfl (pc' := 56) rfl ?_
  show Go p e below _ (T538.setTop (mkF m 56 #[.val (.ref x), .val (.ref b), .val (.int (0 : Int32)), .val (.int (1 : Int32)), .val (.int sc), .val (.ref tb), .val (.int (0 : Int32)), .val (.int (sc + (1 : Int32))), .val (.int c0)] [(.int (c0.toInt8.toInt32)), (.int sc), (.ref tb)]))
  refine g_bastore S538 Vb ⟨own_nn (by omega), own_lt16 (by omega)⟩ (sc).toNatClampNeg rfl (by have e := own_nat (x := sc) (by omega); omega) nb sf539 (hb hby dAP01_56) ?_
  intro T540 h540 S540 K540 V540 sg540
  obtain ⟨bs540, V540, lb540⟩ : ∃ bs1 : List Value, Arv Z h540 tb kb .byte (16 : Int32) bs1 (.int (0 : Int32)) ∧ bs1.length = 16 := ⟨_, V540, by rw [List.length_set]; exact hbl⟩
  have sf541 := Safe.keep K540 (sfS sf539 sf0) S538.chv sf539
  show Go p e below _ (T540.setTop (mkF m 57 #[.val (.ref x), .val (.ref b), .val (.int (0 : Int32)), .val (.int (1 : Int32)), .val (.int sc), .val (.ref tb), .val (.int (0 : Int32)), .val (.int (sc + (1 : Int32))), .val (.int c0)] []))
  refine s_goto S540 (hb hby dAP01_57) (by decide) (pcT := 98) (by decide) ?_
  refine s_iinc S540 (hb hby dAP01_98) rfl (z := (1 : Int32)) rfl (L' := #[.val (.ref x), .val (.ref b), .val (.int (0 : Int32)), .val (.int (1 : Int32)), .val (.int sc), .val (.ref tb), .val (.int (1 : Int32)), .val (.int (sc + (1 : Int32))), .val (.int c0)]) rfl (pc' := 101) rfl ?_
  refine s_goto S540 (hb hby dAP01_101) (by decide) (pcT := 26) (by decide) ?_
  refine s_iload S540 (hb hby dAP01_26) rfl (pc' := 28) rfl ?_
  refine s_iloadN S540 (hb hby dAP01_28) rfl (pc' := 29) rfl ?_
  refine s_icmpY S540 (hb hby dAP01_29) (by decide) (by decide) (pcT := 104) (by decide) ?_
  refine s_goto S540 (hb hby dAP01_104) (by decide) (pcT := 119) (by decide) ?_
  refine s_aloadN S540 (hb hby dAP01_119) rfl rfl (pc' := 120) rfl ?_
  refine s_iload S540 (hb hby dAP01_120) rfl (pc' := 122) rfl ?_
  refine s_iloadN S540 (hb hby dAP01_122) rfl (pc' := 123) rfl ?_
  refine s_iadd S540 (hb hby dAP01_123) (z := (sc + (1 : Int32))) rfl (pc' := 124) rfl ?_
  refine s_iloadN S540 (hb hby dAP01_124) rfl (pc' := 125) rfl ?_
  refine s_isub S540 (hb hby dAP01_125) (z := ((sc + (1 : Int32)) - (0 : Int32))) rfl (pc' := 126) rfl ?_
  show Go p e below _ (T540.setTop (mkF m 126 #[.val (.ref x), .val (.ref b), .val (.int (0 : Int32)), .val (.int (1 : Int32)), .val (.int sc), .val (.ref tb), .val (.int (1 : Int32)), .val (.int (sc + (1 : Int32))), .val (.int c0)] [(.int ((sc + (1 : Int32)) - (0 : Int32))), (.ref x)]))
  have F543 := Fs.keep K540 (ninS nXB nin0)
  have F544 := Ex.keep K540
  have F545 := Fv.keep K540 (ninS nXB nin0)
  have F546 := Fk.keep K540 (ninS nXB nin0)
  refine g_putF S540 (w95 hw) Via.refl F543 F544 (Or.inl (w96 hw)) (w10 hw) (ty := .int) (v' := (.int ((sc + (1 : Int32)) - (0 : Int32)))) (by decide) rfl rfl nx (Safe.exa S540.warm.alike F544 (by decide) (by decide)) (hb hby dAP01_126) ?_
  intro T542 h542 S542 K542 W542 A542 F542 sg542
  have sf547 := Safe.keep K542 (sfS (Safe.exa S540.warm.alike F544 (by decide) (by decide)) sf0) S540.chv sg540
  have F548 := F545.other W542 (Or.inr (slot_ne (Or.inl (w26 hw)) (Or.inl (w96 hw)) (by decide) (t := (.array .byte)) (t' := .int) (by decide) (by decide)))
  have F549 := F546.other W542 (Or.inr (slot_ne (Or.inl (w28 hw)) (Or.inl (w96 hw)) (by decide) (t := .byte) (t' := .int) (by decide) (by decide)))
  show Go p e below _ (T542.setTop (mkF m 129 #[.val (.ref x), .val (.ref b), .val (.int (0 : Int32)), .val (.int (1 : Int32)), .val (.int sc), .val (.ref tb), .val (.int (1 : Int32)), .val (.int (sc + (1 : Int32))), .val (.int c0)] []))
  show Go p e below _ (T542.setTop (mkF m 129 #[.val (.ref x), .val (.ref b), .val (.int (0 : Int32)), .val (.int (1 : Int32)), .val (.int sc), .val (.ref tb), .val (.int (1 : Int32)), .val (.int (sc + (1 : Int32))), .val (.int c0)] []))
  have KA550 := (Keep.refl h538 [x, tb])
  have KA551 := (KA550.trans K540 (allS (Or.inl (by simp)) all0))
  have KA552 : Keep h538 h542 [x, tb] := (KA551.trans K542 (allS (Or.inl (by simp)) all0))
  have F553 := V540.keep K542 (ninS (Ne.symm nXB) nin0)
  exact g_ret S542 (hb hby dAP01_129) hret ⟨rfl, _, _, KA552, A542, F548, F549, F542, F553, lb540, own_cnt (1 : Int32) (0 : Int32) 1 0 rfl rfl h0 (by omega) (by omega) (by omega)⟩
theorem dAA01_0 : decode jdk_68_method_29_code 0 = .ok (.iload_n 2, 1) := by decide +kernel
theorem dAA01_1 : decode jdk_68_method_29_code 1 = .ok (.iload_n 3, 1) := by decide +kernel
theorem dAA01_2 : decode jdk_68_method_29_code 2 = .ok (.iadd, 1) := by decide +kernel
theorem dAA01_3 : decode jdk_68_method_29_code 3 = .ok (.istore 4, 2) := by decide +kernel
theorem dAA01_5 : decode jdk_68_method_29_code 5 = .ok (.iload_n 2, 1) := by decide +kernel
theorem dAA01_6 : decode jdk_68_method_29_code 6 = .ok (.iload 4, 2) := by decide +kernel
theorem dAA01_8 : decode jdk_68_method_29_code 8 = .ok (.aload_n 1, 1) := by decide +kernel
theorem dAA01_9 : decode jdk_68_method_29_code 9 = .ok (.arraylength, 1) := by decide +kernel
theorem dAA01_10 : decode jdk_68_method_29_code 10 = .ok (.getstatic 183, 3) := by decide +kernel
theorem dAA01_13 : decode jdk_68_method_29_code 13 = .ok (.invokestatic 161, 3) := by decide +kernel
theorem dAA01_16 : decode jdk_68_method_29_code 16 = .ok (.pop, 1) := by decide +kernel
theorem dAA01_17 : decode jdk_68_method_29_code 17 = .ok (.aload_n 0, 1) := by decide +kernel
theorem dAA01_18 : decode jdk_68_method_29_code 18 = .ok (.aload_n 0, 1) := by decide +kernel
theorem dAA01_19 : decode jdk_68_method_29_code 19 = .ok (.getfield 79, 3) := by decide +kernel
theorem dAA01_22 : decode jdk_68_method_29_code 22 = .ok (.iload_n 3, 1) := by decide +kernel
theorem dAA01_23 : decode jdk_68_method_29_code 23 = .ok (.iadd, 1) := by decide +kernel
theorem dAA01_24 : decode jdk_68_method_29_code 24 = .ok (.invokevirtual 100, 3) := by decide +kernel
theorem dAA01_27 : decode jdk_68_method_29_code 27 = .ok (.aload_n 0, 1) := by decide +kernel
theorem dAA01_28 : decode jdk_68_method_29_code 28 = .ok (.aload_n 1, 1) := by decide +kernel
theorem dAA01_29 : decode jdk_68_method_29_code 29 = .ok (.iload_n 2, 1) := by decide +kernel
theorem dAA01_30 : decode jdk_68_method_29_code 30 = .ok (.iload 4, 2) := by decide +kernel
theorem dAA01_32 : decode jdk_68_method_29_code 32 = .ok (.invokevirtual 239, 3) := by decide +kernel
theorem dAA01_35 : decode jdk_68_method_29_code 35 = .ok (.aload_n 0, 1) := by decide +kernel
theorem dAA01_36 : decode jdk_68_method_29_code 36 = .ok (.areturn, 1) := by decide +kernel
set_option maxRecDepth 65536 in
set_option maxHeartbeats 40000000 in
theorem rmAA01 {l : Launch} {Z : State} {a0 : Array Value} {n0 : Nat} (X : Ctx Z a0) {x tb : Addr} {kb : ClassId} {sc : Int32} {bs : List Value} {b : Addr} {kc : ClassId} {c0 c1 c2 : Int32} {dv : Value} (nx : n0 ≤ x) (nb : n0 ≤ tb) {h : Heap} (hO : Old Z n0 h) (Ex : Exa Z h x "java/lang/StringBuilder") (Fv : Fld Z h x "java/lang/AbstractStringBuilder" "value" "[B" (.ref tb)) (Fk : Fld Z h x "java/lang/AbstractStringBuilder" "coder" "B" (.int (0 : Int32))) (Fs : Fld Z h x "java/lang/AbstractStringBuilder" "count" "I" (.int sc)) (Vb : Arv Z h tb kb .byte (16 : Int32) bs (.int (0 : Int32))) (Vc : Arv Z h b kc .char (3 : Int32) [(.int c0), (.int c1), (.int c2)] dv) (rc0 : ¬ c0 < 0 ∧ ¬ (255 : Int32) < c0) (rc1 : ¬ c1 < 0 ∧ ¬ (255 : Int32) < c1) (rc2 : ¬ c2 < 0 ∧ ¬ (255 : Int32) < c2) (h0 : 0 ≤ sc.toInt) (h2 : sc.toInt + 1 ≤ 16) (hbl : bs.length = 16) :
    Ctr l Z EL1 n0 (⟨"java/lang/AbstractStringBuilder", "append", "([CII)Ljava/lang/AbstractStringBuilder;"⟩ : MethodName) jdk_68_method_29_code 5 (some (.object "java/lang/AbstractStringBuilder")) ({ frames := 2, cells := 0, slots := 0, locals := 32 } : Room) #[(.ref x), (.ref b), (.int (0 : Int32)), (.int (1 : Int32))] h [tb] (fun v h' => v = some (.ref x) ∧ ∃ (sc' : Int32) (bs' : List Value), Keep h h' [x, tb] ∧ Exa Z h' x "java/lang/StringBuilder" ∧ Fld Z h' x "java/lang/AbstractStringBuilder" "value" "[B" (.ref tb) ∧ Fld Z h' x "java/lang/AbstractStringBuilder" "coder" "B" (.int (0 : Int32)) ∧ Fld Z h' x "java/lang/AbstractStringBuilder" "count" "I" (.int sc') ∧ Arv Z h' tb kb .byte (16 : Int32) bs' (.int (0 : Int32)) ∧ bs'.length = 16 ∧ sc'.toInt = sc.toInt + 1) := by
  have hw := X.hw
  obtain ⟨z1, hz1, hz2⟩ := X.2.2.1
  refine Ctr.intro (a0 := a0) (plainFor_of_name pn0) hO X.ew ?_
  intro p e s m below meth c T0 V0 S0 hby hml hret hnm hsf
  rw [ef16]
  obtain ⟨fm, hfm, rfm⟩ := X.2.2.2.2
  rcases ref_cases rfm with rfl | ⟨fb, rfl⟩
  · skip
    have nXB : x ≠ tb := Exa.neArv Ex Vb (w10 hw)
    have nXC : x ≠ b := Exa.neArv Ex Vc (w10 hw)
    have nBC : tb ≠ b := arv_kne Vb Vc (by decide)
    have em := own_addl (x := sc) (1 : Int32) 1 rfl h0 (by omega) (by omega)
    show Go p e below _ (T0.setTop (mkF m 0 #[.val (.ref x), .val (.ref b), .val (.int (0 : Int32)), .val (.int (1 : Int32)), .unset] []))
    refine s_iloadN S0 (hb hby dAA01_0) rfl (pc' := 1) rfl ?_
    refine s_iloadN S0 (hb hby dAA01_1) rfl (pc' := 2) rfl ?_
    refine s_iadd S0 (hb hby dAA01_2) (z := (1 : Int32)) rfl (pc' := 3) rfl ?_
    refine s_istore S0 (hb hby dAA01_3) (L' := #[.val (.ref x), .val (.ref b), .val (.int (0 : Int32)), .val (.int (1 : Int32)), .val (.int (1 : Int32))]) rfl (pc' := 5) rfl ?_
    refine s_iloadN S0 (hb hby dAA01_5) rfl (pc' := 6) rfl ?_
    refine s_iload S0 (hb hby dAA01_6) rfl (pc' := 8) rfl ?_
    refine s_aloadN S0 (hb hby dAA01_8) rfl rfl (pc' := 9) rfl ?_
    refine g_len S0 Vc (hb hby dAA01_9) ?_
    show Go p e below _ (T0.setTop (mkF m 10 #[.val (.ref x), .val (.ref b), .val (.int (0 : Int32)), .val (.int (1 : Int32)), .val (.int (1 : Int32))] [(.int (3 : Int32)), (.int (1 : Int32)), (.int (0 : Int32))]))
    refine g_getS S0 (w169 hw) Via.refl (hfm.ext S0.old.2) (hb hby dAA01_10) ?_
    intro T554 ST554
    show Go p e below _ (T554.setTop (mkF m 13 #[.val (.ref x), .val (.ref b), .val (.int (0 : Int32)), .val (.int (1 : Int32)), .val (.int (1 : Int32))] [.null, (.int (3 : Int32)), (.int (1 : Int32)), (.int (0 : Int32))]))
    show Go p e below _ (T554.setTop (mkF m 13 #[.val (.ref x), .val (.ref b), .val (.int (0 : Int32)), .val (.int (1 : Int32)), .val (.int (1 : Int32))] [.null, (.int (3 : Int32)), (.int (1 : Int32)), (.int (0 : Int32))]))
    refine g_static ST554 (rmCF013n X ST554.old) (fun _ q => nomatch q) (w172 hw) (w173 hw) (w170 hw) (w174 hw) (by decide) (hb hby dAA01_13) (by rw [hml]; rfl) [(.int (0 : Int32)), (.int (1 : Int32)), (.int (3 : Int32)), .null] (lenOf pd17 rfl) rfl rfl (Nat.le_of_ble_eq_true rfl) (Nat.le_of_ble_eq_true rfl) (Nat.le_of_ble_eq_true rfl) (Nat.le_of_ble_eq_true rfl) ?_
    intro v555 T555 V555 h555 S555 C555 q555
    obtain ⟨rfl, rfl⟩ := q555
    have sf556 := C555.safe Vb.lt (hsf tb List.mem_cons_self)
    show Go p e below _ (T555.setTop (mkF m 16 #[.val (.ref x), .val (.ref b), .val (.int (0 : Int32)), .val (.int (1 : Int32)), .val (.int (1 : Int32))] [(.int (0 : Int32))]))
    refine s_pop S555 (hb hby dAA01_16) rfl (pc' := 17) rfl ?_
    refine s_aloadN S555 (hb hby dAA01_17) rfl rfl (pc' := 18) rfl ?_
    refine s_aloadN S555 (hb hby dAA01_18) rfl rfl (pc' := 19) rfl ?_
    refine g_getF S555 (w95 hw) Via.refl Fs (hb hby dAA01_19) ?_
    intro T557 ST557
    show Go p e below _ (T557.setTop (mkF m 22 #[.val (.ref x), .val (.ref b), .val (.int (0 : Int32)), .val (.int (1 : Int32)), .val (.int (1 : Int32))] [(.int sc), (.ref x)]))
    refine s_iloadN ST557 (hb hby dAA01_22) rfl (pc' := 23) rfl ?_
    refine s_iadd ST557 (hb hby dAA01_23) (z := (sc + (1 : Int32))) rfl (pc' := 24) rfl ?_
    show Go p e below _ (T557.setTop (mkF m 24 #[.val (.ref x), .val (.ref b), .val (.int (0 : Int32)), .val (.int (1 : Int32)), .val (.int (1 : Int32))] [(.int (sc + (1 : Int32))), (.ref x)]))
    refine g_private ST557 (rmEG X ST557.old Ex Fv Fk Fs Vb (by omega) (by omega)) (fun _ q => nomatch q) (w97 hw) (ni_sel (w100 hw) rfl) (w99 hw) (w98 hw) (w19 hw) (w101 hw) (by decide) (hb hby dAA01_24) (by rw [hml]; rfl) x Ex [(.int (sc + (1 : Int32)))] (lenOf pd0 rfl) rfl rfl (Nat.le_of_ble_eq_true rfl) (Nat.le_of_ble_eq_true rfl) (Nat.le_of_ble_eq_true rfl) (Nat.le_of_ble_eq_true rfl) ?_
    intro v558 T558 V558 h558 S558 C558 q558
    obtain ⟨rfl, rfl⟩ := q558
    have sf559 := C558.safe Vb.lt sf556
    show Go p e below _ (T558.setTop (mkF m 27 #[.val (.ref x), .val (.ref b), .val (.int (0 : Int32)), .val (.int (1 : Int32)), .val (.int (1 : Int32))] []))
    refine s_aloadN S558 (hb hby dAA01_27) rfl rfl (pc' := 28) rfl ?_
    refine s_aloadN S558 (hb hby dAA01_28) rfl rfl (pc' := 29) rfl ?_
    refine s_iloadN S558 (hb hby dAA01_29) rfl (pc' := 30) rfl ?_
    refine s_iload S558 (hb hby dAA01_30) rfl (pc' := 32) rfl ?_
    show Go p e below _ (T558.setTop (mkF m 32 #[.val (.ref x), .val (.ref b), .val (.int (0 : Int32)), .val (.int (1 : Int32)), .val (.int (1 : Int32))] [(.int (1 : Int32)), (.int (0 : Int32)), (.ref b), (.ref x)]))
    refine g_private S558 (rmAP01 X nx nb S558.old Ex Fv Fk Fs Vb Vc rc0 rc1 rc2 h0 h2 hbl) (sf1 Vb.lt sf559) (w175 hw) (ni_sel (w100 hw) rfl) (w177 hw) (w176 hw) (w19 hw) (w179 hw) (by decide) (hb hby dAA01_32) (by rw [hml]; rfl) x Ex [(.ref b), (.int (0 : Int32)), (.int (1 : Int32))] (lenOf pd18 rfl) rfl rfl (Nat.le_of_ble_eq_true rfl) (Nat.le_of_ble_eq_true rfl) (Nat.le_of_ble_eq_true rfl) (Nat.le_of_ble_eq_true rfl) ?_
    intro v560 T560 V560 h560 S560 C560 q560
    obtain ⟨rfl, q1⟩ := q560
    have sf561 := C560.safe Vb.lt sf559
    show Go p e below _ (T560.setTop (mkF m 35 #[.val (.ref x), .val (.ref b), .val (.int (0 : Int32)), .val (.int (1 : Int32)), .val (.int (1 : Int32))] []))
    refine s_aloadN S560 (hb hby dAA01_35) rfl rfl (pc' := 36) rfl ?_
    exact g_aret S560 (hb hby dAA01_36) hret rfl rfl rfl ⟨rfl, q1⟩
  · skip
    have nXB : x ≠ tb := Exa.neArv Ex Vb (w10 hw)
    have nXC : x ≠ b := Exa.neArv Ex Vc (w10 hw)
    have nBC : tb ≠ b := arv_kne Vb Vc (by decide)
    have em := own_addl (x := sc) (1 : Int32) 1 rfl h0 (by omega) (by omega)
    show Go p e below _ (T0.setTop (mkF m 0 #[.val (.ref x), .val (.ref b), .val (.int (0 : Int32)), .val (.int (1 : Int32)), .unset] []))
    refine s_iloadN S0 (hb hby dAA01_0) rfl (pc' := 1) rfl ?_
    refine s_iloadN S0 (hb hby dAA01_1) rfl (pc' := 2) rfl ?_
    refine s_iadd S0 (hb hby dAA01_2) (z := (1 : Int32)) rfl (pc' := 3) rfl ?_
    refine s_istore S0 (hb hby dAA01_3) (L' := #[.val (.ref x), .val (.ref b), .val (.int (0 : Int32)), .val (.int (1 : Int32)), .val (.int (1 : Int32))]) rfl (pc' := 5) rfl ?_
    refine s_iloadN S0 (hb hby dAA01_5) rfl (pc' := 6) rfl ?_
    refine s_iload S0 (hb hby dAA01_6) rfl (pc' := 8) rfl ?_
    refine s_aloadN S0 (hb hby dAA01_8) rfl rfl (pc' := 9) rfl ?_
    refine g_len S0 Vc (hb hby dAA01_9) ?_
    show Go p e below _ (T0.setTop (mkF m 10 #[.val (.ref x), .val (.ref b), .val (.int (0 : Int32)), .val (.int (1 : Int32)), .val (.int (1 : Int32))] [(.int (3 : Int32)), (.int (1 : Int32)), (.int (0 : Int32))]))
    refine g_getS S0 (w169 hw) Via.refl (hfm.ext S0.old.2) (hb hby dAA01_10) ?_
    intro T562 ST562
    show Go p e below _ (T562.setTop (mkF m 13 #[.val (.ref x), .val (.ref b), .val (.int (0 : Int32)), .val (.int (1 : Int32)), .val (.int (1 : Int32))] [(.ref fb), (.int (3 : Int32)), (.int (1 : Int32)), (.int (0 : Int32))]))
    show Go p e below _ (T562.setTop (mkF m 13 #[.val (.ref x), .val (.ref b), .val (.int (0 : Int32)), .val (.int (1 : Int32)), .val (.int (1 : Int32))] [(.ref fb), (.int (3 : Int32)), (.int (1 : Int32)), (.int (0 : Int32))]))
    refine g_static ST562 (rmCF013r X fb ST562.old) (fun _ q => nomatch q) (w172 hw) (w173 hw) (w170 hw) (w174 hw) (by decide) (hb hby dAA01_13) (by rw [hml]; rfl) [(.int (0 : Int32)), (.int (1 : Int32)), (.int (3 : Int32)), (.ref fb)] (lenOf pd17 rfl) rfl rfl (Nat.le_of_ble_eq_true rfl) (Nat.le_of_ble_eq_true rfl) (Nat.le_of_ble_eq_true rfl) (Nat.le_of_ble_eq_true rfl) ?_
    intro v563 T563 V563 h563 S563 C563 q563
    obtain ⟨rfl, rfl⟩ := q563
    have sf564 := C563.safe Vb.lt (hsf tb List.mem_cons_self)
    show Go p e below _ (T563.setTop (mkF m 16 #[.val (.ref x), .val (.ref b), .val (.int (0 : Int32)), .val (.int (1 : Int32)), .val (.int (1 : Int32))] [(.int (0 : Int32))]))
    refine s_pop S563 (hb hby dAA01_16) rfl (pc' := 17) rfl ?_
    refine s_aloadN S563 (hb hby dAA01_17) rfl rfl (pc' := 18) rfl ?_
    refine s_aloadN S563 (hb hby dAA01_18) rfl rfl (pc' := 19) rfl ?_
    refine g_getF S563 (w95 hw) Via.refl Fs (hb hby dAA01_19) ?_
    intro T565 ST565
    show Go p e below _ (T565.setTop (mkF m 22 #[.val (.ref x), .val (.ref b), .val (.int (0 : Int32)), .val (.int (1 : Int32)), .val (.int (1 : Int32))] [(.int sc), (.ref x)]))
    refine s_iloadN ST565 (hb hby dAA01_22) rfl (pc' := 23) rfl ?_
    refine s_iadd ST565 (hb hby dAA01_23) (z := (sc + (1 : Int32))) rfl (pc' := 24) rfl ?_
    show Go p e below _ (T565.setTop (mkF m 24 #[.val (.ref x), .val (.ref b), .val (.int (0 : Int32)), .val (.int (1 : Int32)), .val (.int (1 : Int32))] [(.int (sc + (1 : Int32))), (.ref x)]))
    refine g_private ST565 (rmEG X ST565.old Ex Fv Fk Fs Vb (by omega) (by omega)) (fun _ q => nomatch q) (w97 hw) (ni_sel (w100 hw) rfl) (w99 hw) (w98 hw) (w19 hw) (w101 hw) (by decide) (hb hby dAA01_24) (by rw [hml]; rfl) x Ex [(.int (sc + (1 : Int32)))] (lenOf pd0 rfl) rfl rfl (Nat.le_of_ble_eq_true rfl) (Nat.le_of_ble_eq_true rfl) (Nat.le_of_ble_eq_true rfl) (Nat.le_of_ble_eq_true rfl) ?_
    intro v566 T566 V566 h566 S566 C566 q566
    obtain ⟨rfl, rfl⟩ := q566
    have sf567 := C566.safe Vb.lt sf564
    show Go p e below _ (T566.setTop (mkF m 27 #[.val (.ref x), .val (.ref b), .val (.int (0 : Int32)), .val (.int (1 : Int32)), .val (.int (1 : Int32))] []))
    refine s_aloadN S566 (hb hby dAA01_27) rfl rfl (pc' := 28) rfl ?_
    refine s_aloadN S566 (hb hby dAA01_28) rfl rfl (pc' := 29) rfl ?_
    refine s_iloadN S566 (hb hby dAA01_29) rfl (pc' := 30) rfl ?_
    refine s_iload S566 (hb hby dAA01_30) rfl (pc' := 32) rfl ?_
    show Go p e below _ (T566.setTop (mkF m 32 #[.val (.ref x), .val (.ref b), .val (.int (0 : Int32)), .val (.int (1 : Int32)), .val (.int (1 : Int32))] [(.int (1 : Int32)), (.int (0 : Int32)), (.ref b), (.ref x)]))
    refine g_private S566 (rmAP01 X nx nb S566.old Ex Fv Fk Fs Vb Vc rc0 rc1 rc2 h0 h2 hbl) (sf1 Vb.lt sf567) (w175 hw) (ni_sel (w100 hw) rfl) (w177 hw) (w176 hw) (w19 hw) (w179 hw) (by decide) (hb hby dAA01_32) (by rw [hml]; rfl) x Ex [(.ref b), (.int (0 : Int32)), (.int (1 : Int32))] (lenOf pd18 rfl) rfl rfl (Nat.le_of_ble_eq_true rfl) (Nat.le_of_ble_eq_true rfl) (Nat.le_of_ble_eq_true rfl) (Nat.le_of_ble_eq_true rfl) ?_
    intro v568 T568 V568 h568 S568 C568 q568
    obtain ⟨rfl, q1⟩ := q568
    have sf569 := C568.safe Vb.lt sf567
    show Go p e below _ (T568.setTop (mkF m 35 #[.val (.ref x), .val (.ref b), .val (.int (0 : Int32)), .val (.int (1 : Int32)), .val (.int (1 : Int32))] []))
    refine s_aloadN S568 (hb hby dAA01_35) rfl rfl (pc' := 36) rfl ?_
    exact g_aret S568 (hb hby dAA01_36) hret rfl rfl rfl ⟨rfl, q1⟩
theorem dSA01_0 : decode jdk_67_method_12_code 0 = .ok (.aload_n 0, 1) := by decide +kernel
theorem dSA01_1 : decode jdk_67_method_12_code 1 = .ok (.aload_n 1, 1) := by decide +kernel
theorem dSA01_2 : decode jdk_67_method_12_code 2 = .ok (.iload_n 2, 1) := by decide +kernel
theorem dSA01_3 : decode jdk_67_method_12_code 3 = .ok (.iload_n 3, 1) := by decide +kernel
theorem dSA01_4 : decode jdk_67_method_12_code 4 = .ok (.invokespecial 44, 3) := by decide +kernel
theorem dSA01_7 : decode jdk_67_method_12_code 7 = .ok (.pop, 1) := by decide +kernel
theorem dSA01_8 : decode jdk_67_method_12_code 8 = .ok (.aload_n 0, 1) := by decide +kernel
theorem dSA01_9 : decode jdk_67_method_12_code 9 = .ok (.areturn, 1) := by decide +kernel
set_option maxRecDepth 65536 in
set_option maxHeartbeats 40000000 in
theorem rmSA01 {l : Launch} {Z : State} {a0 : Array Value} {n0 : Nat} (X : Ctx Z a0) {x tb : Addr} {kb : ClassId} {sc : Int32} {bs : List Value} {b : Addr} {kc : ClassId} {c0 c1 c2 : Int32} {dv : Value} (nx : n0 ≤ x) (nb : n0 ≤ tb) {h : Heap} (hO : Old Z n0 h) (Ex : Exa Z h x "java/lang/StringBuilder") (Fv : Fld Z h x "java/lang/AbstractStringBuilder" "value" "[B" (.ref tb)) (Fk : Fld Z h x "java/lang/AbstractStringBuilder" "coder" "B" (.int (0 : Int32))) (Fs : Fld Z h x "java/lang/AbstractStringBuilder" "count" "I" (.int sc)) (Vb : Arv Z h tb kb .byte (16 : Int32) bs (.int (0 : Int32))) (Vc : Arv Z h b kc .char (3 : Int32) [(.int c0), (.int c1), (.int c2)] dv) (rc0 : ¬ c0 < 0 ∧ ¬ (255 : Int32) < c0) (rc1 : ¬ c1 < 0 ∧ ¬ (255 : Int32) < c1) (rc2 : ¬ c2 < 0 ∧ ¬ (255 : Int32) < c2) (h0 : 0 ≤ sc.toInt) (h2 : sc.toInt + 1 ≤ 16) (hbl : bs.length = 16) :
    Ctr l Z EL1 n0 (⟨"java/lang/StringBuilder", "append", "([CII)Ljava/lang/StringBuilder;"⟩ : MethodName) jdk_67_method_12_code 4 (some (.object "java/lang/StringBuilder")) ({ frames := 3, cells := 0, slots := 0, locals := 48 } : Room) #[(.ref x), (.ref b), (.int (0 : Int32)), (.int (1 : Int32))] h [tb] (fun v h' => v = some (.ref x) ∧ ∃ (sc' : Int32) (bs' : List Value), Keep h h' [x, tb] ∧ Exa Z h' x "java/lang/StringBuilder" ∧ Fld Z h' x "java/lang/AbstractStringBuilder" "value" "[B" (.ref tb) ∧ Fld Z h' x "java/lang/AbstractStringBuilder" "coder" "B" (.int (0 : Int32)) ∧ Fld Z h' x "java/lang/AbstractStringBuilder" "count" "I" (.int sc') ∧ Arv Z h' tb kb .byte (16 : Int32) bs' (.int (0 : Int32)) ∧ bs'.length = 16 ∧ sc'.toInt = sc.toInt + 1) := by
  have hw := X.hw
  obtain ⟨z1, hz1, hz2⟩ := X.2.2.1
  refine Ctr.intro (a0 := a0) (plainFor_of_name pn1) hO X.ew ?_
  intro p e s m below meth c T0 V0 S0 hby hml hret hnm hsf
  rw [ef8]
  have nXB : x ≠ tb := Exa.neArv Ex Vb (w10 hw)
  have nXC : x ≠ b := Exa.neArv Ex Vc (w10 hw)
  have nBC : tb ≠ b := arv_kne Vb Vc (by decide)
  show Go p e below _ (T0.setTop (mkF m 0 #[.val (.ref x), .val (.ref b), .val (.int (0 : Int32)), .val (.int (1 : Int32))] []))
  refine s_aloadN S0 (hb hby dSA01_0) rfl rfl (pc' := 1) rfl ?_
  refine s_aloadN S0 (hb hby dSA01_1) rfl rfl (pc' := 2) rfl ?_
  refine s_iloadN S0 (hb hby dSA01_2) rfl (pc' := 3) rfl ?_
  refine s_iloadN S0 (hb hby dSA01_3) rfl (pc' := 4) rfl ?_
  show Go p e below _ (T0.setTop (mkF m 4 #[.val (.ref x), .val (.ref b), .val (.int (0 : Int32)), .val (.int (1 : Int32))] [(.int (1 : Int32)), (.int (0 : Int32)), (.ref b), (.ref x)]))
  refine g_super S0 (rmAA01 X nx nb S0.old Ex Fv Fk Fs Vb Vc rc0 rc1 rc2 h0 h2 hbl) (sf1 Vb.lt (hsf tb List.mem_cons_self)) (by decide) (w165 hw) (ni_sel (w100 hw) rfl) (w166 hw) (w82 hw) (w19 hw) (w168 hw) (by decide) (hb hby dSA01_4) (by rw [hml]; rfl) x Ex [(.ref b), (.int (0 : Int32)), (.int (1 : Int32))] (lenOf pd19 rfl) rfl rfl (Nat.le_of_ble_eq_true rfl) (Nat.le_of_ble_eq_true rfl) (Nat.le_of_ble_eq_true rfl) (Nat.le_of_ble_eq_true rfl) ?_
  intro v570 T570 V570 h570 S570 C570 q570
  obtain ⟨rfl, q1⟩ := q570
  have sf571 := C570.safe Vb.lt (hsf tb List.mem_cons_self)
  show Go p e below _ (T570.setTop (mkF m 7 #[.val (.ref x), .val (.ref b), .val (.int (0 : Int32)), .val (.int (1 : Int32))] [(.ref x)]))
  refine s_pop S570 (hb hby dSA01_7) rfl (pc' := 8) rfl ?_
  refine s_aloadN S570 (hb hby dSA01_8) rfl rfl (pc' := 9) rfl ?_
  exact g_aret S570 (hb hby dSA01_9) hret rfl rfl rfl ⟨rfl, q1⟩
theorem dAP02_0 : decode jdk_68_method_74_code 0 = .ok (.aload_n 0, 1) := by decide +kernel
theorem dAP02_1 : decode jdk_68_method_74_code 1 = .ok (.getfield 79, 3) := by decide +kernel
theorem dAP02_4 : decode jdk_68_method_74_code 4 = .ok (.istore 4, 2) := by decide +kernel
theorem dAP02_6 : decode jdk_68_method_74_code 6 = .ok (.aload_n 0, 1) := by decide +kernel
theorem dAP02_7 : decode jdk_68_method_74_code 7 = .ok (.invokevirtual 83, 3) := by decide +kernel
theorem dAP02_10 : decode jdk_68_method_74_code 10 = .ok (.ifCond .eq 97, 3) := by decide +kernel
theorem dAP02_13 : decode jdk_68_method_74_code 13 = .ok (.aload_n 0, 1) := by decide +kernel
theorem dAP02_14 : decode jdk_68_method_74_code 14 = .ok (.getfield 15, 3) := by decide +kernel
theorem dAP02_17 : decode jdk_68_method_74_code 17 = .ok (.astore 5, 2) := by decide +kernel
theorem dAP02_19 : decode jdk_68_method_74_code 19 = .ok (.iload_n 2, 1) := by decide +kernel
theorem dAP02_20 : decode jdk_68_method_74_code 20 = .ok (.istore 6, 2) := by decide +kernel
theorem dAP02_22 : decode jdk_68_method_74_code 22 = .ok (.iload 4, 2) := by decide +kernel
theorem dAP02_24 : decode jdk_68_method_74_code 24 = .ok (.istore 7, 2) := by decide +kernel
theorem dAP02_26 : decode jdk_68_method_74_code 26 = .ok (.iload 6, 2) := by decide +kernel
theorem dAP02_28 : decode jdk_68_method_74_code 28 = .ok (.iload_n 3, 1) := by decide +kernel
theorem dAP02_29 : decode jdk_68_method_74_code 29 = .ok (.if_icmp .ge 75, 3) := by decide +kernel
theorem dAP02_32 : decode jdk_68_method_74_code 32 = .ok (.aload_n 1, 1) := by decide +kernel
theorem dAP02_33 : decode jdk_68_method_74_code 33 = .ok (.iload 6, 2) := by decide +kernel
theorem dAP02_35 : decode jdk_68_method_74_code 35 = .ok (.caload, 1) := by decide +kernel
theorem dAP02_36 : decode jdk_68_method_74_code 36 = .ok (.istore 8, 2) := by decide +kernel
theorem dAP02_38 : decode jdk_68_method_74_code 38 = .ok (.iload 8, 2) := by decide +kernel
theorem dAP02_40 : decode jdk_68_method_74_code 40 = .ok (.invokestatic 191, 3) := by decide +kernel
theorem dAP02_43 : decode jdk_68_method_74_code 43 = .ok (.ifCond .eq 17, 3) := by decide +kernel
theorem dAP02_46 : decode jdk_68_method_74_code 46 = .ok (.aload 5, 2) := by decide +kernel
theorem dAP02_48 : decode jdk_68_method_74_code 48 = .ok (.iload 7, 2) := by decide +kernel
theorem dAP02_50 : decode jdk_68_method_74_code 50 = .ok (.iinc 7 1, 3) := by decide +kernel
theorem dAP02_53 : decode jdk_68_method_74_code 53 = .ok (.iload 8, 2) := by decide +kernel
theorem dAP02_55 : decode jdk_68_method_74_code 55 = .ok (.i2b, 1) := by decide +kernel
theorem dAP02_56 : decode jdk_68_method_74_code 56 = .ok (.bastore, 1) := by decide +kernel
theorem dAP02_57 : decode jdk_68_method_74_code 57 = .ok (.goto 41, 3) := by decide +kernel
theorem dAP02_98 : decode jdk_68_method_74_code 98 = .ok (.iinc 6 1, 3) := by decide +kernel
theorem dAP02_101 : decode jdk_68_method_74_code 101 = .ok (.goto (-75), 3) := by decide +kernel
theorem dAP02_104 : decode jdk_68_method_74_code 104 = .ok (.goto 15, 3) := by decide +kernel
theorem dAP02_119 : decode jdk_68_method_74_code 119 = .ok (.aload_n 0, 1) := by decide +kernel
theorem dAP02_120 : decode jdk_68_method_74_code 120 = .ok (.iload 4, 2) := by decide +kernel
theorem dAP02_122 : decode jdk_68_method_74_code 122 = .ok (.iload_n 3, 1) := by decide +kernel
theorem dAP02_123 : decode jdk_68_method_74_code 123 = .ok (.iadd, 1) := by decide +kernel
theorem dAP02_124 : decode jdk_68_method_74_code 124 = .ok (.iload_n 2, 1) := by decide +kernel
theorem dAP02_125 : decode jdk_68_method_74_code 125 = .ok (.isub, 1) := by decide +kernel
theorem dAP02_126 : decode jdk_68_method_74_code 126 = .ok (.putfield 79, 3) := by decide +kernel
theorem dAP02_129 : decode jdk_68_method_74_code 129 = .ok (.return_, 1) := by decide +kernel
set_option maxRecDepth 65536 in
set_option maxHeartbeats 40000000 in
theorem rmAP02 {l : Launch} {Z : State} {a0 : Array Value} {n0 : Nat} (X : Ctx Z a0) {x tb : Addr} {kb : ClassId} {sc : Int32} {bs : List Value} {b : Addr} {kc : ClassId} {c0 c1 c2 : Int32} {dv : Value} (nx : n0 ≤ x) (nb : n0 ≤ tb) {h : Heap} (hO : Old Z n0 h) (Ex : Exa Z h x "java/lang/StringBuilder") (Fv : Fld Z h x "java/lang/AbstractStringBuilder" "value" "[B" (.ref tb)) (Fk : Fld Z h x "java/lang/AbstractStringBuilder" "coder" "B" (.int (0 : Int32))) (Fs : Fld Z h x "java/lang/AbstractStringBuilder" "count" "I" (.int sc)) (Vb : Arv Z h tb kb .byte (16 : Int32) bs (.int (0 : Int32))) (Vc : Arv Z h b kc .char (3 : Int32) [(.int c0), (.int c1), (.int c2)] dv) (rc0 : ¬ c0 < 0 ∧ ¬ (255 : Int32) < c0) (rc1 : ¬ c1 < 0 ∧ ¬ (255 : Int32) < c1) (rc2 : ¬ c2 < 0 ∧ ¬ (255 : Int32) < c2) (h0 : 0 ≤ sc.toInt) (h2 : sc.toInt + 2 ≤ 16) (hbl : bs.length = 16) :
    Ctr l Z EL1 n0 (⟨"java/lang/AbstractStringBuilder", "appendChars", "([CII)V"⟩ : MethodName) jdk_68_method_74_code 9 none ({ frames := 1, cells := 0, slots := 0, locals := 12 } : Room) #[(.ref x), (.ref b), (.int (0 : Int32)), (.int (2 : Int32))] h [tb] (fun v h' => v = none ∧ ∃ (sc' : Int32) (bs' : List Value), Keep h h' [x, tb] ∧ Exa Z h' x "java/lang/StringBuilder" ∧ Fld Z h' x "java/lang/AbstractStringBuilder" "value" "[B" (.ref tb) ∧ Fld Z h' x "java/lang/AbstractStringBuilder" "coder" "B" (.int (0 : Int32)) ∧ Fld Z h' x "java/lang/AbstractStringBuilder" "count" "I" (.int sc') ∧ Arv Z h' tb kb .byte (16 : Int32) bs' (.int (0 : Int32)) ∧ bs'.length = 16 ∧ sc'.toInt = sc.toInt + 2) := by
  have hw := X.hw
  obtain ⟨z1, hz1, hz2⟩ := X.2.2.1
  refine Ctr.intro (a0 := a0) (plainFor_of_name pn0) hO X.ew ?_
  intro p e s m below meth c T0 V0 S0 hby hml hret hnm hsf
  rw [ef15]
  have nXB : x ≠ tb := Exa.neArv Ex Vb (w10 hw)
  have nXC : x ≠ b := Exa.neArv Ex Vc (w10 hw)
  have nBC : tb ≠ b := arv_kne Vb Vc (by decide)
  have ei1 : (sc + (1 : Int32)).toInt = sc.toInt + 1 := by rw [own_inc h0 (by omega)]
  show Go p e below _ (T0.setTop (mkF m 0 #[.val (.ref x), .val (.ref b), .val (.int (0 : Int32)), .val (.int (2 : Int32)), .unset, .unset, .unset, .unset, .unset] []))
  refine s_aloadN S0 (hb hby dAP02_0) rfl rfl (pc' := 1) rfl ?_
  refine g_getF S0 (w95 hw) Via.refl Fs (hb hby dAP02_1) ?_
  intro T572 ST572
  show Go p e below _ (T572.setTop (mkF m 4 #[.val (.ref x), .val (.ref b), .val (.int (0 : Int32)), .val (.int (2 : Int32)), .unset, .unset, .unset, .unset, .unset] [(.int sc)]))
  refine s_istore ST572 (hb hby dAP02_4) (L' := #[.val (.ref x), .val (.ref b), .val (.int (0 : Int32)), .val (.int (2 : Int32)), .val (.int sc), .unset, .unset, .unset, .unset]) rfl (pc' := 6) rfl ?_
  refine s_aloadN ST572 (hb hby dAP02_6) rfl rfl (pc' := 7) rfl ?_
  show Go p e below _ (T572.setTop (mkF m 7 #[.val (.ref x), .val (.ref b), .val (.int (0 : Int32)), .val (.int (2 : Int32)), .val (.int sc), .unset, .unset, .unset, .unset] [(.ref x)]))
  refine g_virtual ST572 (rmIL X ST572.old Ex Fv Fk Fs) (fun _ q => nomatch q) (w180 hw) (w181 hw) (w183 hw) (w182 hw) (w19 hw) (w184 hw) (by decide) (fun _ h => notFace_of_selects h) (hb hby dAP02_7) (by rw [hml]; rfl) x Ex [] (lenOf pd16 rfl) rfl rfl (Nat.le_of_ble_eq_true rfl) (Nat.le_of_ble_eq_true rfl) (Nat.le_of_ble_eq_true rfl) (Nat.le_of_ble_eq_true rfl) ?_
  intro v573 T573 V573 h573 S573 C573 q573
  obtain ⟨rfl, rfl⟩ := q573
  have sf574 := C573.safe Vb.lt (hsf tb List.mem_cons_self)
  show Go p e below _ (T573.setTop (mkF m 10 #[.val (.ref x), .val (.ref b), .val (.int (0 : Int32)), .val (.int (2 : Int32)), .val (.int sc), .unset, .unset, .unset, .unset] [(.int (1 : Int32))]))
  refine s_ifN S573 (hb hby dAP02_10) (by decide) (pc' := 13) rfl ?_
  refine s_aloadN S573 (hb hby dAP02_13) rfl rfl (pc' := 14) rfl ?_
  refine g_getF S573 (w25 hw) Via.refl Fv (hb hby dAP02_14) ?_
  intro T575 ST575
  show Go p e below _ (T575.setTop (mkF m 17 #[.val (.ref x), .val (.ref b), .val (.int (0 : Int32)), .val (.int (2 : Int32)), .val (.int sc), .unset, .unset, .unset, .unset] [(.ref tb)]))
  refine s_astore ST575 (hb hby dAP02_17) rfl (L' := #[.val (.ref x), .val (.ref b), .val (.int (0 : Int32)), .val (.int (2 : Int32)), .val (.int sc), .val (.ref tb), .unset, .unset, .unset]) rfl (pc' := 19) rfl ?_
  refine s_iloadN ST575 (hb hby dAP02_19) rfl (pc' := 20) rfl ?_
  refine s_istore ST575 (hb hby dAP02_20) (L' := #[.val (.ref x), .val (.ref b), .val (.int (0 : Int32)), .val (.int (2 : Int32)), .val (.int sc), .val (.ref tb), .val (.int (0 : Int32)), .unset, .unset]) rfl (pc' := 22) rfl ?_
  refine s_iload ST575 (hb hby dAP02_22) rfl (pc' := 24) rfl ?_
  refine s_istore ST575 (hb hby dAP02_24) (L' := #[.val (.ref x), .val (.ref b), .val (.int (0 : Int32)), .val (.int (2 : Int32)), .val (.int sc), .val (.ref tb), .val (.int (0 : Int32)), .val (.int sc), .unset]) rfl (pc' := 26) rfl ?_
  refine s_iload ST575 (hb hby dAP02_26) rfl (pc' := 28) rfl ?_
  refine s_iloadN ST575 (hb hby dAP02_28) rfl (pc' := 29) rfl ?_
  refine s_icmpN ST575 (hb hby dAP02_29) (by decide) (pc' := 32) rfl ?_
  refine s_aloadN ST575 (hb hby dAP02_32) rfl rfl (pc' := 33) rfl ?_
  refine s_iload ST575 (hb hby dAP02_33) rfl (pc' := 35) rfl ?_
  refine g_caload ST575 Vc ⟨by decide, by decide⟩ (x := c0) rfl (hb hby dAP02_35) ?_
  show Go p e below _ (T575.setTop (mkF m 36 #[.val (.ref x), .val (.ref b), .val (.int (0 : Int32)), .val (.int (2 : Int32)), .val (.int sc), .val (.ref tb), .val (.int (0 : Int32)), .val (.int sc), .unset] [(.int c0)]))
  refine s_istore ST575 (hb hby dAP02_36) (L' := #[.val (.ref x), .val (.ref b), .val (.int (0 : Int32)), .val (.int (2 : Int32)), .val (.int sc), .val (.ref tb), .val (.int (0 : Int32)), .val (.int sc), .val (.int c0)]) rfl (pc' := 38) rfl ?_
  refine s_iload ST575 (hb hby dAP02_38) rfl (pc' := 40) rfl ?_
  show Go p e below _ (T575.setTop (mkF m 40 #[.val (.ref x), .val (.ref b), .val (.int (0 : Int32)), .val (.int (2 : Int32)), .val (.int sc), .val (.ref tb), .val (.int (0 : Int32)), .val (.int sc), .val (.int c0)] [(.int c0)]))
  refine g_static ST575 (rmCE X ST575.old rc0) (fun _ q => nomatch q) (w185 hw) (w186 hw) (w187 hw) (w188 hw) (by decide) (hb hby dAP02_40) (by rw [hml]; rfl) [(.int c0)] (lenOf pd13 rfl) rfl rfl (Nat.le_of_ble_eq_true rfl) (Nat.le_of_ble_eq_true rfl) (Nat.le_of_ble_eq_true rfl) (Nat.le_of_ble_eq_true rfl) ?_
  intro v576 T576 V576 h576 S576 C576 q576
  obtain ⟨rfl, rfl⟩ := q576
  have sf577 := C576.safe Vb.lt sf574
  show Go p e below _ (T576.setTop (mkF m 43 #[.val (.ref x), .val (.ref b), .val (.int (0 : Int32)), .val (.int (2 : Int32)), .val (.int sc), .val (.ref tb), .val (.int (0 : Int32)), .val (.int sc), .val (.int c0)] [(.int (1 : Int32))]))
  refine s_ifN S576 (hb hby dAP02_43) (by decide) (pc' := 46) rfl ?_
  refine s_aload S576 (hb hby dAP02_46) rfl rfl (pc' := 48) rfl ?_
  refine s_iload S576 (hb hby dAP02_48) rfl (pc' := 50) rfl ?_
  refine s_iinc S576 (hb hby dAP02_50) rfl (z := (sc + (1 : Int32))) rfl (L' := #[.val (.ref x), .val (.ref b), .val (.int (0 : Int32)), .val (.int (2 : Int32)), .val (.int sc), .val (.ref tb), .val (.int (0 : Int32)), .val (.int (sc + (1 : Int32))), .val (.int c0)]) rfl (pc' := 53) rfl ?_
  refine s_iload S576 (hb hby dAP02_53) rfl (pc' := 55) rfl ?_
  refine s_i2b S576 (hb hby dAP02_55) (z := (c0.toInt8.toInt32)) rfl (pc' := 56) rfl ?_
  show Go p e below _ (T576.setTop (mkF m 56 #[.val (.ref x), .val (.ref b), .val (.int (0 : Int32)), .val (.int (2 : Int32)), .val (.int sc), .val (.ref tb), .val (.int (0 : Int32)), .val (.int (sc + (1 : Int32))), .val (.int c0)] [(.int (c0.toInt8.toInt32)), (.int sc), (.ref tb)]))
  refine g_bastore S576 Vb ⟨own_nn (by omega), own_lt16 (by omega)⟩ (sc).toNatClampNeg rfl (by have e := own_nat (x := sc) (by omega); omega) nb sf577 (hb hby dAP02_56) ?_
  intro T578 h578 S578 K578 V578 sg578
  obtain ⟨bs578, V578, lb578⟩ : ∃ bs1 : List Value, Arv Z h578 tb kb .byte (16 : Int32) bs1 (.int (0 : Int32)) ∧ bs1.length = 16 := ⟨_, V578, by rw [List.length_set]; exact hbl⟩
  have sf579 := Safe.keep K578 (sfS sf577 sf0) S576.chv sf577
  show Go p e below _ (T578.setTop (mkF m 57 #[.val (.ref x), .val (.ref b), .val (.int (0 : Int32)), .val (.int (2 : Int32)), .val (.int sc), .val (.ref tb), .val (.int (0 : Int32)), .val (.int (sc + (1 : Int32))), .val (.int c0)] []))
  refine s_goto S578 (hb hby dAP02_57) (by decide) (pcT := 98) (by decide) ?_
  refine s_iinc S578 (hb hby dAP02_98) rfl (z := (1 : Int32)) rfl (L' := #[.val (.ref x), .val (.ref b), .val (.int (0 : Int32)), .val (.int (2 : Int32)), .val (.int sc), .val (.ref tb), .val (.int (1 : Int32)), .val (.int (sc + (1 : Int32))), .val (.int c0)]) rfl (pc' := 101) rfl ?_
  refine s_goto S578 (hb hby dAP02_101) (by decide) (pcT := 26) (by decide) ?_
  refine s_iload S578 (hb hby dAP02_26) rfl (pc' := 28) rfl ?_
  refine s_iloadN S578 (hb hby dAP02_28) rfl (pc' := 29) rfl ?_
  refine s_icmpN S578 (hb hby dAP02_29) (by decide) (pc' := 32) rfl ?_
  refine s_aloadN S578 (hb hby dAP02_32) rfl rfl (pc' := 33) rfl ?_
  refine s_iload S578 (hb hby dAP02_33) rfl (pc' := 35) rfl ?_
  have F580 := Vc.keep K578 (ninS (Ne.symm nBC) nin0)
  refine g_caload S578 F580 ⟨by decide, by decide⟩ (x := c1) rfl (hb hby dAP02_35) ?_
  show Go p e below _ (T578.setTop (mkF m 36 #[.val (.ref x), .val (.ref b), .val (.int (0 : Int32)), .val (.int (2 : Int32)), .val (.int sc), .val (.ref tb), .val (.int (1 : Int32)), .val (.int (sc + (1 : Int32))), .val (.int c0)] [(.int c1)]))
  refine s_istore S578 (hb hby dAP02_36) (L' := #[.val (.ref x), .val (.ref b), .val (.int (0 : Int32)), .val (.int (2 : Int32)), .val (.int sc), .val (.ref tb), .val (.int (1 : Int32)), .val (.int (sc + (1 : Int32))), .val (.int c1)]) rfl (pc' := 38) rfl ?_
  refine s_iload S578 (hb hby dAP02_38) rfl (pc' := 40) rfl ?_
  show Go p e below _ (T578.setTop (mkF m 40 #[.val (.ref x), .val (.ref b), .val (.int (0 : Int32)), .val (.int (2 : Int32)), .val (.int sc), .val (.ref tb), .val (.int (1 : Int32)), .val (.int (sc + (1 : Int32))), .val (.int c1)] [(.int c1)]))
  refine g_static S578 (rmCE X S578.old rc1) (fun _ q => nomatch q) (w185 hw) (w186 hw) (w187 hw) (w188 hw) (by decide) (hb hby dAP02_40) (by rw [hml]; rfl) [(.int c1)] (lenOf pd13 rfl) rfl rfl (Nat.le_of_ble_eq_true rfl) (Nat.le_of_ble_eq_true rfl) (Nat.le_of_ble_eq_true rfl) (Nat.le_of_ble_eq_true rfl) ?_
  intro v581 T581 V581 h581 S581 C581 q581
  obtain ⟨rfl, rfl⟩ := q581
  have sf582 := C581.safe (Nat.lt_of_lt_of_le Vb.lt (Nat.le_trans (Nat.le_refl _) K578.1)) sg578
  show Go p e below _ (T581.setTop (mkF m 43 #[.val (.ref x), .val (.ref b), .val (.int (0 : Int32)), .val (.int (2 : Int32)), .val (.int sc), .val (.ref tb), .val (.int (1 : Int32)), .val (.int (sc + (1 : Int32))), .val (.int c1)] [(.int (1 : Int32))]))
  refine s_ifN S581 (hb hby dAP02_43) (by decide) (pc' := 46) rfl ?_
  refine s_aload S581 (hb hby dAP02_46) rfl rfl (pc' := 48) rfl ?_
  refine s_iload S581 (hb hby dAP02_48) rfl (pc' := 50) rfl ?_
  refine s_iinc S581 (hb hby dAP02_50) rfl (z := ((sc + (1 : Int32)) + (1 : Int32))) rfl (L' := #[.val (.ref x), .val (.ref b), .val (.int (0 : Int32)), .val (.int (2 : Int32)), .val (.int sc), .val (.ref tb), .val (.int (1 : Int32)), .val (.int ((sc + (1 : Int32)) + (1 : Int32))), .val (.int c1)]) rfl (pc' := 53) rfl ?_
  refine s_iload S581 (hb hby dAP02_53) rfl (pc' := 55) rfl ?_
  refine s_i2b S581 (hb hby dAP02_55) (z := (c1.toInt8.toInt32)) rfl (pc' := 56) rfl ?_
  show Go p e below _ (T581.setTop (mkF m 56 #[.val (.ref x), .val (.ref b), .val (.int (0 : Int32)), .val (.int (2 : Int32)), .val (.int sc), .val (.ref tb), .val (.int (1 : Int32)), .val (.int ((sc + (1 : Int32)) + (1 : Int32))), .val (.int c1)] [(.int (c1.toInt8.toInt32)), (.int (sc + (1 : Int32))), (.ref tb)]))
  refine g_bastore S581 V578 ⟨own_nn (by omega), own_lt16 (by omega)⟩ ((sc + (1 : Int32))).toNatClampNeg rfl (by have e := own_nat (x := (sc + (1 : Int32))) (by omega); omega) nb sf582 (hb hby dAP02_56) ?_
  intro T583 h583 S583 K583 V583 sg583
  obtain ⟨bs583, V583, lb583⟩ : ∃ bs1 : List Value, Arv Z h583 tb kb .byte (16 : Int32) bs1 (.int (0 : Int32)) ∧ bs1.length = 16 := ⟨_, V583, by rw [List.length_set]; exact lb578⟩
  have sf584 := Safe.keep K583 (sfS sf582 sf0) S581.chv sf582
  show Go p e below _ (T583.setTop (mkF m 57 #[.val (.ref x), .val (.ref b), .val (.int (0 : Int32)), .val (.int (2 : Int32)), .val (.int sc), .val (.ref tb), .val (.int (1 : Int32)), .val (.int ((sc + (1 : Int32)) + (1 : Int32))), .val (.int c1)] []))
  refine s_goto S583 (hb hby dAP02_57) (by decide) (pcT := 98) (by decide) ?_
  refine s_iinc S583 (hb hby dAP02_98) rfl (z := (2 : Int32)) rfl (L' := #[.val (.ref x), .val (.ref b), .val (.int (0 : Int32)), .val (.int (2 : Int32)), .val (.int sc), .val (.ref tb), .val (.int (2 : Int32)), .val (.int ((sc + (1 : Int32)) + (1 : Int32))), .val (.int c1)]) rfl (pc' := 101) rfl ?_
  refine s_goto S583 (hb hby dAP02_101) (by decide) (pcT := 26) (by decide) ?_
  refine s_iload S583 (hb hby dAP02_26) rfl (pc' := 28) rfl ?_
  refine s_iloadN S583 (hb hby dAP02_28) rfl (pc' := 29) rfl ?_
  refine s_icmpY S583 (hb hby dAP02_29) (by decide) (by decide) (pcT := 104) (by decide) ?_
  refine s_goto S583 (hb hby dAP02_104) (by decide) (pcT := 119) (by decide) ?_
  refine s_aloadN S583 (hb hby dAP02_119) rfl rfl (pc' := 120) rfl ?_
  refine s_iload S583 (hb hby dAP02_120) rfl (pc' := 122) rfl ?_
  refine s_iloadN S583 (hb hby dAP02_122) rfl (pc' := 123) rfl ?_
  refine s_iadd S583 (hb hby dAP02_123) (z := (sc + (2 : Int32))) rfl (pc' := 124) rfl ?_
  refine s_iloadN S583 (hb hby dAP02_124) rfl (pc' := 125) rfl ?_
  refine s_isub S583 (hb hby dAP02_125) (z := ((sc + (2 : Int32)) - (0 : Int32))) rfl (pc' := 126) rfl ?_
  show Go p e below _ (T583.setTop (mkF m 126 #[.val (.ref x), .val (.ref b), .val (.int (0 : Int32)), .val (.int (2 : Int32)), .val (.int sc), .val (.ref tb), .val (.int (2 : Int32)), .val (.int ((sc + (1 : Int32)) + (1 : Int32))), .val (.int c1)] [(.int ((sc + (2 : Int32)) - (0 : Int32))), (.ref x)]))
  have F586 := Fs.keep K578 (ninS nXB nin0)
  have F587 := F586.keep K583 (ninS nXB nin0)
  have F588 := Ex.keep K578
  have F589 := F588.keep K583
  have F590 := Fv.keep K578 (ninS nXB nin0)
  have F591 := F590.keep K583 (ninS nXB nin0)
  have F592 := Fk.keep K578 (ninS nXB nin0)
  have F593 := F592.keep K583 (ninS nXB nin0)
  refine g_putF S583 (w95 hw) Via.refl F587 F589 (Or.inl (w96 hw)) (w10 hw) (ty := .int) (v' := (.int ((sc + (2 : Int32)) - (0 : Int32)))) (by decide) rfl rfl nx (Safe.exa S583.warm.alike F589 (by decide) (by decide)) (hb hby dAP02_126) ?_
  intro T585 h585 S585 K585 W585 A585 F585 sg585
  have sf594 := Safe.keep K585 (sfS (Safe.exa S583.warm.alike F589 (by decide) (by decide)) sf0) S583.chv sg583
  have F595 := F591.other W585 (Or.inr (slot_ne (Or.inl (w26 hw)) (Or.inl (w96 hw)) (by decide) (t := (.array .byte)) (t' := .int) (by decide) (by decide)))
  have F596 := F593.other W585 (Or.inr (slot_ne (Or.inl (w28 hw)) (Or.inl (w96 hw)) (by decide) (t := .byte) (t' := .int) (by decide) (by decide)))
  show Go p e below _ (T585.setTop (mkF m 129 #[.val (.ref x), .val (.ref b), .val (.int (0 : Int32)), .val (.int (2 : Int32)), .val (.int sc), .val (.ref tb), .val (.int (2 : Int32)), .val (.int ((sc + (1 : Int32)) + (1 : Int32))), .val (.int c1)] []))
  show Go p e below _ (T585.setTop (mkF m 129 #[.val (.ref x), .val (.ref b), .val (.int (0 : Int32)), .val (.int (2 : Int32)), .val (.int sc), .val (.ref tb), .val (.int (2 : Int32)), .val (.int ((sc + (1 : Int32)) + (1 : Int32))), .val (.int c1)] []))
  have KA597 := (Keep.refl h576 [x, tb])
  have KA598 := (KA597.trans K578 (allS (Or.inl (by simp)) all0))
  have KA599 := (KA598.trans K583 (allS (Or.inl (by simp)) all0))
  have KA600 : Keep h576 h585 [x, tb] := (KA599.trans K585 (allS (Or.inl (by simp)) all0))
  have F601 := V583.keep K585 (ninS (Ne.symm nXB) nin0)
  exact g_ret S585 (hb hby dAP02_129) hret ⟨rfl, _, _, KA600, A585, F595, F596, F585, F601, lb583, own_cnt (2 : Int32) (0 : Int32) 2 0 rfl rfl h0 (by omega) (by omega) (by omega)⟩
theorem dAA02_0 : decode jdk_68_method_29_code 0 = .ok (.iload_n 2, 1) := by decide +kernel
theorem dAA02_1 : decode jdk_68_method_29_code 1 = .ok (.iload_n 3, 1) := by decide +kernel
theorem dAA02_2 : decode jdk_68_method_29_code 2 = .ok (.iadd, 1) := by decide +kernel
theorem dAA02_3 : decode jdk_68_method_29_code 3 = .ok (.istore 4, 2) := by decide +kernel
theorem dAA02_5 : decode jdk_68_method_29_code 5 = .ok (.iload_n 2, 1) := by decide +kernel
theorem dAA02_6 : decode jdk_68_method_29_code 6 = .ok (.iload 4, 2) := by decide +kernel
theorem dAA02_8 : decode jdk_68_method_29_code 8 = .ok (.aload_n 1, 1) := by decide +kernel
theorem dAA02_9 : decode jdk_68_method_29_code 9 = .ok (.arraylength, 1) := by decide +kernel
theorem dAA02_10 : decode jdk_68_method_29_code 10 = .ok (.getstatic 183, 3) := by decide +kernel
theorem dAA02_13 : decode jdk_68_method_29_code 13 = .ok (.invokestatic 161, 3) := by decide +kernel
theorem dAA02_16 : decode jdk_68_method_29_code 16 = .ok (.pop, 1) := by decide +kernel
theorem dAA02_17 : decode jdk_68_method_29_code 17 = .ok (.aload_n 0, 1) := by decide +kernel
theorem dAA02_18 : decode jdk_68_method_29_code 18 = .ok (.aload_n 0, 1) := by decide +kernel
theorem dAA02_19 : decode jdk_68_method_29_code 19 = .ok (.getfield 79, 3) := by decide +kernel
theorem dAA02_22 : decode jdk_68_method_29_code 22 = .ok (.iload_n 3, 1) := by decide +kernel
theorem dAA02_23 : decode jdk_68_method_29_code 23 = .ok (.iadd, 1) := by decide +kernel
theorem dAA02_24 : decode jdk_68_method_29_code 24 = .ok (.invokevirtual 100, 3) := by decide +kernel
theorem dAA02_27 : decode jdk_68_method_29_code 27 = .ok (.aload_n 0, 1) := by decide +kernel
theorem dAA02_28 : decode jdk_68_method_29_code 28 = .ok (.aload_n 1, 1) := by decide +kernel
theorem dAA02_29 : decode jdk_68_method_29_code 29 = .ok (.iload_n 2, 1) := by decide +kernel
theorem dAA02_30 : decode jdk_68_method_29_code 30 = .ok (.iload 4, 2) := by decide +kernel
theorem dAA02_32 : decode jdk_68_method_29_code 32 = .ok (.invokevirtual 239, 3) := by decide +kernel
theorem dAA02_35 : decode jdk_68_method_29_code 35 = .ok (.aload_n 0, 1) := by decide +kernel
theorem dAA02_36 : decode jdk_68_method_29_code 36 = .ok (.areturn, 1) := by decide +kernel
set_option maxRecDepth 65536 in
set_option maxHeartbeats 40000000 in
theorem rmAA02 {l : Launch} {Z : State} {a0 : Array Value} {n0 : Nat} (X : Ctx Z a0) {x tb : Addr} {kb : ClassId} {sc : Int32} {bs : List Value} {b : Addr} {kc : ClassId} {c0 c1 c2 : Int32} {dv : Value} (nx : n0 ≤ x) (nb : n0 ≤ tb) {h : Heap} (hO : Old Z n0 h) (Ex : Exa Z h x "java/lang/StringBuilder") (Fv : Fld Z h x "java/lang/AbstractStringBuilder" "value" "[B" (.ref tb)) (Fk : Fld Z h x "java/lang/AbstractStringBuilder" "coder" "B" (.int (0 : Int32))) (Fs : Fld Z h x "java/lang/AbstractStringBuilder" "count" "I" (.int sc)) (Vb : Arv Z h tb kb .byte (16 : Int32) bs (.int (0 : Int32))) (Vc : Arv Z h b kc .char (3 : Int32) [(.int c0), (.int c1), (.int c2)] dv) (rc0 : ¬ c0 < 0 ∧ ¬ (255 : Int32) < c0) (rc1 : ¬ c1 < 0 ∧ ¬ (255 : Int32) < c1) (rc2 : ¬ c2 < 0 ∧ ¬ (255 : Int32) < c2) (h0 : 0 ≤ sc.toInt) (h2 : sc.toInt + 2 ≤ 16) (hbl : bs.length = 16) :
    Ctr l Z EL1 n0 (⟨"java/lang/AbstractStringBuilder", "append", "([CII)Ljava/lang/AbstractStringBuilder;"⟩ : MethodName) jdk_68_method_29_code 5 (some (.object "java/lang/AbstractStringBuilder")) ({ frames := 2, cells := 0, slots := 0, locals := 32 } : Room) #[(.ref x), (.ref b), (.int (0 : Int32)), (.int (2 : Int32))] h [tb] (fun v h' => v = some (.ref x) ∧ ∃ (sc' : Int32) (bs' : List Value), Keep h h' [x, tb] ∧ Exa Z h' x "java/lang/StringBuilder" ∧ Fld Z h' x "java/lang/AbstractStringBuilder" "value" "[B" (.ref tb) ∧ Fld Z h' x "java/lang/AbstractStringBuilder" "coder" "B" (.int (0 : Int32)) ∧ Fld Z h' x "java/lang/AbstractStringBuilder" "count" "I" (.int sc') ∧ Arv Z h' tb kb .byte (16 : Int32) bs' (.int (0 : Int32)) ∧ bs'.length = 16 ∧ sc'.toInt = sc.toInt + 2) := by
  have hw := X.hw
  obtain ⟨z1, hz1, hz2⟩ := X.2.2.1
  refine Ctr.intro (a0 := a0) (plainFor_of_name pn0) hO X.ew ?_
  intro p e s m below meth c T0 V0 S0 hby hml hret hnm hsf
  rw [ef16]
  obtain ⟨fm, hfm, rfm⟩ := X.2.2.2.2
  rcases ref_cases rfm with rfl | ⟨fb, rfl⟩
  · skip
    have nXB : x ≠ tb := Exa.neArv Ex Vb (w10 hw)
    have nXC : x ≠ b := Exa.neArv Ex Vc (w10 hw)
    have nBC : tb ≠ b := arv_kne Vb Vc (by decide)
    have em := own_addl (x := sc) (2 : Int32) 2 rfl h0 (by omega) (by omega)
    show Go p e below _ (T0.setTop (mkF m 0 #[.val (.ref x), .val (.ref b), .val (.int (0 : Int32)), .val (.int (2 : Int32)), .unset] []))
    refine s_iloadN S0 (hb hby dAA02_0) rfl (pc' := 1) rfl ?_
    refine s_iloadN S0 (hb hby dAA02_1) rfl (pc' := 2) rfl ?_
    refine s_iadd S0 (hb hby dAA02_2) (z := (2 : Int32)) rfl (pc' := 3) rfl ?_
    refine s_istore S0 (hb hby dAA02_3) (L' := #[.val (.ref x), .val (.ref b), .val (.int (0 : Int32)), .val (.int (2 : Int32)), .val (.int (2 : Int32))]) rfl (pc' := 5) rfl ?_
    refine s_iloadN S0 (hb hby dAA02_5) rfl (pc' := 6) rfl ?_
    refine s_iload S0 (hb hby dAA02_6) rfl (pc' := 8) rfl ?_
    refine s_aloadN S0 (hb hby dAA02_8) rfl rfl (pc' := 9) rfl ?_
    refine g_len S0 Vc (hb hby dAA02_9) ?_
    show Go p e below _ (T0.setTop (mkF m 10 #[.val (.ref x), .val (.ref b), .val (.int (0 : Int32)), .val (.int (2 : Int32)), .val (.int (2 : Int32))] [(.int (3 : Int32)), (.int (2 : Int32)), (.int (0 : Int32))]))
    refine g_getS S0 (w169 hw) Via.refl (hfm.ext S0.old.2) (hb hby dAA02_10) ?_
    intro T602 ST602
    show Go p e below _ (T602.setTop (mkF m 13 #[.val (.ref x), .val (.ref b), .val (.int (0 : Int32)), .val (.int (2 : Int32)), .val (.int (2 : Int32))] [.null, (.int (3 : Int32)), (.int (2 : Int32)), (.int (0 : Int32))]))
    show Go p e below _ (T602.setTop (mkF m 13 #[.val (.ref x), .val (.ref b), .val (.int (0 : Int32)), .val (.int (2 : Int32)), .val (.int (2 : Int32))] [.null, (.int (3 : Int32)), (.int (2 : Int32)), (.int (0 : Int32))]))
    refine g_static ST602 (rmCF023n X ST602.old) (fun _ q => nomatch q) (w172 hw) (w173 hw) (w170 hw) (w174 hw) (by decide) (hb hby dAA02_13) (by rw [hml]; rfl) [(.int (0 : Int32)), (.int (2 : Int32)), (.int (3 : Int32)), .null] (lenOf pd17 rfl) rfl rfl (Nat.le_of_ble_eq_true rfl) (Nat.le_of_ble_eq_true rfl) (Nat.le_of_ble_eq_true rfl) (Nat.le_of_ble_eq_true rfl) ?_
    intro v603 T603 V603 h603 S603 C603 q603
    obtain ⟨rfl, rfl⟩ := q603
    have sf604 := C603.safe Vb.lt (hsf tb List.mem_cons_self)
    show Go p e below _ (T603.setTop (mkF m 16 #[.val (.ref x), .val (.ref b), .val (.int (0 : Int32)), .val (.int (2 : Int32)), .val (.int (2 : Int32))] [(.int (0 : Int32))]))
    refine s_pop S603 (hb hby dAA02_16) rfl (pc' := 17) rfl ?_
    refine s_aloadN S603 (hb hby dAA02_17) rfl rfl (pc' := 18) rfl ?_
    refine s_aloadN S603 (hb hby dAA02_18) rfl rfl (pc' := 19) rfl ?_
    refine g_getF S603 (w95 hw) Via.refl Fs (hb hby dAA02_19) ?_
    intro T605 ST605
    show Go p e below _ (T605.setTop (mkF m 22 #[.val (.ref x), .val (.ref b), .val (.int (0 : Int32)), .val (.int (2 : Int32)), .val (.int (2 : Int32))] [(.int sc), (.ref x)]))
    refine s_iloadN ST605 (hb hby dAA02_22) rfl (pc' := 23) rfl ?_
    refine s_iadd ST605 (hb hby dAA02_23) (z := (sc + (2 : Int32))) rfl (pc' := 24) rfl ?_
    show Go p e below _ (T605.setTop (mkF m 24 #[.val (.ref x), .val (.ref b), .val (.int (0 : Int32)), .val (.int (2 : Int32)), .val (.int (2 : Int32))] [(.int (sc + (2 : Int32))), (.ref x)]))
    refine g_private ST605 (rmEG X ST605.old Ex Fv Fk Fs Vb (by omega) (by omega)) (fun _ q => nomatch q) (w97 hw) (ni_sel (w100 hw) rfl) (w99 hw) (w98 hw) (w19 hw) (w101 hw) (by decide) (hb hby dAA02_24) (by rw [hml]; rfl) x Ex [(.int (sc + (2 : Int32)))] (lenOf pd0 rfl) rfl rfl (Nat.le_of_ble_eq_true rfl) (Nat.le_of_ble_eq_true rfl) (Nat.le_of_ble_eq_true rfl) (Nat.le_of_ble_eq_true rfl) ?_
    intro v606 T606 V606 h606 S606 C606 q606
    obtain ⟨rfl, rfl⟩ := q606
    have sf607 := C606.safe Vb.lt sf604
    show Go p e below _ (T606.setTop (mkF m 27 #[.val (.ref x), .val (.ref b), .val (.int (0 : Int32)), .val (.int (2 : Int32)), .val (.int (2 : Int32))] []))
    refine s_aloadN S606 (hb hby dAA02_27) rfl rfl (pc' := 28) rfl ?_
    refine s_aloadN S606 (hb hby dAA02_28) rfl rfl (pc' := 29) rfl ?_
    refine s_iloadN S606 (hb hby dAA02_29) rfl (pc' := 30) rfl ?_
    refine s_iload S606 (hb hby dAA02_30) rfl (pc' := 32) rfl ?_
    show Go p e below _ (T606.setTop (mkF m 32 #[.val (.ref x), .val (.ref b), .val (.int (0 : Int32)), .val (.int (2 : Int32)), .val (.int (2 : Int32))] [(.int (2 : Int32)), (.int (0 : Int32)), (.ref b), (.ref x)]))
    refine g_private S606 (rmAP02 X nx nb S606.old Ex Fv Fk Fs Vb Vc rc0 rc1 rc2 h0 h2 hbl) (sf1 Vb.lt sf607) (w175 hw) (ni_sel (w100 hw) rfl) (w177 hw) (w176 hw) (w19 hw) (w179 hw) (by decide) (hb hby dAA02_32) (by rw [hml]; rfl) x Ex [(.ref b), (.int (0 : Int32)), (.int (2 : Int32))] (lenOf pd18 rfl) rfl rfl (Nat.le_of_ble_eq_true rfl) (Nat.le_of_ble_eq_true rfl) (Nat.le_of_ble_eq_true rfl) (Nat.le_of_ble_eq_true rfl) ?_
    intro v608 T608 V608 h608 S608 C608 q608
    obtain ⟨rfl, q1⟩ := q608
    have sf609 := C608.safe Vb.lt sf607
    show Go p e below _ (T608.setTop (mkF m 35 #[.val (.ref x), .val (.ref b), .val (.int (0 : Int32)), .val (.int (2 : Int32)), .val (.int (2 : Int32))] []))
    refine s_aloadN S608 (hb hby dAA02_35) rfl rfl (pc' := 36) rfl ?_
    exact g_aret S608 (hb hby dAA02_36) hret rfl rfl rfl ⟨rfl, q1⟩
  · skip
    have nXB : x ≠ tb := Exa.neArv Ex Vb (w10 hw)
    have nXC : x ≠ b := Exa.neArv Ex Vc (w10 hw)
    have nBC : tb ≠ b := arv_kne Vb Vc (by decide)
    have em := own_addl (x := sc) (2 : Int32) 2 rfl h0 (by omega) (by omega)
    show Go p e below _ (T0.setTop (mkF m 0 #[.val (.ref x), .val (.ref b), .val (.int (0 : Int32)), .val (.int (2 : Int32)), .unset] []))
    refine s_iloadN S0 (hb hby dAA02_0) rfl (pc' := 1) rfl ?_
    refine s_iloadN S0 (hb hby dAA02_1) rfl (pc' := 2) rfl ?_
    refine s_iadd S0 (hb hby dAA02_2) (z := (2 : Int32)) rfl (pc' := 3) rfl ?_
    refine s_istore S0 (hb hby dAA02_3) (L' := #[.val (.ref x), .val (.ref b), .val (.int (0 : Int32)), .val (.int (2 : Int32)), .val (.int (2 : Int32))]) rfl (pc' := 5) rfl ?_
    refine s_iloadN S0 (hb hby dAA02_5) rfl (pc' := 6) rfl ?_
    refine s_iload S0 (hb hby dAA02_6) rfl (pc' := 8) rfl ?_
    refine s_aloadN S0 (hb hby dAA02_8) rfl rfl (pc' := 9) rfl ?_
    refine g_len S0 Vc (hb hby dAA02_9) ?_
    show Go p e below _ (T0.setTop (mkF m 10 #[.val (.ref x), .val (.ref b), .val (.int (0 : Int32)), .val (.int (2 : Int32)), .val (.int (2 : Int32))] [(.int (3 : Int32)), (.int (2 : Int32)), (.int (0 : Int32))]))
    refine g_getS S0 (w169 hw) Via.refl (hfm.ext S0.old.2) (hb hby dAA02_10) ?_
    intro T610 ST610
    show Go p e below _ (T610.setTop (mkF m 13 #[.val (.ref x), .val (.ref b), .val (.int (0 : Int32)), .val (.int (2 : Int32)), .val (.int (2 : Int32))] [(.ref fb), (.int (3 : Int32)), (.int (2 : Int32)), (.int (0 : Int32))]))
    show Go p e below _ (T610.setTop (mkF m 13 #[.val (.ref x), .val (.ref b), .val (.int (0 : Int32)), .val (.int (2 : Int32)), .val (.int (2 : Int32))] [(.ref fb), (.int (3 : Int32)), (.int (2 : Int32)), (.int (0 : Int32))]))
    refine g_static ST610 (rmCF023r X fb ST610.old) (fun _ q => nomatch q) (w172 hw) (w173 hw) (w170 hw) (w174 hw) (by decide) (hb hby dAA02_13) (by rw [hml]; rfl) [(.int (0 : Int32)), (.int (2 : Int32)), (.int (3 : Int32)), (.ref fb)] (lenOf pd17 rfl) rfl rfl (Nat.le_of_ble_eq_true rfl) (Nat.le_of_ble_eq_true rfl) (Nat.le_of_ble_eq_true rfl) (Nat.le_of_ble_eq_true rfl) ?_
    intro v611 T611 V611 h611 S611 C611 q611
    obtain ⟨rfl, rfl⟩ := q611
    have sf612 := C611.safe Vb.lt (hsf tb List.mem_cons_self)
    show Go p e below _ (T611.setTop (mkF m 16 #[.val (.ref x), .val (.ref b), .val (.int (0 : Int32)), .val (.int (2 : Int32)), .val (.int (2 : Int32))] [(.int (0 : Int32))]))
    refine s_pop S611 (hb hby dAA02_16) rfl (pc' := 17) rfl ?_
    refine s_aloadN S611 (hb hby dAA02_17) rfl rfl (pc' := 18) rfl ?_
    refine s_aloadN S611 (hb hby dAA02_18) rfl rfl (pc' := 19) rfl ?_
    refine g_getF S611 (w95 hw) Via.refl Fs (hb hby dAA02_19) ?_
    intro T613 ST613
    show Go p e below _ (T613.setTop (mkF m 22 #[.val (.ref x), .val (.ref b), .val (.int (0 : Int32)), .val (.int (2 : Int32)), .val (.int (2 : Int32))] [(.int sc), (.ref x)]))
    refine s_iloadN ST613 (hb hby dAA02_22) rfl (pc' := 23) rfl ?_
    refine s_iadd ST613 (hb hby dAA02_23) (z := (sc + (2 : Int32))) rfl (pc' := 24) rfl ?_
    show Go p e below _ (T613.setTop (mkF m 24 #[.val (.ref x), .val (.ref b), .val (.int (0 : Int32)), .val (.int (2 : Int32)), .val (.int (2 : Int32))] [(.int (sc + (2 : Int32))), (.ref x)]))
    refine g_private ST613 (rmEG X ST613.old Ex Fv Fk Fs Vb (by omega) (by omega)) (fun _ q => nomatch q) (w97 hw) (ni_sel (w100 hw) rfl) (w99 hw) (w98 hw) (w19 hw) (w101 hw) (by decide) (hb hby dAA02_24) (by rw [hml]; rfl) x Ex [(.int (sc + (2 : Int32)))] (lenOf pd0 rfl) rfl rfl (Nat.le_of_ble_eq_true rfl) (Nat.le_of_ble_eq_true rfl) (Nat.le_of_ble_eq_true rfl) (Nat.le_of_ble_eq_true rfl) ?_
    intro v614 T614 V614 h614 S614 C614 q614
    obtain ⟨rfl, rfl⟩ := q614
    have sf615 := C614.safe Vb.lt sf612
    show Go p e below _ (T614.setTop (mkF m 27 #[.val (.ref x), .val (.ref b), .val (.int (0 : Int32)), .val (.int (2 : Int32)), .val (.int (2 : Int32))] []))
    refine s_aloadN S614 (hb hby dAA02_27) rfl rfl (pc' := 28) rfl ?_
    refine s_aloadN S614 (hb hby dAA02_28) rfl rfl (pc' := 29) rfl ?_
    refine s_iloadN S614 (hb hby dAA02_29) rfl (pc' := 30) rfl ?_
    refine s_iload S614 (hb hby dAA02_30) rfl (pc' := 32) rfl ?_
    show Go p e below _ (T614.setTop (mkF m 32 #[.val (.ref x), .val (.ref b), .val (.int (0 : Int32)), .val (.int (2 : Int32)), .val (.int (2 : Int32))] [(.int (2 : Int32)), (.int (0 : Int32)), (.ref b), (.ref x)]))
    refine g_private S614 (rmAP02 X nx nb S614.old Ex Fv Fk Fs Vb Vc rc0 rc1 rc2 h0 h2 hbl) (sf1 Vb.lt sf615) (w175 hw) (ni_sel (w100 hw) rfl) (w177 hw) (w176 hw) (w19 hw) (w179 hw) (by decide) (hb hby dAA02_32) (by rw [hml]; rfl) x Ex [(.ref b), (.int (0 : Int32)), (.int (2 : Int32))] (lenOf pd18 rfl) rfl rfl (Nat.le_of_ble_eq_true rfl) (Nat.le_of_ble_eq_true rfl) (Nat.le_of_ble_eq_true rfl) (Nat.le_of_ble_eq_true rfl) ?_
    intro v616 T616 V616 h616 S616 C616 q616
    obtain ⟨rfl, q1⟩ := q616
    have sf617 := C616.safe Vb.lt sf615
    show Go p e below _ (T616.setTop (mkF m 35 #[.val (.ref x), .val (.ref b), .val (.int (0 : Int32)), .val (.int (2 : Int32)), .val (.int (2 : Int32))] []))
    refine s_aloadN S616 (hb hby dAA02_35) rfl rfl (pc' := 36) rfl ?_
    exact g_aret S616 (hb hby dAA02_36) hret rfl rfl rfl ⟨rfl, q1⟩
theorem dSA02_0 : decode jdk_67_method_12_code 0 = .ok (.aload_n 0, 1) := by decide +kernel
theorem dSA02_1 : decode jdk_67_method_12_code 1 = .ok (.aload_n 1, 1) := by decide +kernel
theorem dSA02_2 : decode jdk_67_method_12_code 2 = .ok (.iload_n 2, 1) := by decide +kernel
theorem dSA02_3 : decode jdk_67_method_12_code 3 = .ok (.iload_n 3, 1) := by decide +kernel
theorem dSA02_4 : decode jdk_67_method_12_code 4 = .ok (.invokespecial 44, 3) := by decide +kernel
theorem dSA02_7 : decode jdk_67_method_12_code 7 = .ok (.pop, 1) := by decide +kernel
theorem dSA02_8 : decode jdk_67_method_12_code 8 = .ok (.aload_n 0, 1) := by decide +kernel
theorem dSA02_9 : decode jdk_67_method_12_code 9 = .ok (.areturn, 1) := by decide +kernel
set_option maxRecDepth 65536 in
set_option maxHeartbeats 40000000 in
theorem rmSA02 {l : Launch} {Z : State} {a0 : Array Value} {n0 : Nat} (X : Ctx Z a0) {x tb : Addr} {kb : ClassId} {sc : Int32} {bs : List Value} {b : Addr} {kc : ClassId} {c0 c1 c2 : Int32} {dv : Value} (nx : n0 ≤ x) (nb : n0 ≤ tb) {h : Heap} (hO : Old Z n0 h) (Ex : Exa Z h x "java/lang/StringBuilder") (Fv : Fld Z h x "java/lang/AbstractStringBuilder" "value" "[B" (.ref tb)) (Fk : Fld Z h x "java/lang/AbstractStringBuilder" "coder" "B" (.int (0 : Int32))) (Fs : Fld Z h x "java/lang/AbstractStringBuilder" "count" "I" (.int sc)) (Vb : Arv Z h tb kb .byte (16 : Int32) bs (.int (0 : Int32))) (Vc : Arv Z h b kc .char (3 : Int32) [(.int c0), (.int c1), (.int c2)] dv) (rc0 : ¬ c0 < 0 ∧ ¬ (255 : Int32) < c0) (rc1 : ¬ c1 < 0 ∧ ¬ (255 : Int32) < c1) (rc2 : ¬ c2 < 0 ∧ ¬ (255 : Int32) < c2) (h0 : 0 ≤ sc.toInt) (h2 : sc.toInt + 2 ≤ 16) (hbl : bs.length = 16) :
    Ctr l Z EL1 n0 (⟨"java/lang/StringBuilder", "append", "([CII)Ljava/lang/StringBuilder;"⟩ : MethodName) jdk_67_method_12_code 4 (some (.object "java/lang/StringBuilder")) ({ frames := 3, cells := 0, slots := 0, locals := 48 } : Room) #[(.ref x), (.ref b), (.int (0 : Int32)), (.int (2 : Int32))] h [tb] (fun v h' => v = some (.ref x) ∧ ∃ (sc' : Int32) (bs' : List Value), Keep h h' [x, tb] ∧ Exa Z h' x "java/lang/StringBuilder" ∧ Fld Z h' x "java/lang/AbstractStringBuilder" "value" "[B" (.ref tb) ∧ Fld Z h' x "java/lang/AbstractStringBuilder" "coder" "B" (.int (0 : Int32)) ∧ Fld Z h' x "java/lang/AbstractStringBuilder" "count" "I" (.int sc') ∧ Arv Z h' tb kb .byte (16 : Int32) bs' (.int (0 : Int32)) ∧ bs'.length = 16 ∧ sc'.toInt = sc.toInt + 2) := by
  have hw := X.hw
  obtain ⟨z1, hz1, hz2⟩ := X.2.2.1
  refine Ctr.intro (a0 := a0) (plainFor_of_name pn1) hO X.ew ?_
  intro p e s m below meth c T0 V0 S0 hby hml hret hnm hsf
  rw [ef8]
  have nXB : x ≠ tb := Exa.neArv Ex Vb (w10 hw)
  have nXC : x ≠ b := Exa.neArv Ex Vc (w10 hw)
  have nBC : tb ≠ b := arv_kne Vb Vc (by decide)
  show Go p e below _ (T0.setTop (mkF m 0 #[.val (.ref x), .val (.ref b), .val (.int (0 : Int32)), .val (.int (2 : Int32))] []))
  refine s_aloadN S0 (hb hby dSA02_0) rfl rfl (pc' := 1) rfl ?_
  refine s_aloadN S0 (hb hby dSA02_1) rfl rfl (pc' := 2) rfl ?_
  refine s_iloadN S0 (hb hby dSA02_2) rfl (pc' := 3) rfl ?_
  refine s_iloadN S0 (hb hby dSA02_3) rfl (pc' := 4) rfl ?_
  show Go p e below _ (T0.setTop (mkF m 4 #[.val (.ref x), .val (.ref b), .val (.int (0 : Int32)), .val (.int (2 : Int32))] [(.int (2 : Int32)), (.int (0 : Int32)), (.ref b), (.ref x)]))
  refine g_super S0 (rmAA02 X nx nb S0.old Ex Fv Fk Fs Vb Vc rc0 rc1 rc2 h0 h2 hbl) (sf1 Vb.lt (hsf tb List.mem_cons_self)) (by decide) (w165 hw) (ni_sel (w100 hw) rfl) (w166 hw) (w82 hw) (w19 hw) (w168 hw) (by decide) (hb hby dSA02_4) (by rw [hml]; rfl) x Ex [(.ref b), (.int (0 : Int32)), (.int (2 : Int32))] (lenOf pd19 rfl) rfl rfl (Nat.le_of_ble_eq_true rfl) (Nat.le_of_ble_eq_true rfl) (Nat.le_of_ble_eq_true rfl) (Nat.le_of_ble_eq_true rfl) ?_
  intro v618 T618 V618 h618 S618 C618 q618
  obtain ⟨rfl, q1⟩ := q618
  have sf619 := C618.safe Vb.lt (hsf tb List.mem_cons_self)
  show Go p e below _ (T618.setTop (mkF m 7 #[.val (.ref x), .val (.ref b), .val (.int (0 : Int32)), .val (.int (2 : Int32))] [(.ref x)]))
  refine s_pop S618 (hb hby dSA02_7) rfl (pc' := 8) rfl ?_
  refine s_aloadN S618 (hb hby dSA02_8) rfl rfl (pc' := 9) rfl ?_
  exact g_aret S618 (hb hby dSA02_9) hret rfl rfl rfl ⟨rfl, q1⟩
theorem dAP10_0 : decode jdk_68_method_74_code 0 = .ok (.aload_n 0, 1) := by decide +kernel
theorem dAP10_1 : decode jdk_68_method_74_code 1 = .ok (.getfield 79, 3) := by decide +kernel
theorem dAP10_4 : decode jdk_68_method_74_code 4 = .ok (.istore 4, 2) := by decide +kernel
theorem dAP10_6 : decode jdk_68_method_74_code 6 = .ok (.aload_n 0, 1) := by decide +kernel
theorem dAP10_7 : decode jdk_68_method_74_code 7 = .ok (.invokevirtual 83, 3) := by decide +kernel
theorem dAP10_10 : decode jdk_68_method_74_code 10 = .ok (.ifCond .eq 97, 3) := by decide +kernel
theorem dAP10_13 : decode jdk_68_method_74_code 13 = .ok (.aload_n 0, 1) := by decide +kernel
theorem dAP10_14 : decode jdk_68_method_74_code 14 = .ok (.getfield 15, 3) := by decide +kernel
theorem dAP10_17 : decode jdk_68_method_74_code 17 = .ok (.astore 5, 2) := by decide +kernel
theorem dAP10_19 : decode jdk_68_method_74_code 19 = .ok (.iload_n 2, 1) := by decide +kernel
theorem dAP10_20 : decode jdk_68_method_74_code 20 = .ok (.istore 6, 2) := by decide +kernel
theorem dAP10_22 : decode jdk_68_method_74_code 22 = .ok (.iload 4, 2) := by decide +kernel
theorem dAP10_24 : decode jdk_68_method_74_code 24 = .ok (.istore 7, 2) := by decide +kernel
theorem dAP10_26 : decode jdk_68_method_74_code 26 = .ok (.iload 6, 2) := by decide +kernel
theorem dAP10_28 : decode jdk_68_method_74_code 28 = .ok (.iload_n 3, 1) := by decide +kernel
theorem dAP10_29 : decode jdk_68_method_74_code 29 = .ok (.if_icmp .ge 75, 3) := by decide +kernel
theorem dAP10_104 : decode jdk_68_method_74_code 104 = .ok (.goto 15, 3) := by decide +kernel
theorem dAP10_119 : decode jdk_68_method_74_code 119 = .ok (.aload_n 0, 1) := by decide +kernel
theorem dAP10_120 : decode jdk_68_method_74_code 120 = .ok (.iload 4, 2) := by decide +kernel
theorem dAP10_122 : decode jdk_68_method_74_code 122 = .ok (.iload_n 3, 1) := by decide +kernel
theorem dAP10_123 : decode jdk_68_method_74_code 123 = .ok (.iadd, 1) := by decide +kernel
theorem dAP10_124 : decode jdk_68_method_74_code 124 = .ok (.iload_n 2, 1) := by decide +kernel
theorem dAP10_125 : decode jdk_68_method_74_code 125 = .ok (.isub, 1) := by decide +kernel
theorem dAP10_126 : decode jdk_68_method_74_code 126 = .ok (.putfield 79, 3) := by decide +kernel
theorem dAP10_129 : decode jdk_68_method_74_code 129 = .ok (.return_, 1) := by decide +kernel
set_option maxRecDepth 65536 in
set_option maxHeartbeats 40000000 in
theorem rmAP10 {l : Launch} {Z : State} {a0 : Array Value} {n0 : Nat} (X : Ctx Z a0) {x tb : Addr} {kb : ClassId} {sc : Int32} {bs : List Value} {b : Addr} {kc : ClassId} {c0 c1 c2 : Int32} {dv : Value} (nx : n0 ≤ x) (nb : n0 ≤ tb) {h : Heap} (hO : Old Z n0 h) (Ex : Exa Z h x "java/lang/StringBuilder") (Fv : Fld Z h x "java/lang/AbstractStringBuilder" "value" "[B" (.ref tb)) (Fk : Fld Z h x "java/lang/AbstractStringBuilder" "coder" "B" (.int (0 : Int32))) (Fs : Fld Z h x "java/lang/AbstractStringBuilder" "count" "I" (.int sc)) (Vb : Arv Z h tb kb .byte (16 : Int32) bs (.int (0 : Int32))) (Vc : Arv Z h b kc .char (3 : Int32) [(.int c0), (.int c1), (.int c2)] dv) (rc0 : ¬ c0 < 0 ∧ ¬ (255 : Int32) < c0) (rc1 : ¬ c1 < 0 ∧ ¬ (255 : Int32) < c1) (rc2 : ¬ c2 < 0 ∧ ¬ (255 : Int32) < c2) (h0 : 0 ≤ sc.toInt) (h2 : sc.toInt + 0 ≤ 16) (hbl : bs.length = 16) :
    Ctr l Z EL1 n0 (⟨"java/lang/AbstractStringBuilder", "appendChars", "([CII)V"⟩ : MethodName) jdk_68_method_74_code 9 none ({ frames := 1, cells := 0, slots := 0, locals := 12 } : Room) #[(.ref x), (.ref b), (.int (1 : Int32)), (.int (1 : Int32))] h [tb] (fun v h' => v = none ∧ ∃ (sc' : Int32) (bs' : List Value), Keep h h' [x, tb] ∧ Exa Z h' x "java/lang/StringBuilder" ∧ Fld Z h' x "java/lang/AbstractStringBuilder" "value" "[B" (.ref tb) ∧ Fld Z h' x "java/lang/AbstractStringBuilder" "coder" "B" (.int (0 : Int32)) ∧ Fld Z h' x "java/lang/AbstractStringBuilder" "count" "I" (.int sc') ∧ Arv Z h' tb kb .byte (16 : Int32) bs' (.int (0 : Int32)) ∧ bs'.length = 16 ∧ sc'.toInt = sc.toInt + 0) := by
  have hw := X.hw
  obtain ⟨z1, hz1, hz2⟩ := X.2.2.1
  refine Ctr.intro (a0 := a0) (plainFor_of_name pn0) hO X.ew ?_
  intro p e s m below meth c T0 V0 S0 hby hml hret hnm hsf
  rw [ef15]
  have nXB : x ≠ tb := Exa.neArv Ex Vb (w10 hw)
  have nXC : x ≠ b := Exa.neArv Ex Vc (w10 hw)
  have nBC : tb ≠ b := arv_kne Vb Vc (by decide)
  show Go p e below _ (T0.setTop (mkF m 0 #[.val (.ref x), .val (.ref b), .val (.int (1 : Int32)), .val (.int (1 : Int32)), .unset, .unset, .unset, .unset, .unset] []))
  refine s_aloadN S0 (hb hby dAP10_0) rfl rfl (pc' := 1) rfl ?_
  refine g_getF S0 (w95 hw) Via.refl Fs (hb hby dAP10_1) ?_
  intro T620 ST620
  show Go p e below _ (T620.setTop (mkF m 4 #[.val (.ref x), .val (.ref b), .val (.int (1 : Int32)), .val (.int (1 : Int32)), .unset, .unset, .unset, .unset, .unset] [(.int sc)]))
  refine s_istore ST620 (hb hby dAP10_4) (L' := #[.val (.ref x), .val (.ref b), .val (.int (1 : Int32)), .val (.int (1 : Int32)), .val (.int sc), .unset, .unset, .unset, .unset]) rfl (pc' := 6) rfl ?_
  refine s_aloadN ST620 (hb hby dAP10_6) rfl rfl (pc' := 7) rfl ?_
  show Go p e below _ (T620.setTop (mkF m 7 #[.val (.ref x), .val (.ref b), .val (.int (1 : Int32)), .val (.int (1 : Int32)), .val (.int sc), .unset, .unset, .unset, .unset] [(.ref x)]))
  refine g_virtual ST620 (rmIL X ST620.old Ex Fv Fk Fs) (fun _ q => nomatch q) (w180 hw) (w181 hw) (w183 hw) (w182 hw) (w19 hw) (w184 hw) (by decide) (fun _ h => notFace_of_selects h) (hb hby dAP10_7) (by rw [hml]; rfl) x Ex [] (lenOf pd16 rfl) rfl rfl (Nat.le_of_ble_eq_true rfl) (Nat.le_of_ble_eq_true rfl) (Nat.le_of_ble_eq_true rfl) (Nat.le_of_ble_eq_true rfl) ?_
  intro v621 T621 V621 h621 S621 C621 q621
  obtain ⟨rfl, rfl⟩ := q621
  have sf622 := C621.safe Vb.lt (hsf tb List.mem_cons_self)
  show Go p e below _ (T621.setTop (mkF m 10 #[.val (.ref x), .val (.ref b), .val (.int (1 : Int32)), .val (.int (1 : Int32)), .val (.int sc), .unset, .unset, .unset, .unset] [(.int (1 : Int32))]))
  refine s_ifN S621 (hb hby dAP10_10) (by decide) (pc' := 13) rfl ?_
  refine s_aloadN S621 (hb hby dAP10_13) rfl rfl (pc' := 14) rfl ?_
  refine g_getF S621 (w25 hw) Via.refl Fv (hb hby dAP10_14) ?_
  intro T623 ST623
  show Go p e below _ (T623.setTop (mkF m 17 #[.val (.ref x), .val (.ref b), .val (.int (1 : Int32)), .val (.int (1 : Int32)), .val (.int sc), .unset, .unset, .unset, .unset] [(.ref tb)]))
  refine s_astore ST623 (hb hby dAP10_17) rfl (L' := #[.val (.ref x), .val (.ref b), .val (.int (1 : Int32)), .val (.int (1 : Int32)), .val (.int sc), .val (.ref tb), .unset, .unset, .unset]) rfl (pc' := 19) rfl ?_
  refine s_iloadN ST623 (hb hby dAP10_19) rfl (pc' := 20) rfl ?_
  refine s_istore ST623 (hb hby dAP10_20) (L' := #[.val (.ref x), .val (.ref b), .val (.int (1 : Int32)), .val (.int (1 : Int32)), .val (.int sc), .val (.ref tb), .val (.int (1 : Int32)), .unset, .unset]) rfl (pc' := 22) rfl ?_
  refine s_iload ST623 (hb hby dAP10_22) rfl (pc' := 24) rfl ?_
  refine s_istore ST623 (hb hby dAP10_24) (L' := #[.val (.ref x), .val (.ref b), .val (.int (1 : Int32)), .val (.int (1 : Int32)), .val (.int sc), .val (.ref tb), .val (.int (1 : Int32)), .val (.int sc), .unset]) rfl (pc' := 26) rfl ?_
  refine s_iload ST623 (hb hby dAP10_26) rfl (pc' := 28) rfl ?_
  refine s_iloadN ST623 (hb hby dAP10_28) rfl (pc' := 29) rfl ?_
  refine s_icmpY ST623 (hb hby dAP10_29) (by decide) (by decide) (pcT := 104) (by decide) ?_
  refine s_goto ST623 (hb hby dAP10_104) (by decide) (pcT := 119) (by decide) ?_
  refine s_aloadN ST623 (hb hby dAP10_119) rfl rfl (pc' := 120) rfl ?_
  refine s_iload ST623 (hb hby dAP10_120) rfl (pc' := 122) rfl ?_
  refine s_iloadN ST623 (hb hby dAP10_122) rfl (pc' := 123) rfl ?_
  refine s_iadd ST623 (hb hby dAP10_123) (z := (sc + (1 : Int32))) rfl (pc' := 124) rfl ?_
  refine s_iloadN ST623 (hb hby dAP10_124) rfl (pc' := 125) rfl ?_
  refine s_isub ST623 (hb hby dAP10_125) (z := ((sc + (1 : Int32)) - (1 : Int32))) rfl (pc' := 126) rfl ?_
  show Go p e below _ (T623.setTop (mkF m 126 #[.val (.ref x), .val (.ref b), .val (.int (1 : Int32)), .val (.int (1 : Int32)), .val (.int sc), .val (.ref tb), .val (.int (1 : Int32)), .val (.int sc), .unset] [(.int ((sc + (1 : Int32)) - (1 : Int32))), (.ref x)]))
  refine g_putF ST623 (w95 hw) Via.refl Fs Ex (Or.inl (w96 hw)) (w10 hw) (ty := .int) (v' := (.int ((sc + (1 : Int32)) - (1 : Int32)))) (by decide) rfl rfl nx (Safe.exa ST623.warm.alike Ex (by decide) (by decide)) (hb hby dAP10_126) ?_
  intro T624 h624 S624 K624 W624 A624 F624 sg624
  have sf625 := Safe.keep K624 (sfS (Safe.exa ST623.warm.alike Ex (by decide) (by decide)) sf0) ST623.chv sf622
  have F626 := Fv.other W624 (Or.inr (slot_ne (Or.inl (w26 hw)) (Or.inl (w96 hw)) (by decide) (t := (.array .byte)) (t' := .int) (by decide) (by decide)))
  have F627 := Fk.other W624 (Or.inr (slot_ne (Or.inl (w28 hw)) (Or.inl (w96 hw)) (by decide) (t := .byte) (t' := .int) (by decide) (by decide)))
  show Go p e below _ (T624.setTop (mkF m 129 #[.val (.ref x), .val (.ref b), .val (.int (1 : Int32)), .val (.int (1 : Int32)), .val (.int sc), .val (.ref tb), .val (.int (1 : Int32)), .val (.int sc), .unset] []))
  show Go p e below _ (T624.setTop (mkF m 129 #[.val (.ref x), .val (.ref b), .val (.int (1 : Int32)), .val (.int (1 : Int32)), .val (.int sc), .val (.ref tb), .val (.int (1 : Int32)), .val (.int sc), .unset] []))
  have KA628 := (Keep.refl h621 [x, tb])
  have KA629 : Keep h621 h624 [x, tb] := (KA628.trans K624 (allS (Or.inl (by simp)) all0))
  have F630 := Vb.keep K624 (ninS (Ne.symm nXB) nin0)
  exact g_ret S624 (hb hby dAP10_129) hret ⟨rfl, _, _, KA629, A624, F626, F627, F624, F630, hbl, own_cnt (1 : Int32) (1 : Int32) 1 1 rfl rfl h0 (by omega) (by omega) (by omega)⟩
theorem dAA10_0 : decode jdk_68_method_29_code 0 = .ok (.iload_n 2, 1) := by decide +kernel
theorem dAA10_1 : decode jdk_68_method_29_code 1 = .ok (.iload_n 3, 1) := by decide +kernel
theorem dAA10_2 : decode jdk_68_method_29_code 2 = .ok (.iadd, 1) := by decide +kernel
theorem dAA10_3 : decode jdk_68_method_29_code 3 = .ok (.istore 4, 2) := by decide +kernel
theorem dAA10_5 : decode jdk_68_method_29_code 5 = .ok (.iload_n 2, 1) := by decide +kernel
theorem dAA10_6 : decode jdk_68_method_29_code 6 = .ok (.iload 4, 2) := by decide +kernel
theorem dAA10_8 : decode jdk_68_method_29_code 8 = .ok (.aload_n 1, 1) := by decide +kernel
theorem dAA10_9 : decode jdk_68_method_29_code 9 = .ok (.arraylength, 1) := by decide +kernel
theorem dAA10_10 : decode jdk_68_method_29_code 10 = .ok (.getstatic 183, 3) := by decide +kernel
theorem dAA10_13 : decode jdk_68_method_29_code 13 = .ok (.invokestatic 161, 3) := by decide +kernel
theorem dAA10_16 : decode jdk_68_method_29_code 16 = .ok (.pop, 1) := by decide +kernel
theorem dAA10_17 : decode jdk_68_method_29_code 17 = .ok (.aload_n 0, 1) := by decide +kernel
theorem dAA10_18 : decode jdk_68_method_29_code 18 = .ok (.aload_n 0, 1) := by decide +kernel
theorem dAA10_19 : decode jdk_68_method_29_code 19 = .ok (.getfield 79, 3) := by decide +kernel
theorem dAA10_22 : decode jdk_68_method_29_code 22 = .ok (.iload_n 3, 1) := by decide +kernel
theorem dAA10_23 : decode jdk_68_method_29_code 23 = .ok (.iadd, 1) := by decide +kernel
theorem dAA10_24 : decode jdk_68_method_29_code 24 = .ok (.invokevirtual 100, 3) := by decide +kernel
theorem dAA10_27 : decode jdk_68_method_29_code 27 = .ok (.aload_n 0, 1) := by decide +kernel
theorem dAA10_28 : decode jdk_68_method_29_code 28 = .ok (.aload_n 1, 1) := by decide +kernel
theorem dAA10_29 : decode jdk_68_method_29_code 29 = .ok (.iload_n 2, 1) := by decide +kernel
theorem dAA10_30 : decode jdk_68_method_29_code 30 = .ok (.iload 4, 2) := by decide +kernel
theorem dAA10_32 : decode jdk_68_method_29_code 32 = .ok (.invokevirtual 239, 3) := by decide +kernel
theorem dAA10_35 : decode jdk_68_method_29_code 35 = .ok (.aload_n 0, 1) := by decide +kernel
theorem dAA10_36 : decode jdk_68_method_29_code 36 = .ok (.areturn, 1) := by decide +kernel
set_option maxRecDepth 65536 in
set_option maxHeartbeats 40000000 in
theorem rmAA10 {l : Launch} {Z : State} {a0 : Array Value} {n0 : Nat} (X : Ctx Z a0) {x tb : Addr} {kb : ClassId} {sc : Int32} {bs : List Value} {b : Addr} {kc : ClassId} {c0 c1 c2 : Int32} {dv : Value} (nx : n0 ≤ x) (nb : n0 ≤ tb) {h : Heap} (hO : Old Z n0 h) (Ex : Exa Z h x "java/lang/StringBuilder") (Fv : Fld Z h x "java/lang/AbstractStringBuilder" "value" "[B" (.ref tb)) (Fk : Fld Z h x "java/lang/AbstractStringBuilder" "coder" "B" (.int (0 : Int32))) (Fs : Fld Z h x "java/lang/AbstractStringBuilder" "count" "I" (.int sc)) (Vb : Arv Z h tb kb .byte (16 : Int32) bs (.int (0 : Int32))) (Vc : Arv Z h b kc .char (3 : Int32) [(.int c0), (.int c1), (.int c2)] dv) (rc0 : ¬ c0 < 0 ∧ ¬ (255 : Int32) < c0) (rc1 : ¬ c1 < 0 ∧ ¬ (255 : Int32) < c1) (rc2 : ¬ c2 < 0 ∧ ¬ (255 : Int32) < c2) (h0 : 0 ≤ sc.toInt) (h2 : sc.toInt + 0 ≤ 16) (hbl : bs.length = 16) :
    Ctr l Z EL1 n0 (⟨"java/lang/AbstractStringBuilder", "append", "([CII)Ljava/lang/AbstractStringBuilder;"⟩ : MethodName) jdk_68_method_29_code 5 (some (.object "java/lang/AbstractStringBuilder")) ({ frames := 2, cells := 0, slots := 0, locals := 32 } : Room) #[(.ref x), (.ref b), (.int (1 : Int32)), (.int (0 : Int32))] h [tb] (fun v h' => v = some (.ref x) ∧ ∃ (sc' : Int32) (bs' : List Value), Keep h h' [x, tb] ∧ Exa Z h' x "java/lang/StringBuilder" ∧ Fld Z h' x "java/lang/AbstractStringBuilder" "value" "[B" (.ref tb) ∧ Fld Z h' x "java/lang/AbstractStringBuilder" "coder" "B" (.int (0 : Int32)) ∧ Fld Z h' x "java/lang/AbstractStringBuilder" "count" "I" (.int sc') ∧ Arv Z h' tb kb .byte (16 : Int32) bs' (.int (0 : Int32)) ∧ bs'.length = 16 ∧ sc'.toInt = sc.toInt + 0) := by
  have hw := X.hw
  obtain ⟨z1, hz1, hz2⟩ := X.2.2.1
  refine Ctr.intro (a0 := a0) (plainFor_of_name pn0) hO X.ew ?_
  intro p e s m below meth c T0 V0 S0 hby hml hret hnm hsf
  rw [ef16]
  obtain ⟨fm, hfm, rfm⟩ := X.2.2.2.2
  rcases ref_cases rfm with rfl | ⟨fb, rfl⟩
  · skip
    have nXB : x ≠ tb := Exa.neArv Ex Vb (w10 hw)
    have nXC : x ≠ b := Exa.neArv Ex Vc (w10 hw)
    have nBC : tb ≠ b := arv_kne Vb Vc (by decide)
    have em := own_addl (x := sc) (0 : Int32) 0 rfl h0 (by omega) (by omega)
    show Go p e below _ (T0.setTop (mkF m 0 #[.val (.ref x), .val (.ref b), .val (.int (1 : Int32)), .val (.int (0 : Int32)), .unset] []))
    refine s_iloadN S0 (hb hby dAA10_0) rfl (pc' := 1) rfl ?_
    refine s_iloadN S0 (hb hby dAA10_1) rfl (pc' := 2) rfl ?_
    refine s_iadd S0 (hb hby dAA10_2) (z := (1 : Int32)) rfl (pc' := 3) rfl ?_
    refine s_istore S0 (hb hby dAA10_3) (L' := #[.val (.ref x), .val (.ref b), .val (.int (1 : Int32)), .val (.int (0 : Int32)), .val (.int (1 : Int32))]) rfl (pc' := 5) rfl ?_
    refine s_iloadN S0 (hb hby dAA10_5) rfl (pc' := 6) rfl ?_
    refine s_iload S0 (hb hby dAA10_6) rfl (pc' := 8) rfl ?_
    refine s_aloadN S0 (hb hby dAA10_8) rfl rfl (pc' := 9) rfl ?_
    refine g_len S0 Vc (hb hby dAA10_9) ?_
    show Go p e below _ (T0.setTop (mkF m 10 #[.val (.ref x), .val (.ref b), .val (.int (1 : Int32)), .val (.int (0 : Int32)), .val (.int (1 : Int32))] [(.int (3 : Int32)), (.int (1 : Int32)), (.int (1 : Int32))]))
    refine g_getS S0 (w169 hw) Via.refl (hfm.ext S0.old.2) (hb hby dAA10_10) ?_
    intro T631 ST631
    show Go p e below _ (T631.setTop (mkF m 13 #[.val (.ref x), .val (.ref b), .val (.int (1 : Int32)), .val (.int (0 : Int32)), .val (.int (1 : Int32))] [.null, (.int (3 : Int32)), (.int (1 : Int32)), (.int (1 : Int32))]))
    show Go p e below _ (T631.setTop (mkF m 13 #[.val (.ref x), .val (.ref b), .val (.int (1 : Int32)), .val (.int (0 : Int32)), .val (.int (1 : Int32))] [.null, (.int (3 : Int32)), (.int (1 : Int32)), (.int (1 : Int32))]))
    refine g_static ST631 (rmCF113n X ST631.old) (fun _ q => nomatch q) (w172 hw) (w173 hw) (w170 hw) (w174 hw) (by decide) (hb hby dAA10_13) (by rw [hml]; rfl) [(.int (1 : Int32)), (.int (1 : Int32)), (.int (3 : Int32)), .null] (lenOf pd17 rfl) rfl rfl (Nat.le_of_ble_eq_true rfl) (Nat.le_of_ble_eq_true rfl) (Nat.le_of_ble_eq_true rfl) (Nat.le_of_ble_eq_true rfl) ?_
    intro v632 T632 V632 h632 S632 C632 q632
    obtain ⟨rfl, rfl⟩ := q632
    have sf633 := C632.safe Vb.lt (hsf tb List.mem_cons_self)
    show Go p e below _ (T632.setTop (mkF m 16 #[.val (.ref x), .val (.ref b), .val (.int (1 : Int32)), .val (.int (0 : Int32)), .val (.int (1 : Int32))] [(.int (1 : Int32))]))
    refine s_pop S632 (hb hby dAA10_16) rfl (pc' := 17) rfl ?_
    refine s_aloadN S632 (hb hby dAA10_17) rfl rfl (pc' := 18) rfl ?_
    refine s_aloadN S632 (hb hby dAA10_18) rfl rfl (pc' := 19) rfl ?_
    refine g_getF S632 (w95 hw) Via.refl Fs (hb hby dAA10_19) ?_
    intro T634 ST634
    show Go p e below _ (T634.setTop (mkF m 22 #[.val (.ref x), .val (.ref b), .val (.int (1 : Int32)), .val (.int (0 : Int32)), .val (.int (1 : Int32))] [(.int sc), (.ref x)]))
    refine s_iloadN ST634 (hb hby dAA10_22) rfl (pc' := 23) rfl ?_
    refine s_iadd ST634 (hb hby dAA10_23) (z := (sc + (0 : Int32))) rfl (pc' := 24) rfl ?_
    show Go p e below _ (T634.setTop (mkF m 24 #[.val (.ref x), .val (.ref b), .val (.int (1 : Int32)), .val (.int (0 : Int32)), .val (.int (1 : Int32))] [(.int (sc + (0 : Int32))), (.ref x)]))
    refine g_private ST634 (rmEG X ST634.old Ex Fv Fk Fs Vb (by omega) (by omega)) (fun _ q => nomatch q) (w97 hw) (ni_sel (w100 hw) rfl) (w99 hw) (w98 hw) (w19 hw) (w101 hw) (by decide) (hb hby dAA10_24) (by rw [hml]; rfl) x Ex [(.int (sc + (0 : Int32)))] (lenOf pd0 rfl) rfl rfl (Nat.le_of_ble_eq_true rfl) (Nat.le_of_ble_eq_true rfl) (Nat.le_of_ble_eq_true rfl) (Nat.le_of_ble_eq_true rfl) ?_
    intro v635 T635 V635 h635 S635 C635 q635
    obtain ⟨rfl, rfl⟩ := q635
    have sf636 := C635.safe Vb.lt sf633
    show Go p e below _ (T635.setTop (mkF m 27 #[.val (.ref x), .val (.ref b), .val (.int (1 : Int32)), .val (.int (0 : Int32)), .val (.int (1 : Int32))] []))
    refine s_aloadN S635 (hb hby dAA10_27) rfl rfl (pc' := 28) rfl ?_
    refine s_aloadN S635 (hb hby dAA10_28) rfl rfl (pc' := 29) rfl ?_
    refine s_iloadN S635 (hb hby dAA10_29) rfl (pc' := 30) rfl ?_
    refine s_iload S635 (hb hby dAA10_30) rfl (pc' := 32) rfl ?_
    show Go p e below _ (T635.setTop (mkF m 32 #[.val (.ref x), .val (.ref b), .val (.int (1 : Int32)), .val (.int (0 : Int32)), .val (.int (1 : Int32))] [(.int (1 : Int32)), (.int (1 : Int32)), (.ref b), (.ref x)]))
    refine g_private S635 (rmAP10 X nx nb S635.old Ex Fv Fk Fs Vb Vc rc0 rc1 rc2 h0 h2 hbl) (sf1 Vb.lt sf636) (w175 hw) (ni_sel (w100 hw) rfl) (w177 hw) (w176 hw) (w19 hw) (w179 hw) (by decide) (hb hby dAA10_32) (by rw [hml]; rfl) x Ex [(.ref b), (.int (1 : Int32)), (.int (1 : Int32))] (lenOf pd18 rfl) rfl rfl (Nat.le_of_ble_eq_true rfl) (Nat.le_of_ble_eq_true rfl) (Nat.le_of_ble_eq_true rfl) (Nat.le_of_ble_eq_true rfl) ?_
    intro v637 T637 V637 h637 S637 C637 q637
    obtain ⟨rfl, q1⟩ := q637
    have sf638 := C637.safe Vb.lt sf636
    show Go p e below _ (T637.setTop (mkF m 35 #[.val (.ref x), .val (.ref b), .val (.int (1 : Int32)), .val (.int (0 : Int32)), .val (.int (1 : Int32))] []))
    refine s_aloadN S637 (hb hby dAA10_35) rfl rfl (pc' := 36) rfl ?_
    exact g_aret S637 (hb hby dAA10_36) hret rfl rfl rfl ⟨rfl, q1⟩
  · skip
    have nXB : x ≠ tb := Exa.neArv Ex Vb (w10 hw)
    have nXC : x ≠ b := Exa.neArv Ex Vc (w10 hw)
    have nBC : tb ≠ b := arv_kne Vb Vc (by decide)
    have em := own_addl (x := sc) (0 : Int32) 0 rfl h0 (by omega) (by omega)
    show Go p e below _ (T0.setTop (mkF m 0 #[.val (.ref x), .val (.ref b), .val (.int (1 : Int32)), .val (.int (0 : Int32)), .unset] []))
    refine s_iloadN S0 (hb hby dAA10_0) rfl (pc' := 1) rfl ?_
    refine s_iloadN S0 (hb hby dAA10_1) rfl (pc' := 2) rfl ?_
    refine s_iadd S0 (hb hby dAA10_2) (z := (1 : Int32)) rfl (pc' := 3) rfl ?_
    refine s_istore S0 (hb hby dAA10_3) (L' := #[.val (.ref x), .val (.ref b), .val (.int (1 : Int32)), .val (.int (0 : Int32)), .val (.int (1 : Int32))]) rfl (pc' := 5) rfl ?_
    refine s_iloadN S0 (hb hby dAA10_5) rfl (pc' := 6) rfl ?_
    refine s_iload S0 (hb hby dAA10_6) rfl (pc' := 8) rfl ?_
    refine s_aloadN S0 (hb hby dAA10_8) rfl rfl (pc' := 9) rfl ?_
    refine g_len S0 Vc (hb hby dAA10_9) ?_
    show Go p e below _ (T0.setTop (mkF m 10 #[.val (.ref x), .val (.ref b), .val (.int (1 : Int32)), .val (.int (0 : Int32)), .val (.int (1 : Int32))] [(.int (3 : Int32)), (.int (1 : Int32)), (.int (1 : Int32))]))
    refine g_getS S0 (w169 hw) Via.refl (hfm.ext S0.old.2) (hb hby dAA10_10) ?_
    intro T639 ST639
    show Go p e below _ (T639.setTop (mkF m 13 #[.val (.ref x), .val (.ref b), .val (.int (1 : Int32)), .val (.int (0 : Int32)), .val (.int (1 : Int32))] [(.ref fb), (.int (3 : Int32)), (.int (1 : Int32)), (.int (1 : Int32))]))
    show Go p e below _ (T639.setTop (mkF m 13 #[.val (.ref x), .val (.ref b), .val (.int (1 : Int32)), .val (.int (0 : Int32)), .val (.int (1 : Int32))] [(.ref fb), (.int (3 : Int32)), (.int (1 : Int32)), (.int (1 : Int32))]))
    refine g_static ST639 (rmCF113r X fb ST639.old) (fun _ q => nomatch q) (w172 hw) (w173 hw) (w170 hw) (w174 hw) (by decide) (hb hby dAA10_13) (by rw [hml]; rfl) [(.int (1 : Int32)), (.int (1 : Int32)), (.int (3 : Int32)), (.ref fb)] (lenOf pd17 rfl) rfl rfl (Nat.le_of_ble_eq_true rfl) (Nat.le_of_ble_eq_true rfl) (Nat.le_of_ble_eq_true rfl) (Nat.le_of_ble_eq_true rfl) ?_
    intro v640 T640 V640 h640 S640 C640 q640
    obtain ⟨rfl, rfl⟩ := q640
    have sf641 := C640.safe Vb.lt (hsf tb List.mem_cons_self)
    show Go p e below _ (T640.setTop (mkF m 16 #[.val (.ref x), .val (.ref b), .val (.int (1 : Int32)), .val (.int (0 : Int32)), .val (.int (1 : Int32))] [(.int (1 : Int32))]))
    refine s_pop S640 (hb hby dAA10_16) rfl (pc' := 17) rfl ?_
    refine s_aloadN S640 (hb hby dAA10_17) rfl rfl (pc' := 18) rfl ?_
    refine s_aloadN S640 (hb hby dAA10_18) rfl rfl (pc' := 19) rfl ?_
    refine g_getF S640 (w95 hw) Via.refl Fs (hb hby dAA10_19) ?_
    intro T642 ST642
    show Go p e below _ (T642.setTop (mkF m 22 #[.val (.ref x), .val (.ref b), .val (.int (1 : Int32)), .val (.int (0 : Int32)), .val (.int (1 : Int32))] [(.int sc), (.ref x)]))
    refine s_iloadN ST642 (hb hby dAA10_22) rfl (pc' := 23) rfl ?_
    refine s_iadd ST642 (hb hby dAA10_23) (z := (sc + (0 : Int32))) rfl (pc' := 24) rfl ?_
    show Go p e below _ (T642.setTop (mkF m 24 #[.val (.ref x), .val (.ref b), .val (.int (1 : Int32)), .val (.int (0 : Int32)), .val (.int (1 : Int32))] [(.int (sc + (0 : Int32))), (.ref x)]))
    refine g_private ST642 (rmEG X ST642.old Ex Fv Fk Fs Vb (by omega) (by omega)) (fun _ q => nomatch q) (w97 hw) (ni_sel (w100 hw) rfl) (w99 hw) (w98 hw) (w19 hw) (w101 hw) (by decide) (hb hby dAA10_24) (by rw [hml]; rfl) x Ex [(.int (sc + (0 : Int32)))] (lenOf pd0 rfl) rfl rfl (Nat.le_of_ble_eq_true rfl) (Nat.le_of_ble_eq_true rfl) (Nat.le_of_ble_eq_true rfl) (Nat.le_of_ble_eq_true rfl) ?_
    intro v643 T643 V643 h643 S643 C643 q643
    obtain ⟨rfl, rfl⟩ := q643
    have sf644 := C643.safe Vb.lt sf641
    show Go p e below _ (T643.setTop (mkF m 27 #[.val (.ref x), .val (.ref b), .val (.int (1 : Int32)), .val (.int (0 : Int32)), .val (.int (1 : Int32))] []))
    refine s_aloadN S643 (hb hby dAA10_27) rfl rfl (pc' := 28) rfl ?_
    refine s_aloadN S643 (hb hby dAA10_28) rfl rfl (pc' := 29) rfl ?_
    refine s_iloadN S643 (hb hby dAA10_29) rfl (pc' := 30) rfl ?_
    refine s_iload S643 (hb hby dAA10_30) rfl (pc' := 32) rfl ?_
    show Go p e below _ (T643.setTop (mkF m 32 #[.val (.ref x), .val (.ref b), .val (.int (1 : Int32)), .val (.int (0 : Int32)), .val (.int (1 : Int32))] [(.int (1 : Int32)), (.int (1 : Int32)), (.ref b), (.ref x)]))
    refine g_private S643 (rmAP10 X nx nb S643.old Ex Fv Fk Fs Vb Vc rc0 rc1 rc2 h0 h2 hbl) (sf1 Vb.lt sf644) (w175 hw) (ni_sel (w100 hw) rfl) (w177 hw) (w176 hw) (w19 hw) (w179 hw) (by decide) (hb hby dAA10_32) (by rw [hml]; rfl) x Ex [(.ref b), (.int (1 : Int32)), (.int (1 : Int32))] (lenOf pd18 rfl) rfl rfl (Nat.le_of_ble_eq_true rfl) (Nat.le_of_ble_eq_true rfl) (Nat.le_of_ble_eq_true rfl) (Nat.le_of_ble_eq_true rfl) ?_
    intro v645 T645 V645 h645 S645 C645 q645
    obtain ⟨rfl, q1⟩ := q645
    have sf646 := C645.safe Vb.lt sf644
    show Go p e below _ (T645.setTop (mkF m 35 #[.val (.ref x), .val (.ref b), .val (.int (1 : Int32)), .val (.int (0 : Int32)), .val (.int (1 : Int32))] []))
    refine s_aloadN S645 (hb hby dAA10_35) rfl rfl (pc' := 36) rfl ?_
    exact g_aret S645 (hb hby dAA10_36) hret rfl rfl rfl ⟨rfl, q1⟩
theorem dSA10_0 : decode jdk_67_method_12_code 0 = .ok (.aload_n 0, 1) := by decide +kernel
theorem dSA10_1 : decode jdk_67_method_12_code 1 = .ok (.aload_n 1, 1) := by decide +kernel
theorem dSA10_2 : decode jdk_67_method_12_code 2 = .ok (.iload_n 2, 1) := by decide +kernel
theorem dSA10_3 : decode jdk_67_method_12_code 3 = .ok (.iload_n 3, 1) := by decide +kernel
theorem dSA10_4 : decode jdk_67_method_12_code 4 = .ok (.invokespecial 44, 3) := by decide +kernel
theorem dSA10_7 : decode jdk_67_method_12_code 7 = .ok (.pop, 1) := by decide +kernel
theorem dSA10_8 : decode jdk_67_method_12_code 8 = .ok (.aload_n 0, 1) := by decide +kernel
theorem dSA10_9 : decode jdk_67_method_12_code 9 = .ok (.areturn, 1) := by decide +kernel
set_option maxRecDepth 65536 in
set_option maxHeartbeats 40000000 in
theorem rmSA10 {l : Launch} {Z : State} {a0 : Array Value} {n0 : Nat} (X : Ctx Z a0) {x tb : Addr} {kb : ClassId} {sc : Int32} {bs : List Value} {b : Addr} {kc : ClassId} {c0 c1 c2 : Int32} {dv : Value} (nx : n0 ≤ x) (nb : n0 ≤ tb) {h : Heap} (hO : Old Z n0 h) (Ex : Exa Z h x "java/lang/StringBuilder") (Fv : Fld Z h x "java/lang/AbstractStringBuilder" "value" "[B" (.ref tb)) (Fk : Fld Z h x "java/lang/AbstractStringBuilder" "coder" "B" (.int (0 : Int32))) (Fs : Fld Z h x "java/lang/AbstractStringBuilder" "count" "I" (.int sc)) (Vb : Arv Z h tb kb .byte (16 : Int32) bs (.int (0 : Int32))) (Vc : Arv Z h b kc .char (3 : Int32) [(.int c0), (.int c1), (.int c2)] dv) (rc0 : ¬ c0 < 0 ∧ ¬ (255 : Int32) < c0) (rc1 : ¬ c1 < 0 ∧ ¬ (255 : Int32) < c1) (rc2 : ¬ c2 < 0 ∧ ¬ (255 : Int32) < c2) (h0 : 0 ≤ sc.toInt) (h2 : sc.toInt + 0 ≤ 16) (hbl : bs.length = 16) :
    Ctr l Z EL1 n0 (⟨"java/lang/StringBuilder", "append", "([CII)Ljava/lang/StringBuilder;"⟩ : MethodName) jdk_67_method_12_code 4 (some (.object "java/lang/StringBuilder")) ({ frames := 3, cells := 0, slots := 0, locals := 48 } : Room) #[(.ref x), (.ref b), (.int (1 : Int32)), (.int (0 : Int32))] h [tb] (fun v h' => v = some (.ref x) ∧ ∃ (sc' : Int32) (bs' : List Value), Keep h h' [x, tb] ∧ Exa Z h' x "java/lang/StringBuilder" ∧ Fld Z h' x "java/lang/AbstractStringBuilder" "value" "[B" (.ref tb) ∧ Fld Z h' x "java/lang/AbstractStringBuilder" "coder" "B" (.int (0 : Int32)) ∧ Fld Z h' x "java/lang/AbstractStringBuilder" "count" "I" (.int sc') ∧ Arv Z h' tb kb .byte (16 : Int32) bs' (.int (0 : Int32)) ∧ bs'.length = 16 ∧ sc'.toInt = sc.toInt + 0) := by
  have hw := X.hw
  obtain ⟨z1, hz1, hz2⟩ := X.2.2.1
  refine Ctr.intro (a0 := a0) (plainFor_of_name pn1) hO X.ew ?_
  intro p e s m below meth c T0 V0 S0 hby hml hret hnm hsf
  rw [ef8]
  have nXB : x ≠ tb := Exa.neArv Ex Vb (w10 hw)
  have nXC : x ≠ b := Exa.neArv Ex Vc (w10 hw)
  have nBC : tb ≠ b := arv_kne Vb Vc (by decide)
  show Go p e below _ (T0.setTop (mkF m 0 #[.val (.ref x), .val (.ref b), .val (.int (1 : Int32)), .val (.int (0 : Int32))] []))
  refine s_aloadN S0 (hb hby dSA10_0) rfl rfl (pc' := 1) rfl ?_
  refine s_aloadN S0 (hb hby dSA10_1) rfl rfl (pc' := 2) rfl ?_
  refine s_iloadN S0 (hb hby dSA10_2) rfl (pc' := 3) rfl ?_
  refine s_iloadN S0 (hb hby dSA10_3) rfl (pc' := 4) rfl ?_
  show Go p e below _ (T0.setTop (mkF m 4 #[.val (.ref x), .val (.ref b), .val (.int (1 : Int32)), .val (.int (0 : Int32))] [(.int (0 : Int32)), (.int (1 : Int32)), (.ref b), (.ref x)]))
  refine g_super S0 (rmAA10 X nx nb S0.old Ex Fv Fk Fs Vb Vc rc0 rc1 rc2 h0 h2 hbl) (sf1 Vb.lt (hsf tb List.mem_cons_self)) (by decide) (w165 hw) (ni_sel (w100 hw) rfl) (w166 hw) (w82 hw) (w19 hw) (w168 hw) (by decide) (hb hby dSA10_4) (by rw [hml]; rfl) x Ex [(.ref b), (.int (1 : Int32)), (.int (0 : Int32))] (lenOf pd19 rfl) rfl rfl (Nat.le_of_ble_eq_true rfl) (Nat.le_of_ble_eq_true rfl) (Nat.le_of_ble_eq_true rfl) (Nat.le_of_ble_eq_true rfl) ?_
  intro v647 T647 V647 h647 S647 C647 q647
  obtain ⟨rfl, q1⟩ := q647
  have sf648 := C647.safe Vb.lt (hsf tb List.mem_cons_self)
  show Go p e below _ (T647.setTop (mkF m 7 #[.val (.ref x), .val (.ref b), .val (.int (1 : Int32)), .val (.int (0 : Int32))] [(.ref x)]))
  refine s_pop S647 (hb hby dSA10_7) rfl (pc' := 8) rfl ?_
  refine s_aloadN S647 (hb hby dSA10_8) rfl rfl (pc' := 9) rfl ?_
  exact g_aret S647 (hb hby dSA10_9) hret rfl rfl rfl ⟨rfl, q1⟩
theorem dAP11_0 : decode jdk_68_method_74_code 0 = .ok (.aload_n 0, 1) := by decide +kernel
theorem dAP11_1 : decode jdk_68_method_74_code 1 = .ok (.getfield 79, 3) := by decide +kernel
theorem dAP11_4 : decode jdk_68_method_74_code 4 = .ok (.istore 4, 2) := by decide +kernel
theorem dAP11_6 : decode jdk_68_method_74_code 6 = .ok (.aload_n 0, 1) := by decide +kernel
theorem dAP11_7 : decode jdk_68_method_74_code 7 = .ok (.invokevirtual 83, 3) := by decide +kernel
theorem dAP11_10 : decode jdk_68_method_74_code 10 = .ok (.ifCond .eq 97, 3) := by decide +kernel
theorem dAP11_13 : decode jdk_68_method_74_code 13 = .ok (.aload_n 0, 1) := by decide +kernel
theorem dAP11_14 : decode jdk_68_method_74_code 14 = .ok (.getfield 15, 3) := by decide +kernel
theorem dAP11_17 : decode jdk_68_method_74_code 17 = .ok (.astore 5, 2) := by decide +kernel
theorem dAP11_19 : decode jdk_68_method_74_code 19 = .ok (.iload_n 2, 1) := by decide +kernel
theorem dAP11_20 : decode jdk_68_method_74_code 20 = .ok (.istore 6, 2) := by decide +kernel
theorem dAP11_22 : decode jdk_68_method_74_code 22 = .ok (.iload 4, 2) := by decide +kernel
theorem dAP11_24 : decode jdk_68_method_74_code 24 = .ok (.istore 7, 2) := by decide +kernel
theorem dAP11_26 : decode jdk_68_method_74_code 26 = .ok (.iload 6, 2) := by decide +kernel
theorem dAP11_28 : decode jdk_68_method_74_code 28 = .ok (.iload_n 3, 1) := by decide +kernel
theorem dAP11_29 : decode jdk_68_method_74_code 29 = .ok (.if_icmp .ge 75, 3) := by decide +kernel
theorem dAP11_32 : decode jdk_68_method_74_code 32 = .ok (.aload_n 1, 1) := by decide +kernel
theorem dAP11_33 : decode jdk_68_method_74_code 33 = .ok (.iload 6, 2) := by decide +kernel
theorem dAP11_35 : decode jdk_68_method_74_code 35 = .ok (.caload, 1) := by decide +kernel
theorem dAP11_36 : decode jdk_68_method_74_code 36 = .ok (.istore 8, 2) := by decide +kernel
theorem dAP11_38 : decode jdk_68_method_74_code 38 = .ok (.iload 8, 2) := by decide +kernel
theorem dAP11_40 : decode jdk_68_method_74_code 40 = .ok (.invokestatic 191, 3) := by decide +kernel
theorem dAP11_43 : decode jdk_68_method_74_code 43 = .ok (.ifCond .eq 17, 3) := by decide +kernel
theorem dAP11_46 : decode jdk_68_method_74_code 46 = .ok (.aload 5, 2) := by decide +kernel
theorem dAP11_48 : decode jdk_68_method_74_code 48 = .ok (.iload 7, 2) := by decide +kernel
theorem dAP11_50 : decode jdk_68_method_74_code 50 = .ok (.iinc 7 1, 3) := by decide +kernel
theorem dAP11_53 : decode jdk_68_method_74_code 53 = .ok (.iload 8, 2) := by decide +kernel
theorem dAP11_55 : decode jdk_68_method_74_code 55 = .ok (.i2b, 1) := by decide +kernel
theorem dAP11_56 : decode jdk_68_method_74_code 56 = .ok (.bastore, 1) := by decide +kernel
theorem dAP11_57 : decode jdk_68_method_74_code 57 = .ok (.goto 41, 3) := by decide +kernel
theorem dAP11_98 : decode jdk_68_method_74_code 98 = .ok (.iinc 6 1, 3) := by decide +kernel
theorem dAP11_101 : decode jdk_68_method_74_code 101 = .ok (.goto (-75), 3) := by decide +kernel
theorem dAP11_104 : decode jdk_68_method_74_code 104 = .ok (.goto 15, 3) := by decide +kernel
theorem dAP11_119 : decode jdk_68_method_74_code 119 = .ok (.aload_n 0, 1) := by decide +kernel
theorem dAP11_120 : decode jdk_68_method_74_code 120 = .ok (.iload 4, 2) := by decide +kernel
theorem dAP11_122 : decode jdk_68_method_74_code 122 = .ok (.iload_n 3, 1) := by decide +kernel
theorem dAP11_123 : decode jdk_68_method_74_code 123 = .ok (.iadd, 1) := by decide +kernel
theorem dAP11_124 : decode jdk_68_method_74_code 124 = .ok (.iload_n 2, 1) := by decide +kernel
theorem dAP11_125 : decode jdk_68_method_74_code 125 = .ok (.isub, 1) := by decide +kernel
theorem dAP11_126 : decode jdk_68_method_74_code 126 = .ok (.putfield 79, 3) := by decide +kernel
theorem dAP11_129 : decode jdk_68_method_74_code 129 = .ok (.return_, 1) := by decide +kernel
set_option maxRecDepth 65536 in
set_option maxHeartbeats 40000000 in
theorem rmAP11 {l : Launch} {Z : State} {a0 : Array Value} {n0 : Nat} (X : Ctx Z a0) {x tb : Addr} {kb : ClassId} {sc : Int32} {bs : List Value} {b : Addr} {kc : ClassId} {c0 c1 c2 : Int32} {dv : Value} (nx : n0 ≤ x) (nb : n0 ≤ tb) {h : Heap} (hO : Old Z n0 h) (Ex : Exa Z h x "java/lang/StringBuilder") (Fv : Fld Z h x "java/lang/AbstractStringBuilder" "value" "[B" (.ref tb)) (Fk : Fld Z h x "java/lang/AbstractStringBuilder" "coder" "B" (.int (0 : Int32))) (Fs : Fld Z h x "java/lang/AbstractStringBuilder" "count" "I" (.int sc)) (Vb : Arv Z h tb kb .byte (16 : Int32) bs (.int (0 : Int32))) (Vc : Arv Z h b kc .char (3 : Int32) [(.int c0), (.int c1), (.int c2)] dv) (rc0 : ¬ c0 < 0 ∧ ¬ (255 : Int32) < c0) (rc1 : ¬ c1 < 0 ∧ ¬ (255 : Int32) < c1) (rc2 : ¬ c2 < 0 ∧ ¬ (255 : Int32) < c2) (h0 : 0 ≤ sc.toInt) (h2 : sc.toInt + 1 ≤ 16) (hbl : bs.length = 16) :
    Ctr l Z EL1 n0 (⟨"java/lang/AbstractStringBuilder", "appendChars", "([CII)V"⟩ : MethodName) jdk_68_method_74_code 9 none ({ frames := 1, cells := 0, slots := 0, locals := 12 } : Room) #[(.ref x), (.ref b), (.int (1 : Int32)), (.int (2 : Int32))] h [tb] (fun v h' => v = none ∧ ∃ (sc' : Int32) (bs' : List Value), Keep h h' [x, tb] ∧ Exa Z h' x "java/lang/StringBuilder" ∧ Fld Z h' x "java/lang/AbstractStringBuilder" "value" "[B" (.ref tb) ∧ Fld Z h' x "java/lang/AbstractStringBuilder" "coder" "B" (.int (0 : Int32)) ∧ Fld Z h' x "java/lang/AbstractStringBuilder" "count" "I" (.int sc') ∧ Arv Z h' tb kb .byte (16 : Int32) bs' (.int (0 : Int32)) ∧ bs'.length = 16 ∧ sc'.toInt = sc.toInt + 1) := by
  have hw := X.hw
  obtain ⟨z1, hz1, hz2⟩ := X.2.2.1
  refine Ctr.intro (a0 := a0) (plainFor_of_name pn0) hO X.ew ?_
  intro p e s m below meth c T0 V0 S0 hby hml hret hnm hsf
  rw [ef15]
  have nXB : x ≠ tb := Exa.neArv Ex Vb (w10 hw)
  have nXC : x ≠ b := Exa.neArv Ex Vc (w10 hw)
  have nBC : tb ≠ b := arv_kne Vb Vc (by decide)
  show Go p e below _ (T0.setTop (mkF m 0 #[.val (.ref x), .val (.ref b), .val (.int (1 : Int32)), .val (.int (2 : Int32)), .unset, .unset, .unset, .unset, .unset] []))
  refine s_aloadN S0 (hb hby dAP11_0) rfl rfl (pc' := 1) rfl ?_
  refine g_getF S0 (w95 hw) Via.refl Fs (hb hby dAP11_1) ?_
  intro T649 ST649
  show Go p e below _ (T649.setTop (mkF m 4 #[.val (.ref x), .val (.ref b), .val (.int (1 : Int32)), .val (.int (2 : Int32)), .unset, .unset, .unset, .unset, .unset] [(.int sc)]))
  refine s_istore ST649 (hb hby dAP11_4) (L' := #[.val (.ref x), .val (.ref b), .val (.int (1 : Int32)), .val (.int (2 : Int32)), .val (.int sc), .unset, .unset, .unset, .unset]) rfl (pc' := 6) rfl ?_
  refine s_aloadN ST649 (hb hby dAP11_6) rfl rfl (pc' := 7) rfl ?_
  show Go p e below _ (T649.setTop (mkF m 7 #[.val (.ref x), .val (.ref b), .val (.int (1 : Int32)), .val (.int (2 : Int32)), .val (.int sc), .unset, .unset, .unset, .unset] [(.ref x)]))
  refine g_virtual ST649 (rmIL X ST649.old Ex Fv Fk Fs) (fun _ q => nomatch q) (w180 hw) (w181 hw) (w183 hw) (w182 hw) (w19 hw) (w184 hw) (by decide) (fun _ h => notFace_of_selects h) (hb hby dAP11_7) (by rw [hml]; rfl) x Ex [] (lenOf pd16 rfl) rfl rfl (Nat.le_of_ble_eq_true rfl) (Nat.le_of_ble_eq_true rfl) (Nat.le_of_ble_eq_true rfl) (Nat.le_of_ble_eq_true rfl) ?_
  intro v650 T650 V650 h650 S650 C650 q650
  obtain ⟨rfl, rfl⟩ := q650
  have sf651 := C650.safe Vb.lt (hsf tb List.mem_cons_self)
  show Go p e below _ (T650.setTop (mkF m 10 #[.val (.ref x), .val (.ref b), .val (.int (1 : Int32)), .val (.int (2 : Int32)), .val (.int sc), .unset, .unset, .unset, .unset] [(.int (1 : Int32))]))
  refine s_ifN S650 (hb hby dAP11_10) (by decide) (pc' := 13) rfl ?_
  refine s_aloadN S650 (hb hby dAP11_13) rfl rfl (pc' := 14) rfl ?_
  refine g_getF S650 (w25 hw) Via.refl Fv (hb hby dAP11_14) ?_
  intro T652 ST652
  show Go p e below _ (T652.setTop (mkF m 17 #[.val (.ref x), .val (.ref b), .val (.int (1 : Int32)), .val (.int (2 : Int32)), .val (.int sc), .unset, .unset, .unset, .unset] [(.ref tb)]))
  refine s_astore ST652 (hb hby dAP11_17) rfl (L' := #[.val (.ref x), .val (.ref b), .val (.int (1 : Int32)), .val (.int (2 : Int32)), .val (.int sc), .val (.ref tb), .unset, .unset, .unset]) rfl (pc' := 19) rfl ?_
  refine s_iloadN ST652 (hb hby dAP11_19) rfl (pc' := 20) rfl ?_
  refine s_istore ST652 (hb hby dAP11_20) (L' := #[.val (.ref x), .val (.ref b), .val (.int (1 : Int32)), .val (.int (2 : Int32)), .val (.int sc), .val (.ref tb), .val (.int (1 : Int32)), .unset, .unset]) rfl (pc' := 22) rfl ?_
  refine s_iload ST652 (hb hby dAP11_22) rfl (pc' := 24) rfl ?_
  refine s_istore ST652 (hb hby dAP11_24) (L' := #[.val (.ref x), .val (.ref b), .val (.int (1 : Int32)), .val (.int (2 : Int32)), .val (.int sc), .val (.ref tb), .val (.int (1 : Int32)), .val (.int sc), .unset]) rfl (pc' := 26) rfl ?_
  refine s_iload ST652 (hb hby dAP11_26) rfl (pc' := 28) rfl ?_
  refine s_iloadN ST652 (hb hby dAP11_28) rfl (pc' := 29) rfl ?_
  refine s_icmpN ST652 (hb hby dAP11_29) (by decide) (pc' := 32) rfl ?_
  refine s_aloadN ST652 (hb hby dAP11_32) rfl rfl (pc' := 33) rfl ?_
  refine s_iload ST652 (hb hby dAP11_33) rfl (pc' := 35) rfl ?_
  refine g_caload ST652 Vc ⟨by decide, by decide⟩ (x := c1) rfl (hb hby dAP11_35) ?_
  show Go p e below _ (T652.setTop (mkF m 36 #[.val (.ref x), .val (.ref b), .val (.int (1 : Int32)), .val (.int (2 : Int32)), .val (.int sc), .val (.ref tb), .val (.int (1 : Int32)), .val (.int sc), .unset] [(.int c1)]))
  refine s_istore ST652 (hb hby dAP11_36) (L' := #[.val (.ref x), .val (.ref b), .val (.int (1 : Int32)), .val (.int (2 : Int32)), .val (.int sc), .val (.ref tb), .val (.int (1 : Int32)), .val (.int sc), .val (.int c1)]) rfl (pc' := 38) rfl ?_
  refine s_iload ST652 (hb hby dAP11_38) rfl (pc' := 40) rfl ?_
  show Go p e below _ (T652.setTop (mkF m 40 #[.val (.ref x), .val (.ref b), .val (.int (1 : Int32)), .val (.int (2 : Int32)), .val (.int sc), .val (.ref tb), .val (.int (1 : Int32)), .val (.int sc), .val (.int c1)] [(.int c1)]))
  refine g_static ST652 (rmCE X ST652.old rc1) (fun _ q => nomatch q) (w185 hw) (w186 hw) (w187 hw) (w188 hw) (by decide) (hb hby dAP11_40) (by rw [hml]; rfl) [(.int c1)] (lenOf pd13 rfl) rfl rfl (Nat.le_of_ble_eq_true rfl) (Nat.le_of_ble_eq_true rfl) (Nat.le_of_ble_eq_true rfl) (Nat.le_of_ble_eq_true rfl) ?_
  intro v653 T653 V653 h653 S653 C653 q653
  obtain ⟨rfl, rfl⟩ := q653
  have sf654 := C653.safe Vb.lt sf651
  show Go p e below _ (T653.setTop (mkF m 43 #[.val (.ref x), .val (.ref b), .val (.int (1 : Int32)), .val (.int (2 : Int32)), .val (.int sc), .val (.ref tb), .val (.int (1 : Int32)), .val (.int sc), .val (.int c1)] [(.int (1 : Int32))]))
  refine s_ifN S653 (hb hby dAP11_43) (by decide) (pc' := 46) rfl ?_
  refine s_aload S653 (hb hby dAP11_46) rfl rfl (pc' := 48) rfl ?_
  refine s_iload S653 (hb hby dAP11_48) rfl (pc' := 50) rfl ?_
  refine s_iinc S653 (hb hby dAP11_50) rfl (z := (sc + (1 : Int32))) rfl (L' := #[.val (.ref x), .val (.ref b), .val (.int (1 : Int32)), .val (.int (2 : Int32)), .val (.int sc), .val (.ref tb), .val (.int (1 : Int32)), .val (.int (sc + (1 : Int32))), .val (.int c1)]) rfl (pc' := 53) rfl ?_
  refine s_iload S653 (hb hby dAP11_53) rfl (pc' := 55) rfl ?_
  refine s_i2b S653 (hb hby dAP11_55) (z := (c1.toInt8.toInt32)) rfl (pc' := 56) rfl ?_
  show Go p e below _ (T653.setTop (mkF m 56 #[.val (.ref x), .val (.ref b), .val (.int (1 : Int32)), .val (.int (2 : Int32)), .val (.int sc), .val (.ref tb), .val (.int (1 : Int32)), .val (.int (sc + (1 : Int32))), .val (.int c1)] [(.int (c1.toInt8.toInt32)), (.int sc), (.ref tb)]))
  refine g_bastore S653 Vb ⟨own_nn (by omega), own_lt16 (by omega)⟩ (sc).toNatClampNeg rfl (by have e := own_nat (x := sc) (by omega); omega) nb sf654 (hb hby dAP11_56) ?_
  intro T655 h655 S655 K655 V655 sg655
  obtain ⟨bs655, V655, lb655⟩ : ∃ bs1 : List Value, Arv Z h655 tb kb .byte (16 : Int32) bs1 (.int (0 : Int32)) ∧ bs1.length = 16 := ⟨_, V655, by rw [List.length_set]; exact hbl⟩
  have sf656 := Safe.keep K655 (sfS sf654 sf0) S653.chv sf654
  show Go p e below _ (T655.setTop (mkF m 57 #[.val (.ref x), .val (.ref b), .val (.int (1 : Int32)), .val (.int (2 : Int32)), .val (.int sc), .val (.ref tb), .val (.int (1 : Int32)), .val (.int (sc + (1 : Int32))), .val (.int c1)] []))
  refine s_goto S655 (hb hby dAP11_57) (by decide) (pcT := 98) (by decide) ?_
  refine s_iinc S655 (hb hby dAP11_98) rfl (z := (2 : Int32)) rfl (L' := #[.val (.ref x), .val (.ref b), .val (.int (1 : Int32)), .val (.int (2 : Int32)), .val (.int sc), .val (.ref tb), .val (.int (2 : Int32)), .val (.int (sc + (1 : Int32))), .val (.int c1)]) rfl (pc' := 101) rfl ?_
  refine s_goto S655 (hb hby dAP11_101) (by decide) (pcT := 26) (by decide) ?_
  refine s_iload S655 (hb hby dAP11_26) rfl (pc' := 28) rfl ?_
  refine s_iloadN S655 (hb hby dAP11_28) rfl (pc' := 29) rfl ?_
  refine s_icmpY S655 (hb hby dAP11_29) (by decide) (by decide) (pcT := 104) (by decide) ?_
  refine s_goto S655 (hb hby dAP11_104) (by decide) (pcT := 119) (by decide) ?_
  refine s_aloadN S655 (hb hby dAP11_119) rfl rfl (pc' := 120) rfl ?_
  refine s_iload S655 (hb hby dAP11_120) rfl (pc' := 122) rfl ?_
  refine s_iloadN S655 (hb hby dAP11_122) rfl (pc' := 123) rfl ?_
  refine s_iadd S655 (hb hby dAP11_123) (z := (sc + (2 : Int32))) rfl (pc' := 124) rfl ?_
  refine s_iloadN S655 (hb hby dAP11_124) rfl (pc' := 125) rfl ?_
  refine s_isub S655 (hb hby dAP11_125) (z := ((sc + (2 : Int32)) - (1 : Int32))) rfl (pc' := 126) rfl ?_
  show Go p e below _ (T655.setTop (mkF m 126 #[.val (.ref x), .val (.ref b), .val (.int (1 : Int32)), .val (.int (2 : Int32)), .val (.int sc), .val (.ref tb), .val (.int (2 : Int32)), .val (.int (sc + (1 : Int32))), .val (.int c1)] [(.int ((sc + (2 : Int32)) - (1 : Int32))), (.ref x)]))
  have F658 := Fs.keep K655 (ninS nXB nin0)
  have F659 := Ex.keep K655
  have F660 := Fv.keep K655 (ninS nXB nin0)
  have F661 := Fk.keep K655 (ninS nXB nin0)
  refine g_putF S655 (w95 hw) Via.refl F658 F659 (Or.inl (w96 hw)) (w10 hw) (ty := .int) (v' := (.int ((sc + (2 : Int32)) - (1 : Int32)))) (by decide) rfl rfl nx (Safe.exa S655.warm.alike F659 (by decide) (by decide)) (hb hby dAP11_126) ?_
  intro T657 h657 S657 K657 W657 A657 F657 sg657
  have sf662 := Safe.keep K657 (sfS (Safe.exa S655.warm.alike F659 (by decide) (by decide)) sf0) S655.chv sg655
  have F663 := F660.other W657 (Or.inr (slot_ne (Or.inl (w26 hw)) (Or.inl (w96 hw)) (by decide) (t := (.array .byte)) (t' := .int) (by decide) (by decide)))
  have F664 := F661.other W657 (Or.inr (slot_ne (Or.inl (w28 hw)) (Or.inl (w96 hw)) (by decide) (t := .byte) (t' := .int) (by decide) (by decide)))
  show Go p e below _ (T657.setTop (mkF m 129 #[.val (.ref x), .val (.ref b), .val (.int (1 : Int32)), .val (.int (2 : Int32)), .val (.int sc), .val (.ref tb), .val (.int (2 : Int32)), .val (.int (sc + (1 : Int32))), .val (.int c1)] []))
  show Go p e below _ (T657.setTop (mkF m 129 #[.val (.ref x), .val (.ref b), .val (.int (1 : Int32)), .val (.int (2 : Int32)), .val (.int sc), .val (.ref tb), .val (.int (2 : Int32)), .val (.int (sc + (1 : Int32))), .val (.int c1)] []))
  have KA665 := (Keep.refl h653 [x, tb])
  have KA666 := (KA665.trans K655 (allS (Or.inl (by simp)) all0))
  have KA667 : Keep h653 h657 [x, tb] := (KA666.trans K657 (allS (Or.inl (by simp)) all0))
  have F668 := V655.keep K657 (ninS (Ne.symm nXB) nin0)
  exact g_ret S657 (hb hby dAP11_129) hret ⟨rfl, _, _, KA667, A657, F663, F664, F657, F668, lb655, own_cnt (2 : Int32) (1 : Int32) 2 1 rfl rfl h0 (by omega) (by omega) (by omega)⟩
theorem dAA11_0 : decode jdk_68_method_29_code 0 = .ok (.iload_n 2, 1) := by decide +kernel
theorem dAA11_1 : decode jdk_68_method_29_code 1 = .ok (.iload_n 3, 1) := by decide +kernel
theorem dAA11_2 : decode jdk_68_method_29_code 2 = .ok (.iadd, 1) := by decide +kernel
theorem dAA11_3 : decode jdk_68_method_29_code 3 = .ok (.istore 4, 2) := by decide +kernel
theorem dAA11_5 : decode jdk_68_method_29_code 5 = .ok (.iload_n 2, 1) := by decide +kernel
theorem dAA11_6 : decode jdk_68_method_29_code 6 = .ok (.iload 4, 2) := by decide +kernel
theorem dAA11_8 : decode jdk_68_method_29_code 8 = .ok (.aload_n 1, 1) := by decide +kernel
theorem dAA11_9 : decode jdk_68_method_29_code 9 = .ok (.arraylength, 1) := by decide +kernel
theorem dAA11_10 : decode jdk_68_method_29_code 10 = .ok (.getstatic 183, 3) := by decide +kernel
theorem dAA11_13 : decode jdk_68_method_29_code 13 = .ok (.invokestatic 161, 3) := by decide +kernel
theorem dAA11_16 : decode jdk_68_method_29_code 16 = .ok (.pop, 1) := by decide +kernel
theorem dAA11_17 : decode jdk_68_method_29_code 17 = .ok (.aload_n 0, 1) := by decide +kernel
theorem dAA11_18 : decode jdk_68_method_29_code 18 = .ok (.aload_n 0, 1) := by decide +kernel
theorem dAA11_19 : decode jdk_68_method_29_code 19 = .ok (.getfield 79, 3) := by decide +kernel
theorem dAA11_22 : decode jdk_68_method_29_code 22 = .ok (.iload_n 3, 1) := by decide +kernel
theorem dAA11_23 : decode jdk_68_method_29_code 23 = .ok (.iadd, 1) := by decide +kernel
theorem dAA11_24 : decode jdk_68_method_29_code 24 = .ok (.invokevirtual 100, 3) := by decide +kernel
theorem dAA11_27 : decode jdk_68_method_29_code 27 = .ok (.aload_n 0, 1) := by decide +kernel
theorem dAA11_28 : decode jdk_68_method_29_code 28 = .ok (.aload_n 1, 1) := by decide +kernel
theorem dAA11_29 : decode jdk_68_method_29_code 29 = .ok (.iload_n 2, 1) := by decide +kernel
theorem dAA11_30 : decode jdk_68_method_29_code 30 = .ok (.iload 4, 2) := by decide +kernel
theorem dAA11_32 : decode jdk_68_method_29_code 32 = .ok (.invokevirtual 239, 3) := by decide +kernel
theorem dAA11_35 : decode jdk_68_method_29_code 35 = .ok (.aload_n 0, 1) := by decide +kernel
theorem dAA11_36 : decode jdk_68_method_29_code 36 = .ok (.areturn, 1) := by decide +kernel
set_option maxRecDepth 65536 in
set_option maxHeartbeats 40000000 in
theorem rmAA11 {l : Launch} {Z : State} {a0 : Array Value} {n0 : Nat} (X : Ctx Z a0) {x tb : Addr} {kb : ClassId} {sc : Int32} {bs : List Value} {b : Addr} {kc : ClassId} {c0 c1 c2 : Int32} {dv : Value} (nx : n0 ≤ x) (nb : n0 ≤ tb) {h : Heap} (hO : Old Z n0 h) (Ex : Exa Z h x "java/lang/StringBuilder") (Fv : Fld Z h x "java/lang/AbstractStringBuilder" "value" "[B" (.ref tb)) (Fk : Fld Z h x "java/lang/AbstractStringBuilder" "coder" "B" (.int (0 : Int32))) (Fs : Fld Z h x "java/lang/AbstractStringBuilder" "count" "I" (.int sc)) (Vb : Arv Z h tb kb .byte (16 : Int32) bs (.int (0 : Int32))) (Vc : Arv Z h b kc .char (3 : Int32) [(.int c0), (.int c1), (.int c2)] dv) (rc0 : ¬ c0 < 0 ∧ ¬ (255 : Int32) < c0) (rc1 : ¬ c1 < 0 ∧ ¬ (255 : Int32) < c1) (rc2 : ¬ c2 < 0 ∧ ¬ (255 : Int32) < c2) (h0 : 0 ≤ sc.toInt) (h2 : sc.toInt + 1 ≤ 16) (hbl : bs.length = 16) :
    Ctr l Z EL1 n0 (⟨"java/lang/AbstractStringBuilder", "append", "([CII)Ljava/lang/AbstractStringBuilder;"⟩ : MethodName) jdk_68_method_29_code 5 (some (.object "java/lang/AbstractStringBuilder")) ({ frames := 2, cells := 0, slots := 0, locals := 32 } : Room) #[(.ref x), (.ref b), (.int (1 : Int32)), (.int (1 : Int32))] h [tb] (fun v h' => v = some (.ref x) ∧ ∃ (sc' : Int32) (bs' : List Value), Keep h h' [x, tb] ∧ Exa Z h' x "java/lang/StringBuilder" ∧ Fld Z h' x "java/lang/AbstractStringBuilder" "value" "[B" (.ref tb) ∧ Fld Z h' x "java/lang/AbstractStringBuilder" "coder" "B" (.int (0 : Int32)) ∧ Fld Z h' x "java/lang/AbstractStringBuilder" "count" "I" (.int sc') ∧ Arv Z h' tb kb .byte (16 : Int32) bs' (.int (0 : Int32)) ∧ bs'.length = 16 ∧ sc'.toInt = sc.toInt + 1) := by
  have hw := X.hw
  obtain ⟨z1, hz1, hz2⟩ := X.2.2.1
  refine Ctr.intro (a0 := a0) (plainFor_of_name pn0) hO X.ew ?_
  intro p e s m below meth c T0 V0 S0 hby hml hret hnm hsf
  rw [ef16]
  obtain ⟨fm, hfm, rfm⟩ := X.2.2.2.2
  rcases ref_cases rfm with rfl | ⟨fb, rfl⟩
  · skip
    have nXB : x ≠ tb := Exa.neArv Ex Vb (w10 hw)
    have nXC : x ≠ b := Exa.neArv Ex Vc (w10 hw)
    have nBC : tb ≠ b := arv_kne Vb Vc (by decide)
    have em := own_addl (x := sc) (1 : Int32) 1 rfl h0 (by omega) (by omega)
    show Go p e below _ (T0.setTop (mkF m 0 #[.val (.ref x), .val (.ref b), .val (.int (1 : Int32)), .val (.int (1 : Int32)), .unset] []))
    refine s_iloadN S0 (hb hby dAA11_0) rfl (pc' := 1) rfl ?_
    refine s_iloadN S0 (hb hby dAA11_1) rfl (pc' := 2) rfl ?_
    refine s_iadd S0 (hb hby dAA11_2) (z := (2 : Int32)) rfl (pc' := 3) rfl ?_
    refine s_istore S0 (hb hby dAA11_3) (L' := #[.val (.ref x), .val (.ref b), .val (.int (1 : Int32)), .val (.int (1 : Int32)), .val (.int (2 : Int32))]) rfl (pc' := 5) rfl ?_
    refine s_iloadN S0 (hb hby dAA11_5) rfl (pc' := 6) rfl ?_
    refine s_iload S0 (hb hby dAA11_6) rfl (pc' := 8) rfl ?_
    refine s_aloadN S0 (hb hby dAA11_8) rfl rfl (pc' := 9) rfl ?_
    refine g_len S0 Vc (hb hby dAA11_9) ?_
    show Go p e below _ (T0.setTop (mkF m 10 #[.val (.ref x), .val (.ref b), .val (.int (1 : Int32)), .val (.int (1 : Int32)), .val (.int (2 : Int32))] [(.int (3 : Int32)), (.int (2 : Int32)), (.int (1 : Int32))]))
    refine g_getS S0 (w169 hw) Via.refl (hfm.ext S0.old.2) (hb hby dAA11_10) ?_
    intro T669 ST669
    show Go p e below _ (T669.setTop (mkF m 13 #[.val (.ref x), .val (.ref b), .val (.int (1 : Int32)), .val (.int (1 : Int32)), .val (.int (2 : Int32))] [.null, (.int (3 : Int32)), (.int (2 : Int32)), (.int (1 : Int32))]))
    show Go p e below _ (T669.setTop (mkF m 13 #[.val (.ref x), .val (.ref b), .val (.int (1 : Int32)), .val (.int (1 : Int32)), .val (.int (2 : Int32))] [.null, (.int (3 : Int32)), (.int (2 : Int32)), (.int (1 : Int32))]))
    refine g_static ST669 (rmCF123n X ST669.old) (fun _ q => nomatch q) (w172 hw) (w173 hw) (w170 hw) (w174 hw) (by decide) (hb hby dAA11_13) (by rw [hml]; rfl) [(.int (1 : Int32)), (.int (2 : Int32)), (.int (3 : Int32)), .null] (lenOf pd17 rfl) rfl rfl (Nat.le_of_ble_eq_true rfl) (Nat.le_of_ble_eq_true rfl) (Nat.le_of_ble_eq_true rfl) (Nat.le_of_ble_eq_true rfl) ?_
    intro v670 T670 V670 h670 S670 C670 q670
    obtain ⟨rfl, rfl⟩ := q670
    have sf671 := C670.safe Vb.lt (hsf tb List.mem_cons_self)
    show Go p e below _ (T670.setTop (mkF m 16 #[.val (.ref x), .val (.ref b), .val (.int (1 : Int32)), .val (.int (1 : Int32)), .val (.int (2 : Int32))] [(.int (1 : Int32))]))
    refine s_pop S670 (hb hby dAA11_16) rfl (pc' := 17) rfl ?_
    refine s_aloadN S670 (hb hby dAA11_17) rfl rfl (pc' := 18) rfl ?_
    refine s_aloadN S670 (hb hby dAA11_18) rfl rfl (pc' := 19) rfl ?_
    refine g_getF S670 (w95 hw) Via.refl Fs (hb hby dAA11_19) ?_
    intro T672 ST672
    show Go p e below _ (T672.setTop (mkF m 22 #[.val (.ref x), .val (.ref b), .val (.int (1 : Int32)), .val (.int (1 : Int32)), .val (.int (2 : Int32))] [(.int sc), (.ref x)]))
    refine s_iloadN ST672 (hb hby dAA11_22) rfl (pc' := 23) rfl ?_
    refine s_iadd ST672 (hb hby dAA11_23) (z := (sc + (1 : Int32))) rfl (pc' := 24) rfl ?_
    show Go p e below _ (T672.setTop (mkF m 24 #[.val (.ref x), .val (.ref b), .val (.int (1 : Int32)), .val (.int (1 : Int32)), .val (.int (2 : Int32))] [(.int (sc + (1 : Int32))), (.ref x)]))
    refine g_private ST672 (rmEG X ST672.old Ex Fv Fk Fs Vb (by omega) (by omega)) (fun _ q => nomatch q) (w97 hw) (ni_sel (w100 hw) rfl) (w99 hw) (w98 hw) (w19 hw) (w101 hw) (by decide) (hb hby dAA11_24) (by rw [hml]; rfl) x Ex [(.int (sc + (1 : Int32)))] (lenOf pd0 rfl) rfl rfl (Nat.le_of_ble_eq_true rfl) (Nat.le_of_ble_eq_true rfl) (Nat.le_of_ble_eq_true rfl) (Nat.le_of_ble_eq_true rfl) ?_
    intro v673 T673 V673 h673 S673 C673 q673
    obtain ⟨rfl, rfl⟩ := q673
    have sf674 := C673.safe Vb.lt sf671
    show Go p e below _ (T673.setTop (mkF m 27 #[.val (.ref x), .val (.ref b), .val (.int (1 : Int32)), .val (.int (1 : Int32)), .val (.int (2 : Int32))] []))
    refine s_aloadN S673 (hb hby dAA11_27) rfl rfl (pc' := 28) rfl ?_
    refine s_aloadN S673 (hb hby dAA11_28) rfl rfl (pc' := 29) rfl ?_
    refine s_iloadN S673 (hb hby dAA11_29) rfl (pc' := 30) rfl ?_
    refine s_iload S673 (hb hby dAA11_30) rfl (pc' := 32) rfl ?_
    show Go p e below _ (T673.setTop (mkF m 32 #[.val (.ref x), .val (.ref b), .val (.int (1 : Int32)), .val (.int (1 : Int32)), .val (.int (2 : Int32))] [(.int (2 : Int32)), (.int (1 : Int32)), (.ref b), (.ref x)]))
    refine g_private S673 (rmAP11 X nx nb S673.old Ex Fv Fk Fs Vb Vc rc0 rc1 rc2 h0 h2 hbl) (sf1 Vb.lt sf674) (w175 hw) (ni_sel (w100 hw) rfl) (w177 hw) (w176 hw) (w19 hw) (w179 hw) (by decide) (hb hby dAA11_32) (by rw [hml]; rfl) x Ex [(.ref b), (.int (1 : Int32)), (.int (2 : Int32))] (lenOf pd18 rfl) rfl rfl (Nat.le_of_ble_eq_true rfl) (Nat.le_of_ble_eq_true rfl) (Nat.le_of_ble_eq_true rfl) (Nat.le_of_ble_eq_true rfl) ?_
    intro v675 T675 V675 h675 S675 C675 q675
    obtain ⟨rfl, q1⟩ := q675
    have sf676 := C675.safe Vb.lt sf674
    show Go p e below _ (T675.setTop (mkF m 35 #[.val (.ref x), .val (.ref b), .val (.int (1 : Int32)), .val (.int (1 : Int32)), .val (.int (2 : Int32))] []))
    refine s_aloadN S675 (hb hby dAA11_35) rfl rfl (pc' := 36) rfl ?_
    exact g_aret S675 (hb hby dAA11_36) hret rfl rfl rfl ⟨rfl, q1⟩
  · skip
    have nXB : x ≠ tb := Exa.neArv Ex Vb (w10 hw)
    have nXC : x ≠ b := Exa.neArv Ex Vc (w10 hw)
    have nBC : tb ≠ b := arv_kne Vb Vc (by decide)
    have em := own_addl (x := sc) (1 : Int32) 1 rfl h0 (by omega) (by omega)
    show Go p e below _ (T0.setTop (mkF m 0 #[.val (.ref x), .val (.ref b), .val (.int (1 : Int32)), .val (.int (1 : Int32)), .unset] []))
    refine s_iloadN S0 (hb hby dAA11_0) rfl (pc' := 1) rfl ?_
    refine s_iloadN S0 (hb hby dAA11_1) rfl (pc' := 2) rfl ?_
    refine s_iadd S0 (hb hby dAA11_2) (z := (2 : Int32)) rfl (pc' := 3) rfl ?_
    refine s_istore S0 (hb hby dAA11_3) (L' := #[.val (.ref x), .val (.ref b), .val (.int (1 : Int32)), .val (.int (1 : Int32)), .val (.int (2 : Int32))]) rfl (pc' := 5) rfl ?_
    refine s_iloadN S0 (hb hby dAA11_5) rfl (pc' := 6) rfl ?_
    refine s_iload S0 (hb hby dAA11_6) rfl (pc' := 8) rfl ?_
    refine s_aloadN S0 (hb hby dAA11_8) rfl rfl (pc' := 9) rfl ?_
    refine g_len S0 Vc (hb hby dAA11_9) ?_
    show Go p e below _ (T0.setTop (mkF m 10 #[.val (.ref x), .val (.ref b), .val (.int (1 : Int32)), .val (.int (1 : Int32)), .val (.int (2 : Int32))] [(.int (3 : Int32)), (.int (2 : Int32)), (.int (1 : Int32))]))
    refine g_getS S0 (w169 hw) Via.refl (hfm.ext S0.old.2) (hb hby dAA11_10) ?_
    intro T677 ST677
    show Go p e below _ (T677.setTop (mkF m 13 #[.val (.ref x), .val (.ref b), .val (.int (1 : Int32)), .val (.int (1 : Int32)), .val (.int (2 : Int32))] [(.ref fb), (.int (3 : Int32)), (.int (2 : Int32)), (.int (1 : Int32))]))
    show Go p e below _ (T677.setTop (mkF m 13 #[.val (.ref x), .val (.ref b), .val (.int (1 : Int32)), .val (.int (1 : Int32)), .val (.int (2 : Int32))] [(.ref fb), (.int (3 : Int32)), (.int (2 : Int32)), (.int (1 : Int32))]))
    refine g_static ST677 (rmCF123r X fb ST677.old) (fun _ q => nomatch q) (w172 hw) (w173 hw) (w170 hw) (w174 hw) (by decide) (hb hby dAA11_13) (by rw [hml]; rfl) [(.int (1 : Int32)), (.int (2 : Int32)), (.int (3 : Int32)), (.ref fb)] (lenOf pd17 rfl) rfl rfl (Nat.le_of_ble_eq_true rfl) (Nat.le_of_ble_eq_true rfl) (Nat.le_of_ble_eq_true rfl) (Nat.le_of_ble_eq_true rfl) ?_
    intro v678 T678 V678 h678 S678 C678 q678
    obtain ⟨rfl, rfl⟩ := q678
    have sf679 := C678.safe Vb.lt (hsf tb List.mem_cons_self)
    show Go p e below _ (T678.setTop (mkF m 16 #[.val (.ref x), .val (.ref b), .val (.int (1 : Int32)), .val (.int (1 : Int32)), .val (.int (2 : Int32))] [(.int (1 : Int32))]))
    refine s_pop S678 (hb hby dAA11_16) rfl (pc' := 17) rfl ?_
    refine s_aloadN S678 (hb hby dAA11_17) rfl rfl (pc' := 18) rfl ?_
    refine s_aloadN S678 (hb hby dAA11_18) rfl rfl (pc' := 19) rfl ?_
    refine g_getF S678 (w95 hw) Via.refl Fs (hb hby dAA11_19) ?_
    intro T680 ST680
    show Go p e below _ (T680.setTop (mkF m 22 #[.val (.ref x), .val (.ref b), .val (.int (1 : Int32)), .val (.int (1 : Int32)), .val (.int (2 : Int32))] [(.int sc), (.ref x)]))
    refine s_iloadN ST680 (hb hby dAA11_22) rfl (pc' := 23) rfl ?_
    refine s_iadd ST680 (hb hby dAA11_23) (z := (sc + (1 : Int32))) rfl (pc' := 24) rfl ?_
    show Go p e below _ (T680.setTop (mkF m 24 #[.val (.ref x), .val (.ref b), .val (.int (1 : Int32)), .val (.int (1 : Int32)), .val (.int (2 : Int32))] [(.int (sc + (1 : Int32))), (.ref x)]))
    refine g_private ST680 (rmEG X ST680.old Ex Fv Fk Fs Vb (by omega) (by omega)) (fun _ q => nomatch q) (w97 hw) (ni_sel (w100 hw) rfl) (w99 hw) (w98 hw) (w19 hw) (w101 hw) (by decide) (hb hby dAA11_24) (by rw [hml]; rfl) x Ex [(.int (sc + (1 : Int32)))] (lenOf pd0 rfl) rfl rfl (Nat.le_of_ble_eq_true rfl) (Nat.le_of_ble_eq_true rfl) (Nat.le_of_ble_eq_true rfl) (Nat.le_of_ble_eq_true rfl) ?_
    intro v681 T681 V681 h681 S681 C681 q681
    obtain ⟨rfl, rfl⟩ := q681
    have sf682 := C681.safe Vb.lt sf679
    show Go p e below _ (T681.setTop (mkF m 27 #[.val (.ref x), .val (.ref b), .val (.int (1 : Int32)), .val (.int (1 : Int32)), .val (.int (2 : Int32))] []))
    refine s_aloadN S681 (hb hby dAA11_27) rfl rfl (pc' := 28) rfl ?_
    refine s_aloadN S681 (hb hby dAA11_28) rfl rfl (pc' := 29) rfl ?_
    refine s_iloadN S681 (hb hby dAA11_29) rfl (pc' := 30) rfl ?_
    refine s_iload S681 (hb hby dAA11_30) rfl (pc' := 32) rfl ?_
    show Go p e below _ (T681.setTop (mkF m 32 #[.val (.ref x), .val (.ref b), .val (.int (1 : Int32)), .val (.int (1 : Int32)), .val (.int (2 : Int32))] [(.int (2 : Int32)), (.int (1 : Int32)), (.ref b), (.ref x)]))
    refine g_private S681 (rmAP11 X nx nb S681.old Ex Fv Fk Fs Vb Vc rc0 rc1 rc2 h0 h2 hbl) (sf1 Vb.lt sf682) (w175 hw) (ni_sel (w100 hw) rfl) (w177 hw) (w176 hw) (w19 hw) (w179 hw) (by decide) (hb hby dAA11_32) (by rw [hml]; rfl) x Ex [(.ref b), (.int (1 : Int32)), (.int (2 : Int32))] (lenOf pd18 rfl) rfl rfl (Nat.le_of_ble_eq_true rfl) (Nat.le_of_ble_eq_true rfl) (Nat.le_of_ble_eq_true rfl) (Nat.le_of_ble_eq_true rfl) ?_
    intro v683 T683 V683 h683 S683 C683 q683
    obtain ⟨rfl, q1⟩ := q683
    have sf684 := C683.safe Vb.lt sf682
    show Go p e below _ (T683.setTop (mkF m 35 #[.val (.ref x), .val (.ref b), .val (.int (1 : Int32)), .val (.int (1 : Int32)), .val (.int (2 : Int32))] []))
    refine s_aloadN S683 (hb hby dAA11_35) rfl rfl (pc' := 36) rfl ?_
    exact g_aret S683 (hb hby dAA11_36) hret rfl rfl rfl ⟨rfl, q1⟩
theorem dSA11_0 : decode jdk_67_method_12_code 0 = .ok (.aload_n 0, 1) := by decide +kernel
theorem dSA11_1 : decode jdk_67_method_12_code 1 = .ok (.aload_n 1, 1) := by decide +kernel
theorem dSA11_2 : decode jdk_67_method_12_code 2 = .ok (.iload_n 2, 1) := by decide +kernel
theorem dSA11_3 : decode jdk_67_method_12_code 3 = .ok (.iload_n 3, 1) := by decide +kernel
theorem dSA11_4 : decode jdk_67_method_12_code 4 = .ok (.invokespecial 44, 3) := by decide +kernel
theorem dSA11_7 : decode jdk_67_method_12_code 7 = .ok (.pop, 1) := by decide +kernel
theorem dSA11_8 : decode jdk_67_method_12_code 8 = .ok (.aload_n 0, 1) := by decide +kernel
theorem dSA11_9 : decode jdk_67_method_12_code 9 = .ok (.areturn, 1) := by decide +kernel
set_option maxRecDepth 65536 in
set_option maxHeartbeats 40000000 in
theorem rmSA11 {l : Launch} {Z : State} {a0 : Array Value} {n0 : Nat} (X : Ctx Z a0) {x tb : Addr} {kb : ClassId} {sc : Int32} {bs : List Value} {b : Addr} {kc : ClassId} {c0 c1 c2 : Int32} {dv : Value} (nx : n0 ≤ x) (nb : n0 ≤ tb) {h : Heap} (hO : Old Z n0 h) (Ex : Exa Z h x "java/lang/StringBuilder") (Fv : Fld Z h x "java/lang/AbstractStringBuilder" "value" "[B" (.ref tb)) (Fk : Fld Z h x "java/lang/AbstractStringBuilder" "coder" "B" (.int (0 : Int32))) (Fs : Fld Z h x "java/lang/AbstractStringBuilder" "count" "I" (.int sc)) (Vb : Arv Z h tb kb .byte (16 : Int32) bs (.int (0 : Int32))) (Vc : Arv Z h b kc .char (3 : Int32) [(.int c0), (.int c1), (.int c2)] dv) (rc0 : ¬ c0 < 0 ∧ ¬ (255 : Int32) < c0) (rc1 : ¬ c1 < 0 ∧ ¬ (255 : Int32) < c1) (rc2 : ¬ c2 < 0 ∧ ¬ (255 : Int32) < c2) (h0 : 0 ≤ sc.toInt) (h2 : sc.toInt + 1 ≤ 16) (hbl : bs.length = 16) :
    Ctr l Z EL1 n0 (⟨"java/lang/StringBuilder", "append", "([CII)Ljava/lang/StringBuilder;"⟩ : MethodName) jdk_67_method_12_code 4 (some (.object "java/lang/StringBuilder")) ({ frames := 3, cells := 0, slots := 0, locals := 48 } : Room) #[(.ref x), (.ref b), (.int (1 : Int32)), (.int (1 : Int32))] h [tb] (fun v h' => v = some (.ref x) ∧ ∃ (sc' : Int32) (bs' : List Value), Keep h h' [x, tb] ∧ Exa Z h' x "java/lang/StringBuilder" ∧ Fld Z h' x "java/lang/AbstractStringBuilder" "value" "[B" (.ref tb) ∧ Fld Z h' x "java/lang/AbstractStringBuilder" "coder" "B" (.int (0 : Int32)) ∧ Fld Z h' x "java/lang/AbstractStringBuilder" "count" "I" (.int sc') ∧ Arv Z h' tb kb .byte (16 : Int32) bs' (.int (0 : Int32)) ∧ bs'.length = 16 ∧ sc'.toInt = sc.toInt + 1) := by
  have hw := X.hw
  obtain ⟨z1, hz1, hz2⟩ := X.2.2.1
  refine Ctr.intro (a0 := a0) (plainFor_of_name pn1) hO X.ew ?_
  intro p e s m below meth c T0 V0 S0 hby hml hret hnm hsf
  rw [ef8]
  have nXB : x ≠ tb := Exa.neArv Ex Vb (w10 hw)
  have nXC : x ≠ b := Exa.neArv Ex Vc (w10 hw)
  have nBC : tb ≠ b := arv_kne Vb Vc (by decide)
  show Go p e below _ (T0.setTop (mkF m 0 #[.val (.ref x), .val (.ref b), .val (.int (1 : Int32)), .val (.int (1 : Int32))] []))
  refine s_aloadN S0 (hb hby dSA11_0) rfl rfl (pc' := 1) rfl ?_
  refine s_aloadN S0 (hb hby dSA11_1) rfl rfl (pc' := 2) rfl ?_
  refine s_iloadN S0 (hb hby dSA11_2) rfl (pc' := 3) rfl ?_
  refine s_iloadN S0 (hb hby dSA11_3) rfl (pc' := 4) rfl ?_
  show Go p e below _ (T0.setTop (mkF m 4 #[.val (.ref x), .val (.ref b), .val (.int (1 : Int32)), .val (.int (1 : Int32))] [(.int (1 : Int32)), (.int (1 : Int32)), (.ref b), (.ref x)]))
  refine g_super S0 (rmAA11 X nx nb S0.old Ex Fv Fk Fs Vb Vc rc0 rc1 rc2 h0 h2 hbl) (sf1 Vb.lt (hsf tb List.mem_cons_self)) (by decide) (w165 hw) (ni_sel (w100 hw) rfl) (w166 hw) (w82 hw) (w19 hw) (w168 hw) (by decide) (hb hby dSA11_4) (by rw [hml]; rfl) x Ex [(.ref b), (.int (1 : Int32)), (.int (1 : Int32))] (lenOf pd19 rfl) rfl rfl (Nat.le_of_ble_eq_true rfl) (Nat.le_of_ble_eq_true rfl) (Nat.le_of_ble_eq_true rfl) (Nat.le_of_ble_eq_true rfl) ?_
  intro v685 T685 V685 h685 S685 C685 q685
  obtain ⟨rfl, q1⟩ := q685
  have sf686 := C685.safe Vb.lt (hsf tb List.mem_cons_self)
  show Go p e below _ (T685.setTop (mkF m 7 #[.val (.ref x), .val (.ref b), .val (.int (1 : Int32)), .val (.int (1 : Int32))] [(.ref x)]))
  refine s_pop S685 (hb hby dSA11_7) rfl (pc' := 8) rfl ?_
  refine s_aloadN S685 (hb hby dSA11_8) rfl rfl (pc' := 9) rfl ?_
  exact g_aret S685 (hb hby dSA11_9) hret rfl rfl rfl ⟨rfl, q1⟩
theorem dAP12_0 : decode jdk_68_method_74_code 0 = .ok (.aload_n 0, 1) := by decide +kernel
theorem dAP12_1 : decode jdk_68_method_74_code 1 = .ok (.getfield 79, 3) := by decide +kernel
theorem dAP12_4 : decode jdk_68_method_74_code 4 = .ok (.istore 4, 2) := by decide +kernel
theorem dAP12_6 : decode jdk_68_method_74_code 6 = .ok (.aload_n 0, 1) := by decide +kernel
theorem dAP12_7 : decode jdk_68_method_74_code 7 = .ok (.invokevirtual 83, 3) := by decide +kernel
theorem dAP12_10 : decode jdk_68_method_74_code 10 = .ok (.ifCond .eq 97, 3) := by decide +kernel
theorem dAP12_13 : decode jdk_68_method_74_code 13 = .ok (.aload_n 0, 1) := by decide +kernel
theorem dAP12_14 : decode jdk_68_method_74_code 14 = .ok (.getfield 15, 3) := by decide +kernel
theorem dAP12_17 : decode jdk_68_method_74_code 17 = .ok (.astore 5, 2) := by decide +kernel
theorem dAP12_19 : decode jdk_68_method_74_code 19 = .ok (.iload_n 2, 1) := by decide +kernel
theorem dAP12_20 : decode jdk_68_method_74_code 20 = .ok (.istore 6, 2) := by decide +kernel
theorem dAP12_22 : decode jdk_68_method_74_code 22 = .ok (.iload 4, 2) := by decide +kernel
theorem dAP12_24 : decode jdk_68_method_74_code 24 = .ok (.istore 7, 2) := by decide +kernel
theorem dAP12_26 : decode jdk_68_method_74_code 26 = .ok (.iload 6, 2) := by decide +kernel
theorem dAP12_28 : decode jdk_68_method_74_code 28 = .ok (.iload_n 3, 1) := by decide +kernel
theorem dAP12_29 : decode jdk_68_method_74_code 29 = .ok (.if_icmp .ge 75, 3) := by decide +kernel
theorem dAP12_32 : decode jdk_68_method_74_code 32 = .ok (.aload_n 1, 1) := by decide +kernel
theorem dAP12_33 : decode jdk_68_method_74_code 33 = .ok (.iload 6, 2) := by decide +kernel
theorem dAP12_35 : decode jdk_68_method_74_code 35 = .ok (.caload, 1) := by decide +kernel
theorem dAP12_36 : decode jdk_68_method_74_code 36 = .ok (.istore 8, 2) := by decide +kernel
theorem dAP12_38 : decode jdk_68_method_74_code 38 = .ok (.iload 8, 2) := by decide +kernel
theorem dAP12_40 : decode jdk_68_method_74_code 40 = .ok (.invokestatic 191, 3) := by decide +kernel
theorem dAP12_43 : decode jdk_68_method_74_code 43 = .ok (.ifCond .eq 17, 3) := by decide +kernel
theorem dAP12_46 : decode jdk_68_method_74_code 46 = .ok (.aload 5, 2) := by decide +kernel
theorem dAP12_48 : decode jdk_68_method_74_code 48 = .ok (.iload 7, 2) := by decide +kernel
theorem dAP12_50 : decode jdk_68_method_74_code 50 = .ok (.iinc 7 1, 3) := by decide +kernel
theorem dAP12_53 : decode jdk_68_method_74_code 53 = .ok (.iload 8, 2) := by decide +kernel
theorem dAP12_55 : decode jdk_68_method_74_code 55 = .ok (.i2b, 1) := by decide +kernel
theorem dAP12_56 : decode jdk_68_method_74_code 56 = .ok (.bastore, 1) := by decide +kernel
theorem dAP12_57 : decode jdk_68_method_74_code 57 = .ok (.goto 41, 3) := by decide +kernel
theorem dAP12_98 : decode jdk_68_method_74_code 98 = .ok (.iinc 6 1, 3) := by decide +kernel
theorem dAP12_101 : decode jdk_68_method_74_code 101 = .ok (.goto (-75), 3) := by decide +kernel
theorem dAP12_104 : decode jdk_68_method_74_code 104 = .ok (.goto 15, 3) := by decide +kernel
theorem dAP12_119 : decode jdk_68_method_74_code 119 = .ok (.aload_n 0, 1) := by decide +kernel
theorem dAP12_120 : decode jdk_68_method_74_code 120 = .ok (.iload 4, 2) := by decide +kernel
theorem dAP12_122 : decode jdk_68_method_74_code 122 = .ok (.iload_n 3, 1) := by decide +kernel
theorem dAP12_123 : decode jdk_68_method_74_code 123 = .ok (.iadd, 1) := by decide +kernel
theorem dAP12_124 : decode jdk_68_method_74_code 124 = .ok (.iload_n 2, 1) := by decide +kernel
theorem dAP12_125 : decode jdk_68_method_74_code 125 = .ok (.isub, 1) := by decide +kernel
theorem dAP12_126 : decode jdk_68_method_74_code 126 = .ok (.putfield 79, 3) := by decide +kernel
theorem dAP12_129 : decode jdk_68_method_74_code 129 = .ok (.return_, 1) := by decide +kernel
set_option maxRecDepth 65536 in
set_option maxHeartbeats 40000000 in
theorem rmAP12 {l : Launch} {Z : State} {a0 : Array Value} {n0 : Nat} (X : Ctx Z a0) {x tb : Addr} {kb : ClassId} {sc : Int32} {bs : List Value} {b : Addr} {kc : ClassId} {c0 c1 c2 : Int32} {dv : Value} (nx : n0 ≤ x) (nb : n0 ≤ tb) {h : Heap} (hO : Old Z n0 h) (Ex : Exa Z h x "java/lang/StringBuilder") (Fv : Fld Z h x "java/lang/AbstractStringBuilder" "value" "[B" (.ref tb)) (Fk : Fld Z h x "java/lang/AbstractStringBuilder" "coder" "B" (.int (0 : Int32))) (Fs : Fld Z h x "java/lang/AbstractStringBuilder" "count" "I" (.int sc)) (Vb : Arv Z h tb kb .byte (16 : Int32) bs (.int (0 : Int32))) (Vc : Arv Z h b kc .char (3 : Int32) [(.int c0), (.int c1), (.int c2)] dv) (rc0 : ¬ c0 < 0 ∧ ¬ (255 : Int32) < c0) (rc1 : ¬ c1 < 0 ∧ ¬ (255 : Int32) < c1) (rc2 : ¬ c2 < 0 ∧ ¬ (255 : Int32) < c2) (h0 : 0 ≤ sc.toInt) (h2 : sc.toInt + 2 ≤ 16) (hbl : bs.length = 16) :
    Ctr l Z EL1 n0 (⟨"java/lang/AbstractStringBuilder", "appendChars", "([CII)V"⟩ : MethodName) jdk_68_method_74_code 9 none ({ frames := 1, cells := 0, slots := 0, locals := 12 } : Room) #[(.ref x), (.ref b), (.int (1 : Int32)), (.int (3 : Int32))] h [tb] (fun v h' => v = none ∧ ∃ (sc' : Int32) (bs' : List Value), Keep h h' [x, tb] ∧ Exa Z h' x "java/lang/StringBuilder" ∧ Fld Z h' x "java/lang/AbstractStringBuilder" "value" "[B" (.ref tb) ∧ Fld Z h' x "java/lang/AbstractStringBuilder" "coder" "B" (.int (0 : Int32)) ∧ Fld Z h' x "java/lang/AbstractStringBuilder" "count" "I" (.int sc') ∧ Arv Z h' tb kb .byte (16 : Int32) bs' (.int (0 : Int32)) ∧ bs'.length = 16 ∧ sc'.toInt = sc.toInt + 2) := by
  have hw := X.hw
  obtain ⟨z1, hz1, hz2⟩ := X.2.2.1
  refine Ctr.intro (a0 := a0) (plainFor_of_name pn0) hO X.ew ?_
  intro p e s m below meth c T0 V0 S0 hby hml hret hnm hsf
  rw [ef15]
  have nXB : x ≠ tb := Exa.neArv Ex Vb (w10 hw)
  have nXC : x ≠ b := Exa.neArv Ex Vc (w10 hw)
  have nBC : tb ≠ b := arv_kne Vb Vc (by decide)
  have ei1 : (sc + (1 : Int32)).toInt = sc.toInt + 1 := by rw [own_inc h0 (by omega)]
  show Go p e below _ (T0.setTop (mkF m 0 #[.val (.ref x), .val (.ref b), .val (.int (1 : Int32)), .val (.int (3 : Int32)), .unset, .unset, .unset, .unset, .unset] []))
  refine s_aloadN S0 (hb hby dAP12_0) rfl rfl (pc' := 1) rfl ?_
  refine g_getF S0 (w95 hw) Via.refl Fs (hb hby dAP12_1) ?_
  intro T687 ST687
  show Go p e below _ (T687.setTop (mkF m 4 #[.val (.ref x), .val (.ref b), .val (.int (1 : Int32)), .val (.int (3 : Int32)), .unset, .unset, .unset, .unset, .unset] [(.int sc)]))
  refine s_istore ST687 (hb hby dAP12_4) (L' := #[.val (.ref x), .val (.ref b), .val (.int (1 : Int32)), .val (.int (3 : Int32)), .val (.int sc), .unset, .unset, .unset, .unset]) rfl (pc' := 6) rfl ?_
  refine s_aloadN ST687 (hb hby dAP12_6) rfl rfl (pc' := 7) rfl ?_
  show Go p e below _ (T687.setTop (mkF m 7 #[.val (.ref x), .val (.ref b), .val (.int (1 : Int32)), .val (.int (3 : Int32)), .val (.int sc), .unset, .unset, .unset, .unset] [(.ref x)]))
  refine g_virtual ST687 (rmIL X ST687.old Ex Fv Fk Fs) (fun _ q => nomatch q) (w180 hw) (w181 hw) (w183 hw) (w182 hw) (w19 hw) (w184 hw) (by decide) (fun _ h => notFace_of_selects h) (hb hby dAP12_7) (by rw [hml]; rfl) x Ex [] (lenOf pd16 rfl) rfl rfl (Nat.le_of_ble_eq_true rfl) (Nat.le_of_ble_eq_true rfl) (Nat.le_of_ble_eq_true rfl) (Nat.le_of_ble_eq_true rfl) ?_
  intro v688 T688 V688 h688 S688 C688 q688
  obtain ⟨rfl, rfl⟩ := q688
  have sf689 := C688.safe Vb.lt (hsf tb List.mem_cons_self)
  show Go p e below _ (T688.setTop (mkF m 10 #[.val (.ref x), .val (.ref b), .val (.int (1 : Int32)), .val (.int (3 : Int32)), .val (.int sc), .unset, .unset, .unset, .unset] [(.int (1 : Int32))]))
  refine s_ifN S688 (hb hby dAP12_10) (by decide) (pc' := 13) rfl ?_
  refine s_aloadN S688 (hb hby dAP12_13) rfl rfl (pc' := 14) rfl ?_
  refine g_getF S688 (w25 hw) Via.refl Fv (hb hby dAP12_14) ?_
  intro T690 ST690
  show Go p e below _ (T690.setTop (mkF m 17 #[.val (.ref x), .val (.ref b), .val (.int (1 : Int32)), .val (.int (3 : Int32)), .val (.int sc), .unset, .unset, .unset, .unset] [(.ref tb)]))
  refine s_astore ST690 (hb hby dAP12_17) rfl (L' := #[.val (.ref x), .val (.ref b), .val (.int (1 : Int32)), .val (.int (3 : Int32)), .val (.int sc), .val (.ref tb), .unset, .unset, .unset]) rfl (pc' := 19) rfl ?_
  refine s_iloadN ST690 (hb hby dAP12_19) rfl (pc' := 20) rfl ?_
  refine s_istore ST690 (hb hby dAP12_20) (L' := #[.val (.ref x), .val (.ref b), .val (.int (1 : Int32)), .val (.int (3 : Int32)), .val (.int sc), .val (.ref tb), .val (.int (1 : Int32)), .unset, .unset]) rfl (pc' := 22) rfl ?_
  refine s_iload ST690 (hb hby dAP12_22) rfl (pc' := 24) rfl ?_
  refine s_istore ST690 (hb hby dAP12_24) (L' := #[.val (.ref x), .val (.ref b), .val (.int (1 : Int32)), .val (.int (3 : Int32)), .val (.int sc), .val (.ref tb), .val (.int (1 : Int32)), .val (.int sc), .unset]) rfl (pc' := 26) rfl ?_
  refine s_iload ST690 (hb hby dAP12_26) rfl (pc' := 28) rfl ?_
  refine s_iloadN ST690 (hb hby dAP12_28) rfl (pc' := 29) rfl ?_
  refine s_icmpN ST690 (hb hby dAP12_29) (by decide) (pc' := 32) rfl ?_
  refine s_aloadN ST690 (hb hby dAP12_32) rfl rfl (pc' := 33) rfl ?_
  refine s_iload ST690 (hb hby dAP12_33) rfl (pc' := 35) rfl ?_
  refine g_caload ST690 Vc ⟨by decide, by decide⟩ (x := c1) rfl (hb hby dAP12_35) ?_
  show Go p e below _ (T690.setTop (mkF m 36 #[.val (.ref x), .val (.ref b), .val (.int (1 : Int32)), .val (.int (3 : Int32)), .val (.int sc), .val (.ref tb), .val (.int (1 : Int32)), .val (.int sc), .unset] [(.int c1)]))
  refine s_istore ST690 (hb hby dAP12_36) (L' := #[.val (.ref x), .val (.ref b), .val (.int (1 : Int32)), .val (.int (3 : Int32)), .val (.int sc), .val (.ref tb), .val (.int (1 : Int32)), .val (.int sc), .val (.int c1)]) rfl (pc' := 38) rfl ?_
  refine s_iload ST690 (hb hby dAP12_38) rfl (pc' := 40) rfl ?_
  show Go p e below _ (T690.setTop (mkF m 40 #[.val (.ref x), .val (.ref b), .val (.int (1 : Int32)), .val (.int (3 : Int32)), .val (.int sc), .val (.ref tb), .val (.int (1 : Int32)), .val (.int sc), .val (.int c1)] [(.int c1)]))
  refine g_static ST690 (rmCE X ST690.old rc1) (fun _ q => nomatch q) (w185 hw) (w186 hw) (w187 hw) (w188 hw) (by decide) (hb hby dAP12_40) (by rw [hml]; rfl) [(.int c1)] (lenOf pd13 rfl) rfl rfl (Nat.le_of_ble_eq_true rfl) (Nat.le_of_ble_eq_true rfl) (Nat.le_of_ble_eq_true rfl) (Nat.le_of_ble_eq_true rfl) ?_
  intro v691 T691 V691 h691 S691 C691 q691
  obtain ⟨rfl, rfl⟩ := q691
  have sf692 := C691.safe Vb.lt sf689
  show Go p e below _ (T691.setTop (mkF m 43 #[.val (.ref x), .val (.ref b), .val (.int (1 : Int32)), .val (.int (3 : Int32)), .val (.int sc), .val (.ref tb), .val (.int (1 : Int32)), .val (.int sc), .val (.int c1)] [(.int (1 : Int32))]))
  refine s_ifN S691 (hb hby dAP12_43) (by decide) (pc' := 46) rfl ?_
  refine s_aload S691 (hb hby dAP12_46) rfl rfl (pc' := 48) rfl ?_
  refine s_iload S691 (hb hby dAP12_48) rfl (pc' := 50) rfl ?_
  refine s_iinc S691 (hb hby dAP12_50) rfl (z := (sc + (1 : Int32))) rfl (L' := #[.val (.ref x), .val (.ref b), .val (.int (1 : Int32)), .val (.int (3 : Int32)), .val (.int sc), .val (.ref tb), .val (.int (1 : Int32)), .val (.int (sc + (1 : Int32))), .val (.int c1)]) rfl (pc' := 53) rfl ?_
  refine s_iload S691 (hb hby dAP12_53) rfl (pc' := 55) rfl ?_
  refine s_i2b S691 (hb hby dAP12_55) (z := (c1.toInt8.toInt32)) rfl (pc' := 56) rfl ?_
  show Go p e below _ (T691.setTop (mkF m 56 #[.val (.ref x), .val (.ref b), .val (.int (1 : Int32)), .val (.int (3 : Int32)), .val (.int sc), .val (.ref tb), .val (.int (1 : Int32)), .val (.int (sc + (1 : Int32))), .val (.int c1)] [(.int (c1.toInt8.toInt32)), (.int sc), (.ref tb)]))
  refine g_bastore S691 Vb ⟨own_nn (by omega), own_lt16 (by omega)⟩ (sc).toNatClampNeg rfl (by have e := own_nat (x := sc) (by omega); omega) nb sf692 (hb hby dAP12_56) ?_
  intro T693 h693 S693 K693 V693 sg693
  obtain ⟨bs693, V693, lb693⟩ : ∃ bs1 : List Value, Arv Z h693 tb kb .byte (16 : Int32) bs1 (.int (0 : Int32)) ∧ bs1.length = 16 := ⟨_, V693, by rw [List.length_set]; exact hbl⟩
  have sf694 := Safe.keep K693 (sfS sf692 sf0) S691.chv sf692
  show Go p e below _ (T693.setTop (mkF m 57 #[.val (.ref x), .val (.ref b), .val (.int (1 : Int32)), .val (.int (3 : Int32)), .val (.int sc), .val (.ref tb), .val (.int (1 : Int32)), .val (.int (sc + (1 : Int32))), .val (.int c1)] []))
  refine s_goto S693 (hb hby dAP12_57) (by decide) (pcT := 98) (by decide) ?_
  refine s_iinc S693 (hb hby dAP12_98) rfl (z := (2 : Int32)) rfl (L' := #[.val (.ref x), .val (.ref b), .val (.int (1 : Int32)), .val (.int (3 : Int32)), .val (.int sc), .val (.ref tb), .val (.int (2 : Int32)), .val (.int (sc + (1 : Int32))), .val (.int c1)]) rfl (pc' := 101) rfl ?_
  refine s_goto S693 (hb hby dAP12_101) (by decide) (pcT := 26) (by decide) ?_
  refine s_iload S693 (hb hby dAP12_26) rfl (pc' := 28) rfl ?_
  refine s_iloadN S693 (hb hby dAP12_28) rfl (pc' := 29) rfl ?_
  refine s_icmpN S693 (hb hby dAP12_29) (by decide) (pc' := 32) rfl ?_
  refine s_aloadN S693 (hb hby dAP12_32) rfl rfl (pc' := 33) rfl ?_
  refine s_iload S693 (hb hby dAP12_33) rfl (pc' := 35) rfl ?_
  have F695 := Vc.keep K693 (ninS (Ne.symm nBC) nin0)
  refine g_caload S693 F695 ⟨by decide, by decide⟩ (x := c2) rfl (hb hby dAP12_35) ?_
  show Go p e below _ (T693.setTop (mkF m 36 #[.val (.ref x), .val (.ref b), .val (.int (1 : Int32)), .val (.int (3 : Int32)), .val (.int sc), .val (.ref tb), .val (.int (2 : Int32)), .val (.int (sc + (1 : Int32))), .val (.int c1)] [(.int c2)]))
  refine s_istore S693 (hb hby dAP12_36) (L' := #[.val (.ref x), .val (.ref b), .val (.int (1 : Int32)), .val (.int (3 : Int32)), .val (.int sc), .val (.ref tb), .val (.int (2 : Int32)), .val (.int (sc + (1 : Int32))), .val (.int c2)]) rfl (pc' := 38) rfl ?_
  refine s_iload S693 (hb hby dAP12_38) rfl (pc' := 40) rfl ?_
  show Go p e below _ (T693.setTop (mkF m 40 #[.val (.ref x), .val (.ref b), .val (.int (1 : Int32)), .val (.int (3 : Int32)), .val (.int sc), .val (.ref tb), .val (.int (2 : Int32)), .val (.int (sc + (1 : Int32))), .val (.int c2)] [(.int c2)]))
  refine g_static S693 (rmCE X S693.old rc2) (fun _ q => nomatch q) (w185 hw) (w186 hw) (w187 hw) (w188 hw) (by decide) (hb hby dAP12_40) (by rw [hml]; rfl) [(.int c2)] (lenOf pd13 rfl) rfl rfl (Nat.le_of_ble_eq_true rfl) (Nat.le_of_ble_eq_true rfl) (Nat.le_of_ble_eq_true rfl) (Nat.le_of_ble_eq_true rfl) ?_
  intro v696 T696 V696 h696 S696 C696 q696
  obtain ⟨rfl, rfl⟩ := q696
  have sf697 := C696.safe (Nat.lt_of_lt_of_le Vb.lt (Nat.le_trans (Nat.le_refl _) K693.1)) sg693
  show Go p e below _ (T696.setTop (mkF m 43 #[.val (.ref x), .val (.ref b), .val (.int (1 : Int32)), .val (.int (3 : Int32)), .val (.int sc), .val (.ref tb), .val (.int (2 : Int32)), .val (.int (sc + (1 : Int32))), .val (.int c2)] [(.int (1 : Int32))]))
  refine s_ifN S696 (hb hby dAP12_43) (by decide) (pc' := 46) rfl ?_
  refine s_aload S696 (hb hby dAP12_46) rfl rfl (pc' := 48) rfl ?_
  refine s_iload S696 (hb hby dAP12_48) rfl (pc' := 50) rfl ?_
  refine s_iinc S696 (hb hby dAP12_50) rfl (z := ((sc + (1 : Int32)) + (1 : Int32))) rfl (L' := #[.val (.ref x), .val (.ref b), .val (.int (1 : Int32)), .val (.int (3 : Int32)), .val (.int sc), .val (.ref tb), .val (.int (2 : Int32)), .val (.int ((sc + (1 : Int32)) + (1 : Int32))), .val (.int c2)]) rfl (pc' := 53) rfl ?_
  refine s_iload S696 (hb hby dAP12_53) rfl (pc' := 55) rfl ?_
  refine s_i2b S696 (hb hby dAP12_55) (z := (c2.toInt8.toInt32)) rfl (pc' := 56) rfl ?_
  show Go p e below _ (T696.setTop (mkF m 56 #[.val (.ref x), .val (.ref b), .val (.int (1 : Int32)), .val (.int (3 : Int32)), .val (.int sc), .val (.ref tb), .val (.int (2 : Int32)), .val (.int ((sc + (1 : Int32)) + (1 : Int32))), .val (.int c2)] [(.int (c2.toInt8.toInt32)), (.int (sc + (1 : Int32))), (.ref tb)]))
  refine g_bastore S696 V693 ⟨own_nn (by omega), own_lt16 (by omega)⟩ ((sc + (1 : Int32))).toNatClampNeg rfl (by have e := own_nat (x := (sc + (1 : Int32))) (by omega); omega) nb sf697 (hb hby dAP12_56) ?_
  intro T698 h698 S698 K698 V698 sg698
  obtain ⟨bs698, V698, lb698⟩ : ∃ bs1 : List Value, Arv Z h698 tb kb .byte (16 : Int32) bs1 (.int (0 : Int32)) ∧ bs1.length = 16 := ⟨_, V698, by rw [List.length_set]; exact lb693⟩
  have sf699 := Safe.keep K698 (sfS sf697 sf0) S696.chv sf697
  show Go p e below _ (T698.setTop (mkF m 57 #[.val (.ref x), .val (.ref b), .val (.int (1 : Int32)), .val (.int (3 : Int32)), .val (.int sc), .val (.ref tb), .val (.int (2 : Int32)), .val (.int ((sc + (1 : Int32)) + (1 : Int32))), .val (.int c2)] []))
  refine s_goto S698 (hb hby dAP12_57) (by decide) (pcT := 98) (by decide) ?_
  refine s_iinc S698 (hb hby dAP12_98) rfl (z := (3 : Int32)) rfl (L' := #[.val (.ref x), .val (.ref b), .val (.int (1 : Int32)), .val (.int (3 : Int32)), .val (.int sc), .val (.ref tb), .val (.int (3 : Int32)), .val (.int ((sc + (1 : Int32)) + (1 : Int32))), .val (.int c2)]) rfl (pc' := 101) rfl ?_
  refine s_goto S698 (hb hby dAP12_101) (by decide) (pcT := 26) (by decide) ?_
  refine s_iload S698 (hb hby dAP12_26) rfl (pc' := 28) rfl ?_
  refine s_iloadN S698 (hb hby dAP12_28) rfl (pc' := 29) rfl ?_
  refine s_icmpY S698 (hb hby dAP12_29) (by decide) (by decide) (pcT := 104) (by decide) ?_
  refine s_goto S698 (hb hby dAP12_104) (by decide) (pcT := 119) (by decide) ?_
  refine s_aloadN S698 (hb hby dAP12_119) rfl rfl (pc' := 120) rfl ?_
  refine s_iload S698 (hb hby dAP12_120) rfl (pc' := 122) rfl ?_
  refine s_iloadN S698 (hb hby dAP12_122) rfl (pc' := 123) rfl ?_
  refine s_iadd S698 (hb hby dAP12_123) (z := (sc + (3 : Int32))) rfl (pc' := 124) rfl ?_
  refine s_iloadN S698 (hb hby dAP12_124) rfl (pc' := 125) rfl ?_
  refine s_isub S698 (hb hby dAP12_125) (z := ((sc + (3 : Int32)) - (1 : Int32))) rfl (pc' := 126) rfl ?_
  show Go p e below _ (T698.setTop (mkF m 126 #[.val (.ref x), .val (.ref b), .val (.int (1 : Int32)), .val (.int (3 : Int32)), .val (.int sc), .val (.ref tb), .val (.int (3 : Int32)), .val (.int ((sc + (1 : Int32)) + (1 : Int32))), .val (.int c2)] [(.int ((sc + (3 : Int32)) - (1 : Int32))), (.ref x)]))
  have F701 := Fs.keep K693 (ninS nXB nin0)
  have F702 := F701.keep K698 (ninS nXB nin0)
  have F703 := Ex.keep K693
  have F704 := F703.keep K698
  have F705 := Fv.keep K693 (ninS nXB nin0)
  have F706 := F705.keep K698 (ninS nXB nin0)
  have F707 := Fk.keep K693 (ninS nXB nin0)
  have F708 := F707.keep K698 (ninS nXB nin0)
  refine g_putF S698 (w95 hw) Via.refl F702 F704 (Or.inl (w96 hw)) (w10 hw) (ty := .int) (v' := (.int ((sc + (3 : Int32)) - (1 : Int32)))) (by decide) rfl rfl nx (Safe.exa S698.warm.alike F704 (by decide) (by decide)) (hb hby dAP12_126) ?_
  intro T700 h700 S700 K700 W700 A700 F700 sg700
  have sf709 := Safe.keep K700 (sfS (Safe.exa S698.warm.alike F704 (by decide) (by decide)) sf0) S698.chv sg698
  have F710 := F706.other W700 (Or.inr (slot_ne (Or.inl (w26 hw)) (Or.inl (w96 hw)) (by decide) (t := (.array .byte)) (t' := .int) (by decide) (by decide)))
  have F711 := F708.other W700 (Or.inr (slot_ne (Or.inl (w28 hw)) (Or.inl (w96 hw)) (by decide) (t := .byte) (t' := .int) (by decide) (by decide)))
  show Go p e below _ (T700.setTop (mkF m 129 #[.val (.ref x), .val (.ref b), .val (.int (1 : Int32)), .val (.int (3 : Int32)), .val (.int sc), .val (.ref tb), .val (.int (3 : Int32)), .val (.int ((sc + (1 : Int32)) + (1 : Int32))), .val (.int c2)] []))
  show Go p e below _ (T700.setTop (mkF m 129 #[.val (.ref x), .val (.ref b), .val (.int (1 : Int32)), .val (.int (3 : Int32)), .val (.int sc), .val (.ref tb), .val (.int (3 : Int32)), .val (.int ((sc + (1 : Int32)) + (1 : Int32))), .val (.int c2)] []))
  have KA712 := (Keep.refl h691 [x, tb])
  have KA713 := (KA712.trans K693 (allS (Or.inl (by simp)) all0))
  have KA714 := (KA713.trans K698 (allS (Or.inl (by simp)) all0))
  have KA715 : Keep h691 h700 [x, tb] := (KA714.trans K700 (allS (Or.inl (by simp)) all0))
  have F716 := V698.keep K700 (ninS (Ne.symm nXB) nin0)
  exact g_ret S700 (hb hby dAP12_129) hret ⟨rfl, _, _, KA715, A700, F710, F711, F700, F716, lb698, own_cnt (3 : Int32) (1 : Int32) 3 1 rfl rfl h0 (by omega) (by omega) (by omega)⟩
theorem dAA12_0 : decode jdk_68_method_29_code 0 = .ok (.iload_n 2, 1) := by decide +kernel
theorem dAA12_1 : decode jdk_68_method_29_code 1 = .ok (.iload_n 3, 1) := by decide +kernel
theorem dAA12_2 : decode jdk_68_method_29_code 2 = .ok (.iadd, 1) := by decide +kernel
theorem dAA12_3 : decode jdk_68_method_29_code 3 = .ok (.istore 4, 2) := by decide +kernel
theorem dAA12_5 : decode jdk_68_method_29_code 5 = .ok (.iload_n 2, 1) := by decide +kernel
theorem dAA12_6 : decode jdk_68_method_29_code 6 = .ok (.iload 4, 2) := by decide +kernel
theorem dAA12_8 : decode jdk_68_method_29_code 8 = .ok (.aload_n 1, 1) := by decide +kernel
theorem dAA12_9 : decode jdk_68_method_29_code 9 = .ok (.arraylength, 1) := by decide +kernel
theorem dAA12_10 : decode jdk_68_method_29_code 10 = .ok (.getstatic 183, 3) := by decide +kernel
theorem dAA12_13 : decode jdk_68_method_29_code 13 = .ok (.invokestatic 161, 3) := by decide +kernel
theorem dAA12_16 : decode jdk_68_method_29_code 16 = .ok (.pop, 1) := by decide +kernel
theorem dAA12_17 : decode jdk_68_method_29_code 17 = .ok (.aload_n 0, 1) := by decide +kernel
theorem dAA12_18 : decode jdk_68_method_29_code 18 = .ok (.aload_n 0, 1) := by decide +kernel
theorem dAA12_19 : decode jdk_68_method_29_code 19 = .ok (.getfield 79, 3) := by decide +kernel
theorem dAA12_22 : decode jdk_68_method_29_code 22 = .ok (.iload_n 3, 1) := by decide +kernel
theorem dAA12_23 : decode jdk_68_method_29_code 23 = .ok (.iadd, 1) := by decide +kernel
theorem dAA12_24 : decode jdk_68_method_29_code 24 = .ok (.invokevirtual 100, 3) := by decide +kernel
theorem dAA12_27 : decode jdk_68_method_29_code 27 = .ok (.aload_n 0, 1) := by decide +kernel
theorem dAA12_28 : decode jdk_68_method_29_code 28 = .ok (.aload_n 1, 1) := by decide +kernel
theorem dAA12_29 : decode jdk_68_method_29_code 29 = .ok (.iload_n 2, 1) := by decide +kernel
theorem dAA12_30 : decode jdk_68_method_29_code 30 = .ok (.iload 4, 2) := by decide +kernel
theorem dAA12_32 : decode jdk_68_method_29_code 32 = .ok (.invokevirtual 239, 3) := by decide +kernel
theorem dAA12_35 : decode jdk_68_method_29_code 35 = .ok (.aload_n 0, 1) := by decide +kernel
theorem dAA12_36 : decode jdk_68_method_29_code 36 = .ok (.areturn, 1) := by decide +kernel
set_option maxRecDepth 65536 in
set_option maxHeartbeats 40000000 in
theorem rmAA12 {l : Launch} {Z : State} {a0 : Array Value} {n0 : Nat} (X : Ctx Z a0) {x tb : Addr} {kb : ClassId} {sc : Int32} {bs : List Value} {b : Addr} {kc : ClassId} {c0 c1 c2 : Int32} {dv : Value} (nx : n0 ≤ x) (nb : n0 ≤ tb) {h : Heap} (hO : Old Z n0 h) (Ex : Exa Z h x "java/lang/StringBuilder") (Fv : Fld Z h x "java/lang/AbstractStringBuilder" "value" "[B" (.ref tb)) (Fk : Fld Z h x "java/lang/AbstractStringBuilder" "coder" "B" (.int (0 : Int32))) (Fs : Fld Z h x "java/lang/AbstractStringBuilder" "count" "I" (.int sc)) (Vb : Arv Z h tb kb .byte (16 : Int32) bs (.int (0 : Int32))) (Vc : Arv Z h b kc .char (3 : Int32) [(.int c0), (.int c1), (.int c2)] dv) (rc0 : ¬ c0 < 0 ∧ ¬ (255 : Int32) < c0) (rc1 : ¬ c1 < 0 ∧ ¬ (255 : Int32) < c1) (rc2 : ¬ c2 < 0 ∧ ¬ (255 : Int32) < c2) (h0 : 0 ≤ sc.toInt) (h2 : sc.toInt + 2 ≤ 16) (hbl : bs.length = 16) :
    Ctr l Z EL1 n0 (⟨"java/lang/AbstractStringBuilder", "append", "([CII)Ljava/lang/AbstractStringBuilder;"⟩ : MethodName) jdk_68_method_29_code 5 (some (.object "java/lang/AbstractStringBuilder")) ({ frames := 2, cells := 0, slots := 0, locals := 32 } : Room) #[(.ref x), (.ref b), (.int (1 : Int32)), (.int (2 : Int32))] h [tb] (fun v h' => v = some (.ref x) ∧ ∃ (sc' : Int32) (bs' : List Value), Keep h h' [x, tb] ∧ Exa Z h' x "java/lang/StringBuilder" ∧ Fld Z h' x "java/lang/AbstractStringBuilder" "value" "[B" (.ref tb) ∧ Fld Z h' x "java/lang/AbstractStringBuilder" "coder" "B" (.int (0 : Int32)) ∧ Fld Z h' x "java/lang/AbstractStringBuilder" "count" "I" (.int sc') ∧ Arv Z h' tb kb .byte (16 : Int32) bs' (.int (0 : Int32)) ∧ bs'.length = 16 ∧ sc'.toInt = sc.toInt + 2) := by
  have hw := X.hw
  obtain ⟨z1, hz1, hz2⟩ := X.2.2.1
  refine Ctr.intro (a0 := a0) (plainFor_of_name pn0) hO X.ew ?_
  intro p e s m below meth c T0 V0 S0 hby hml hret hnm hsf
  rw [ef16]
  obtain ⟨fm, hfm, rfm⟩ := X.2.2.2.2
  rcases ref_cases rfm with rfl | ⟨fb, rfl⟩
  · skip
    have nXB : x ≠ tb := Exa.neArv Ex Vb (w10 hw)
    have nXC : x ≠ b := Exa.neArv Ex Vc (w10 hw)
    have nBC : tb ≠ b := arv_kne Vb Vc (by decide)
    have em := own_addl (x := sc) (2 : Int32) 2 rfl h0 (by omega) (by omega)
    show Go p e below _ (T0.setTop (mkF m 0 #[.val (.ref x), .val (.ref b), .val (.int (1 : Int32)), .val (.int (2 : Int32)), .unset] []))
    refine s_iloadN S0 (hb hby dAA12_0) rfl (pc' := 1) rfl ?_
    refine s_iloadN S0 (hb hby dAA12_1) rfl (pc' := 2) rfl ?_
    refine s_iadd S0 (hb hby dAA12_2) (z := (3 : Int32)) rfl (pc' := 3) rfl ?_
    refine s_istore S0 (hb hby dAA12_3) (L' := #[.val (.ref x), .val (.ref b), .val (.int (1 : Int32)), .val (.int (2 : Int32)), .val (.int (3 : Int32))]) rfl (pc' := 5) rfl ?_
    refine s_iloadN S0 (hb hby dAA12_5) rfl (pc' := 6) rfl ?_
    refine s_iload S0 (hb hby dAA12_6) rfl (pc' := 8) rfl ?_
    refine s_aloadN S0 (hb hby dAA12_8) rfl rfl (pc' := 9) rfl ?_
    refine g_len S0 Vc (hb hby dAA12_9) ?_
    show Go p e below _ (T0.setTop (mkF m 10 #[.val (.ref x), .val (.ref b), .val (.int (1 : Int32)), .val (.int (2 : Int32)), .val (.int (3 : Int32))] [(.int (3 : Int32)), (.int (3 : Int32)), (.int (1 : Int32))]))
    refine g_getS S0 (w169 hw) Via.refl (hfm.ext S0.old.2) (hb hby dAA12_10) ?_
    intro T717 ST717
    show Go p e below _ (T717.setTop (mkF m 13 #[.val (.ref x), .val (.ref b), .val (.int (1 : Int32)), .val (.int (2 : Int32)), .val (.int (3 : Int32))] [.null, (.int (3 : Int32)), (.int (3 : Int32)), (.int (1 : Int32))]))
    show Go p e below _ (T717.setTop (mkF m 13 #[.val (.ref x), .val (.ref b), .val (.int (1 : Int32)), .val (.int (2 : Int32)), .val (.int (3 : Int32))] [.null, (.int (3 : Int32)), (.int (3 : Int32)), (.int (1 : Int32))]))
    refine g_static ST717 (rmCF133n X ST717.old) (fun _ q => nomatch q) (w172 hw) (w173 hw) (w170 hw) (w174 hw) (by decide) (hb hby dAA12_13) (by rw [hml]; rfl) [(.int (1 : Int32)), (.int (3 : Int32)), (.int (3 : Int32)), .null] (lenOf pd17 rfl) rfl rfl (Nat.le_of_ble_eq_true rfl) (Nat.le_of_ble_eq_true rfl) (Nat.le_of_ble_eq_true rfl) (Nat.le_of_ble_eq_true rfl) ?_
    intro v718 T718 V718 h718 S718 C718 q718
    obtain ⟨rfl, rfl⟩ := q718
    have sf719 := C718.safe Vb.lt (hsf tb List.mem_cons_self)
    show Go p e below _ (T718.setTop (mkF m 16 #[.val (.ref x), .val (.ref b), .val (.int (1 : Int32)), .val (.int (2 : Int32)), .val (.int (3 : Int32))] [(.int (1 : Int32))]))
    refine s_pop S718 (hb hby dAA12_16) rfl (pc' := 17) rfl ?_
    refine s_aloadN S718 (hb hby dAA12_17) rfl rfl (pc' := 18) rfl ?_
    refine s_aloadN S718 (hb hby dAA12_18) rfl rfl (pc' := 19) rfl ?_
    refine g_getF S718 (w95 hw) Via.refl Fs (hb hby dAA12_19) ?_
    intro T720 ST720
    show Go p e below _ (T720.setTop (mkF m 22 #[.val (.ref x), .val (.ref b), .val (.int (1 : Int32)), .val (.int (2 : Int32)), .val (.int (3 : Int32))] [(.int sc), (.ref x)]))
    refine s_iloadN ST720 (hb hby dAA12_22) rfl (pc' := 23) rfl ?_
    refine s_iadd ST720 (hb hby dAA12_23) (z := (sc + (2 : Int32))) rfl (pc' := 24) rfl ?_
    show Go p e below _ (T720.setTop (mkF m 24 #[.val (.ref x), .val (.ref b), .val (.int (1 : Int32)), .val (.int (2 : Int32)), .val (.int (3 : Int32))] [(.int (sc + (2 : Int32))), (.ref x)]))
    refine g_private ST720 (rmEG X ST720.old Ex Fv Fk Fs Vb (by omega) (by omega)) (fun _ q => nomatch q) (w97 hw) (ni_sel (w100 hw) rfl) (w99 hw) (w98 hw) (w19 hw) (w101 hw) (by decide) (hb hby dAA12_24) (by rw [hml]; rfl) x Ex [(.int (sc + (2 : Int32)))] (lenOf pd0 rfl) rfl rfl (Nat.le_of_ble_eq_true rfl) (Nat.le_of_ble_eq_true rfl) (Nat.le_of_ble_eq_true rfl) (Nat.le_of_ble_eq_true rfl) ?_
    intro v721 T721 V721 h721 S721 C721 q721
    obtain ⟨rfl, rfl⟩ := q721
    have sf722 := C721.safe Vb.lt sf719
    show Go p e below _ (T721.setTop (mkF m 27 #[.val (.ref x), .val (.ref b), .val (.int (1 : Int32)), .val (.int (2 : Int32)), .val (.int (3 : Int32))] []))
    refine s_aloadN S721 (hb hby dAA12_27) rfl rfl (pc' := 28) rfl ?_
    refine s_aloadN S721 (hb hby dAA12_28) rfl rfl (pc' := 29) rfl ?_
    refine s_iloadN S721 (hb hby dAA12_29) rfl (pc' := 30) rfl ?_
    refine s_iload S721 (hb hby dAA12_30) rfl (pc' := 32) rfl ?_
    show Go p e below _ (T721.setTop (mkF m 32 #[.val (.ref x), .val (.ref b), .val (.int (1 : Int32)), .val (.int (2 : Int32)), .val (.int (3 : Int32))] [(.int (3 : Int32)), (.int (1 : Int32)), (.ref b), (.ref x)]))
    refine g_private S721 (rmAP12 X nx nb S721.old Ex Fv Fk Fs Vb Vc rc0 rc1 rc2 h0 h2 hbl) (sf1 Vb.lt sf722) (w175 hw) (ni_sel (w100 hw) rfl) (w177 hw) (w176 hw) (w19 hw) (w179 hw) (by decide) (hb hby dAA12_32) (by rw [hml]; rfl) x Ex [(.ref b), (.int (1 : Int32)), (.int (3 : Int32))] (lenOf pd18 rfl) rfl rfl (Nat.le_of_ble_eq_true rfl) (Nat.le_of_ble_eq_true rfl) (Nat.le_of_ble_eq_true rfl) (Nat.le_of_ble_eq_true rfl) ?_
    intro v723 T723 V723 h723 S723 C723 q723
    obtain ⟨rfl, q1⟩ := q723
    have sf724 := C723.safe Vb.lt sf722
    show Go p e below _ (T723.setTop (mkF m 35 #[.val (.ref x), .val (.ref b), .val (.int (1 : Int32)), .val (.int (2 : Int32)), .val (.int (3 : Int32))] []))
    refine s_aloadN S723 (hb hby dAA12_35) rfl rfl (pc' := 36) rfl ?_
    exact g_aret S723 (hb hby dAA12_36) hret rfl rfl rfl ⟨rfl, q1⟩
  · skip
    have nXB : x ≠ tb := Exa.neArv Ex Vb (w10 hw)
    have nXC : x ≠ b := Exa.neArv Ex Vc (w10 hw)
    have nBC : tb ≠ b := arv_kne Vb Vc (by decide)
    have em := own_addl (x := sc) (2 : Int32) 2 rfl h0 (by omega) (by omega)
    show Go p e below _ (T0.setTop (mkF m 0 #[.val (.ref x), .val (.ref b), .val (.int (1 : Int32)), .val (.int (2 : Int32)), .unset] []))
    refine s_iloadN S0 (hb hby dAA12_0) rfl (pc' := 1) rfl ?_
    refine s_iloadN S0 (hb hby dAA12_1) rfl (pc' := 2) rfl ?_
    refine s_iadd S0 (hb hby dAA12_2) (z := (3 : Int32)) rfl (pc' := 3) rfl ?_
    refine s_istore S0 (hb hby dAA12_3) (L' := #[.val (.ref x), .val (.ref b), .val (.int (1 : Int32)), .val (.int (2 : Int32)), .val (.int (3 : Int32))]) rfl (pc' := 5) rfl ?_
    refine s_iloadN S0 (hb hby dAA12_5) rfl (pc' := 6) rfl ?_
    refine s_iload S0 (hb hby dAA12_6) rfl (pc' := 8) rfl ?_
    refine s_aloadN S0 (hb hby dAA12_8) rfl rfl (pc' := 9) rfl ?_
    refine g_len S0 Vc (hb hby dAA12_9) ?_
    show Go p e below _ (T0.setTop (mkF m 10 #[.val (.ref x), .val (.ref b), .val (.int (1 : Int32)), .val (.int (2 : Int32)), .val (.int (3 : Int32))] [(.int (3 : Int32)), (.int (3 : Int32)), (.int (1 : Int32))]))
    refine g_getS S0 (w169 hw) Via.refl (hfm.ext S0.old.2) (hb hby dAA12_10) ?_
    intro T725 ST725
    show Go p e below _ (T725.setTop (mkF m 13 #[.val (.ref x), .val (.ref b), .val (.int (1 : Int32)), .val (.int (2 : Int32)), .val (.int (3 : Int32))] [(.ref fb), (.int (3 : Int32)), (.int (3 : Int32)), (.int (1 : Int32))]))
    show Go p e below _ (T725.setTop (mkF m 13 #[.val (.ref x), .val (.ref b), .val (.int (1 : Int32)), .val (.int (2 : Int32)), .val (.int (3 : Int32))] [(.ref fb), (.int (3 : Int32)), (.int (3 : Int32)), (.int (1 : Int32))]))
    refine g_static ST725 (rmCF133r X fb ST725.old) (fun _ q => nomatch q) (w172 hw) (w173 hw) (w170 hw) (w174 hw) (by decide) (hb hby dAA12_13) (by rw [hml]; rfl) [(.int (1 : Int32)), (.int (3 : Int32)), (.int (3 : Int32)), (.ref fb)] (lenOf pd17 rfl) rfl rfl (Nat.le_of_ble_eq_true rfl) (Nat.le_of_ble_eq_true rfl) (Nat.le_of_ble_eq_true rfl) (Nat.le_of_ble_eq_true rfl) ?_
    intro v726 T726 V726 h726 S726 C726 q726
    obtain ⟨rfl, rfl⟩ := q726
    have sf727 := C726.safe Vb.lt (hsf tb List.mem_cons_self)
    show Go p e below _ (T726.setTop (mkF m 16 #[.val (.ref x), .val (.ref b), .val (.int (1 : Int32)), .val (.int (2 : Int32)), .val (.int (3 : Int32))] [(.int (1 : Int32))]))
    refine s_pop S726 (hb hby dAA12_16) rfl (pc' := 17) rfl ?_
    refine s_aloadN S726 (hb hby dAA12_17) rfl rfl (pc' := 18) rfl ?_
    refine s_aloadN S726 (hb hby dAA12_18) rfl rfl (pc' := 19) rfl ?_
    refine g_getF S726 (w95 hw) Via.refl Fs (hb hby dAA12_19) ?_
    intro T728 ST728
    show Go p e below _ (T728.setTop (mkF m 22 #[.val (.ref x), .val (.ref b), .val (.int (1 : Int32)), .val (.int (2 : Int32)), .val (.int (3 : Int32))] [(.int sc), (.ref x)]))
    refine s_iloadN ST728 (hb hby dAA12_22) rfl (pc' := 23) rfl ?_
    refine s_iadd ST728 (hb hby dAA12_23) (z := (sc + (2 : Int32))) rfl (pc' := 24) rfl ?_
    show Go p e below _ (T728.setTop (mkF m 24 #[.val (.ref x), .val (.ref b), .val (.int (1 : Int32)), .val (.int (2 : Int32)), .val (.int (3 : Int32))] [(.int (sc + (2 : Int32))), (.ref x)]))
    refine g_private ST728 (rmEG X ST728.old Ex Fv Fk Fs Vb (by omega) (by omega)) (fun _ q => nomatch q) (w97 hw) (ni_sel (w100 hw) rfl) (w99 hw) (w98 hw) (w19 hw) (w101 hw) (by decide) (hb hby dAA12_24) (by rw [hml]; rfl) x Ex [(.int (sc + (2 : Int32)))] (lenOf pd0 rfl) rfl rfl (Nat.le_of_ble_eq_true rfl) (Nat.le_of_ble_eq_true rfl) (Nat.le_of_ble_eq_true rfl) (Nat.le_of_ble_eq_true rfl) ?_
    intro v729 T729 V729 h729 S729 C729 q729
    obtain ⟨rfl, rfl⟩ := q729
    have sf730 := C729.safe Vb.lt sf727
    show Go p e below _ (T729.setTop (mkF m 27 #[.val (.ref x), .val (.ref b), .val (.int (1 : Int32)), .val (.int (2 : Int32)), .val (.int (3 : Int32))] []))
    refine s_aloadN S729 (hb hby dAA12_27) rfl rfl (pc' := 28) rfl ?_
    refine s_aloadN S729 (hb hby dAA12_28) rfl rfl (pc' := 29) rfl ?_
    refine s_iloadN S729 (hb hby dAA12_29) rfl (pc' := 30) rfl ?_
    refine s_iload S729 (hb hby dAA12_30) rfl (pc' := 32) rfl ?_
    show Go p e below _ (T729.setTop (mkF m 32 #[.val (.ref x), .val (.ref b), .val (.int (1 : Int32)), .val (.int (2 : Int32)), .val (.int (3 : Int32))] [(.int (3 : Int32)), (.int (1 : Int32)), (.ref b), (.ref x)]))
    refine g_private S729 (rmAP12 X nx nb S729.old Ex Fv Fk Fs Vb Vc rc0 rc1 rc2 h0 h2 hbl) (sf1 Vb.lt sf730) (w175 hw) (ni_sel (w100 hw) rfl) (w177 hw) (w176 hw) (w19 hw) (w179 hw) (by decide) (hb hby dAA12_32) (by rw [hml]; rfl) x Ex [(.ref b), (.int (1 : Int32)), (.int (3 : Int32))] (lenOf pd18 rfl) rfl rfl (Nat.le_of_ble_eq_true rfl) (Nat.le_of_ble_eq_true rfl) (Nat.le_of_ble_eq_true rfl) (Nat.le_of_ble_eq_true rfl) ?_
    intro v731 T731 V731 h731 S731 C731 q731
    obtain ⟨rfl, q1⟩ := q731
    have sf732 := C731.safe Vb.lt sf730
    show Go p e below _ (T731.setTop (mkF m 35 #[.val (.ref x), .val (.ref b), .val (.int (1 : Int32)), .val (.int (2 : Int32)), .val (.int (3 : Int32))] []))
    refine s_aloadN S731 (hb hby dAA12_35) rfl rfl (pc' := 36) rfl ?_
    exact g_aret S731 (hb hby dAA12_36) hret rfl rfl rfl ⟨rfl, q1⟩
theorem dSA12_0 : decode jdk_67_method_12_code 0 = .ok (.aload_n 0, 1) := by decide +kernel
theorem dSA12_1 : decode jdk_67_method_12_code 1 = .ok (.aload_n 1, 1) := by decide +kernel
theorem dSA12_2 : decode jdk_67_method_12_code 2 = .ok (.iload_n 2, 1) := by decide +kernel
theorem dSA12_3 : decode jdk_67_method_12_code 3 = .ok (.iload_n 3, 1) := by decide +kernel
theorem dSA12_4 : decode jdk_67_method_12_code 4 = .ok (.invokespecial 44, 3) := by decide +kernel
theorem dSA12_7 : decode jdk_67_method_12_code 7 = .ok (.pop, 1) := by decide +kernel
theorem dSA12_8 : decode jdk_67_method_12_code 8 = .ok (.aload_n 0, 1) := by decide +kernel
theorem dSA12_9 : decode jdk_67_method_12_code 9 = .ok (.areturn, 1) := by decide +kernel
set_option maxRecDepth 65536 in
set_option maxHeartbeats 40000000 in
theorem rmSA12 {l : Launch} {Z : State} {a0 : Array Value} {n0 : Nat} (X : Ctx Z a0) {x tb : Addr} {kb : ClassId} {sc : Int32} {bs : List Value} {b : Addr} {kc : ClassId} {c0 c1 c2 : Int32} {dv : Value} (nx : n0 ≤ x) (nb : n0 ≤ tb) {h : Heap} (hO : Old Z n0 h) (Ex : Exa Z h x "java/lang/StringBuilder") (Fv : Fld Z h x "java/lang/AbstractStringBuilder" "value" "[B" (.ref tb)) (Fk : Fld Z h x "java/lang/AbstractStringBuilder" "coder" "B" (.int (0 : Int32))) (Fs : Fld Z h x "java/lang/AbstractStringBuilder" "count" "I" (.int sc)) (Vb : Arv Z h tb kb .byte (16 : Int32) bs (.int (0 : Int32))) (Vc : Arv Z h b kc .char (3 : Int32) [(.int c0), (.int c1), (.int c2)] dv) (rc0 : ¬ c0 < 0 ∧ ¬ (255 : Int32) < c0) (rc1 : ¬ c1 < 0 ∧ ¬ (255 : Int32) < c1) (rc2 : ¬ c2 < 0 ∧ ¬ (255 : Int32) < c2) (h0 : 0 ≤ sc.toInt) (h2 : sc.toInt + 2 ≤ 16) (hbl : bs.length = 16) :
    Ctr l Z EL1 n0 (⟨"java/lang/StringBuilder", "append", "([CII)Ljava/lang/StringBuilder;"⟩ : MethodName) jdk_67_method_12_code 4 (some (.object "java/lang/StringBuilder")) ({ frames := 3, cells := 0, slots := 0, locals := 48 } : Room) #[(.ref x), (.ref b), (.int (1 : Int32)), (.int (2 : Int32))] h [tb] (fun v h' => v = some (.ref x) ∧ ∃ (sc' : Int32) (bs' : List Value), Keep h h' [x, tb] ∧ Exa Z h' x "java/lang/StringBuilder" ∧ Fld Z h' x "java/lang/AbstractStringBuilder" "value" "[B" (.ref tb) ∧ Fld Z h' x "java/lang/AbstractStringBuilder" "coder" "B" (.int (0 : Int32)) ∧ Fld Z h' x "java/lang/AbstractStringBuilder" "count" "I" (.int sc') ∧ Arv Z h' tb kb .byte (16 : Int32) bs' (.int (0 : Int32)) ∧ bs'.length = 16 ∧ sc'.toInt = sc.toInt + 2) := by
  have hw := X.hw
  obtain ⟨z1, hz1, hz2⟩ := X.2.2.1
  refine Ctr.intro (a0 := a0) (plainFor_of_name pn1) hO X.ew ?_
  intro p e s m below meth c T0 V0 S0 hby hml hret hnm hsf
  rw [ef8]
  have nXB : x ≠ tb := Exa.neArv Ex Vb (w10 hw)
  have nXC : x ≠ b := Exa.neArv Ex Vc (w10 hw)
  have nBC : tb ≠ b := arv_kne Vb Vc (by decide)
  show Go p e below _ (T0.setTop (mkF m 0 #[.val (.ref x), .val (.ref b), .val (.int (1 : Int32)), .val (.int (2 : Int32))] []))
  refine s_aloadN S0 (hb hby dSA12_0) rfl rfl (pc' := 1) rfl ?_
  refine s_aloadN S0 (hb hby dSA12_1) rfl rfl (pc' := 2) rfl ?_
  refine s_iloadN S0 (hb hby dSA12_2) rfl (pc' := 3) rfl ?_
  refine s_iloadN S0 (hb hby dSA12_3) rfl (pc' := 4) rfl ?_
  show Go p e below _ (T0.setTop (mkF m 4 #[.val (.ref x), .val (.ref b), .val (.int (1 : Int32)), .val (.int (2 : Int32))] [(.int (2 : Int32)), (.int (1 : Int32)), (.ref b), (.ref x)]))
  refine g_super S0 (rmAA12 X nx nb S0.old Ex Fv Fk Fs Vb Vc rc0 rc1 rc2 h0 h2 hbl) (sf1 Vb.lt (hsf tb List.mem_cons_self)) (by decide) (w165 hw) (ni_sel (w100 hw) rfl) (w166 hw) (w82 hw) (w19 hw) (w168 hw) (by decide) (hb hby dSA12_4) (by rw [hml]; rfl) x Ex [(.ref b), (.int (1 : Int32)), (.int (2 : Int32))] (lenOf pd19 rfl) rfl rfl (Nat.le_of_ble_eq_true rfl) (Nat.le_of_ble_eq_true rfl) (Nat.le_of_ble_eq_true rfl) (Nat.le_of_ble_eq_true rfl) ?_
  intro v733 T733 V733 h733 S733 C733 q733
  obtain ⟨rfl, q1⟩ := q733
  have sf734 := C733.safe Vb.lt (hsf tb List.mem_cons_self)
  show Go p e below _ (T733.setTop (mkF m 7 #[.val (.ref x), .val (.ref b), .val (.int (1 : Int32)), .val (.int (2 : Int32))] [(.ref x)]))
  refine s_pop S733 (hb hby dSA12_7) rfl (pc' := 8) rfl ?_
  refine s_aloadN S733 (hb hby dSA12_8) rfl rfl (pc' := 9) rfl ?_
  exact g_aret S733 (hb hby dSA12_9) hret rfl rfl rfl ⟨rfl, q1⟩
theorem rmSU {l : Launch} {Z : State} {a0 : Array Value} {n0 : Nat} (X : Ctx Z a0) {x tb : Addr} {kb : ClassId} {sc : Int32} {bs : List Value} {b : Addr} {kc : ClassId} {c0 c1 c2 : Int32} {dv : Value} (nx : n0 ≤ x) (nb : n0 ≤ tb) {ss ln : Int32} (hss : ss = 0 ∨ ss = 1) (hln : ln = 0 ∨ ln = 1 ∨ ln = 2) {h : Heap} (hO : Old Z n0 h) (Ex : Exa Z h x "java/lang/StringBuilder") (Fv : Fld Z h x "java/lang/AbstractStringBuilder" "value" "[B" (.ref tb)) (Fk : Fld Z h x "java/lang/AbstractStringBuilder" "coder" "B" (.int (0 : Int32))) (Fs : Fld Z h x "java/lang/AbstractStringBuilder" "count" "I" (.int sc)) (Vb : Arv Z h tb kb .byte (16 : Int32) bs (.int (0 : Int32))) (Vc : Arv Z h b kc .char (3 : Int32) [(.int c0), (.int c1), (.int c2)] dv) (rc0 : ¬ c0 < 0 ∧ ¬ (255 : Int32) < c0) (rc1 : ¬ c1 < 0 ∧ ¬ (255 : Int32) < c1) (rc2 : ¬ c2 < 0 ∧ ¬ (255 : Int32) < c2) (h0 : 0 ≤ sc.toInt) (h2 : sc.toInt + ln.toInt ≤ 16) (hbl : bs.length = 16) :
    Ctr l Z EL1 n0 (⟨"java/lang/StringBuilder", "append", "([CII)Ljava/lang/StringBuilder;"⟩ : MethodName) jdk_67_method_12_code 4 (some (.object "java/lang/StringBuilder")) ({ frames := 3, cells := 0, slots := 0, locals := 48 } : Room) #[.ref x, .ref b, .int ss, .int ln] h [tb] (fun v h' => v = some (.ref x) ∧ ∃ (sc' : Int32) (bs' : List Value), Keep h h' [x, tb] ∧ Exa Z h' x "java/lang/StringBuilder" ∧ Fld Z h' x "java/lang/AbstractStringBuilder" "value" "[B" (.ref tb) ∧ Fld Z h' x "java/lang/AbstractStringBuilder" "coder" "B" (.int (0 : Int32)) ∧ Fld Z h' x "java/lang/AbstractStringBuilder" "count" "I" (.int sc') ∧ Arv Z h' tb kb .byte (16 : Int32) bs' (.int (0 : Int32)) ∧ bs'.length = 16 ∧ sc'.toInt = sc.toInt + ln.toInt) := by
  rcases hss with rfl | rfl <;> rcases hln with rfl | rfl | rfl
  · exact rmSA00 X nx nb hO Ex Fv Fk Fs Vb Vc rc0 rc1 rc2 h0 h2 hbl
  · exact rmSA01 X nx nb hO Ex Fv Fk Fs Vb Vc rc0 rc1 rc2 h0 h2 hbl
  · exact rmSA02 X nx nb hO Ex Fv Fk Fs Vb Vc rc0 rc1 rc2 h0 h2 hbl
  · exact rmSA10 X nx nb hO Ex Fv Fk Fs Vb Vc rc0 rc1 rc2 h0 h2 hbl
  · exact rmSA11 X nx nb hO Ex Fv Fk Fs Vb Vc rc0 rc1 rc2 h0 h2 hbl
  · exact rmSA12 X nx nb hO Ex Fv Fk Fs Vb Vc rc0 rc1 rc2 h0 h2 hbl
theorem dAC0_0 : decode prog_3_method_2_code 0 = .ok (.aload_n 0, 1) := by decide +kernel
theorem dAC0_1 : decode prog_3_method_2_code 1 = .ok (.getfield 10, 3) := by decide +kernel
theorem dAC0_4 : decode prog_3_method_2_code 4 = .ok (.aload 4, 2) := by decide +kernel
theorem dAC0_6 : decode prog_3_method_2_code 6 = .ok (.iload 5, 2) := by decide +kernel
theorem dAC0_8 : decode prog_3_method_2_code 8 = .ok (.iload 6, 2) := by decide +kernel
theorem dAC0_10 : decode prog_3_method_2_code 10 = .ok (.invokevirtual 20, 3) := by decide +kernel
theorem dAC0_13 : decode prog_3_method_2_code 13 = .ok (.pop, 1) := by decide +kernel
theorem dAC0_14 : decode prog_3_method_2_code 14 = .ok (.aload_n 0, 1) := by decide +kernel
theorem dAC0_15 : decode prog_3_method_2_code 15 = .ok (.iload_n 1, 1) := by decide +kernel
theorem dAC0_16 : decode prog_3_method_2_code 16 = .ok (.iload_n 2, 1) := by decide +kernel
theorem dAC0_17 : decode prog_3_method_2_code 17 = .ok (.iload_n 3, 1) := by decide +kernel
theorem dAC0_18 : decode prog_3_method_2_code 18 = .ok (.iconst (-1), 1) := by decide +kernel
theorem dAC0_19 : decode prog_3_method_2_code 19 = .ok (.invokevirtual 24, 3) := by decide +kernel
theorem dAC0_22 : decode prog_3_method_2_code 22 = .ok (.return_, 1) := by decide +kernel
set_option maxRecDepth 65536 in
set_option maxHeartbeats 40000000 in
theorem rmAC0 {l : Launch} {Z : State} {a0 : Array Value} {n0 : Nat} (X : Ctx Z a0) {x sb tb t : Addr} {kb kt : ClassId} {sc : Int32} {bs : List Value} {b : Addr} {kc : ClassId} {c0 c1 c2 ss ln : Int32} {dv : Value} (pp qq oo : Int32) {h : Heap} (hO : Old Z n0 h) (A : AS Z h n0 x sb tb t kb kt (0 : Int32) (0 : Int32) [] (16 : Int32) sc bs) (Vc : Arv Z h b kc .char (3 : Int32) [(.int c0), (.int c1), (.int c2)] dv) (rc0 : ¬ c0 < 0 ∧ ¬ (255 : Int32) < c0) (rc1 : ¬ c1 < 0 ∧ ¬ (255 : Int32) < c1) (rc2 : ¬ c2 < 0 ∧ ¬ (255 : Int32) < c2) (hss : ss = 0 ∨ ss = 1) (hln : ln = 0 ∨ ln = 1 ∨ ln = 2) (h0 : 0 ≤ sc.toInt) (h2 : sc.toInt + ln.toInt ≤ 16) (hbl : bs.length = 16) :
    Ctr l Z EL1 n0 (⟨"com/example/nodewarden/nodewarden/core/Asides", "addComment", "(III[CII)V"⟩ : MethodName) prog_3_method_2_code 7 none ({ frames := 4, cells := 1, slots := 80, locals := 63 } : Room) #[(.ref x), (.int pp), (.int qq), (.int oo), (.ref b), (.int ss), (.int ln)] h [tb] (fun v h' => v = none ∧ ∃ (u : Addr) (ku : ClassId) (ee sc' : Int32) (bs' : List Value), AS Z h' n0 x sb tb u kb ku (1 : Int32) (80 : Int32) [(.int pp), (.int qq), (.int oo), (.int (-1 : Int32)), (.int ee), (.int (0 : Int32)), (.int (0 : Int32)), (.int (0 : Int32)), (.int (0 : Int32)), (.int (0 : Int32)), (.int (0 : Int32)), (.int (0 : Int32)), (.int (0 : Int32)), (.int (0 : Int32)), (.int (0 : Int32))] (16 : Int32) sc' bs' ∧ sc'.toInt = sc.toInt + ln.toInt ∧ bs'.length = 16) := by
  have hw := X.hw
  obtain ⟨z1, hz1, hz2⟩ := X.2.2.1
  refine Ctr.intro (a0 := a0) (plainFor_of_name pn3) hO X.ew ?_
  intro p e s m below meth c T0 V0 S0 hby hml hret hnm hsf
  rw [ef17]
  obtain ⟨Ex, Ft, Fb, Fn, Vt, ⟨Es, Fv, Fk, Fs, Vb⟩, nx, ns, nb, nt⟩ := A
  have nXS : x ≠ sb := ne_exa Ex Es (by decide)
  have nXT : x ≠ t := Exa.neArv Ex Vt (w1 hw)
  have nXB : x ≠ tb := Exa.neArv Ex Vb (w1 hw)
  have nST : sb ≠ t := Exa.neArv Es Vt (w10 hw)
  have nSB : sb ≠ tb := Exa.neArv Es Vb (w10 hw)
  have nTB : t ≠ tb := arv_kne Vt Vb (by decide)
  show Go p e below _ (T0.setTop (mkF m 0 #[.val (.ref x), .val (.int pp), .val (.int qq), .val (.int oo), .val (.ref b), .val (.int ss), .val (.int ln)] []))
  refine s_aloadN S0 (hb hby dAC0_0) rfl rfl (pc' := 1) rfl ?_
  refine g_getF S0 (w29 hw) Via.refl Ft (hb hby dAC0_1) ?_
  intro T735 ST735
  show Go p e below _ (T735.setTop (mkF m 4 #[.val (.ref x), .val (.int pp), .val (.int qq), .val (.int oo), .val (.ref b), .val (.int ss), .val (.int ln)] [(.ref sb)]))
  refine s_aload ST735 (hb hby dAC0_4) rfl rfl (pc' := 6) rfl ?_
  refine s_iload ST735 (hb hby dAC0_6) rfl (pc' := 8) rfl ?_
  refine s_iload ST735 (hb hby dAC0_8) rfl (pc' := 10) rfl ?_
  show Go p e below _ (T735.setTop (mkF m 10 #[.val (.ref x), .val (.int pp), .val (.int qq), .val (.int oo), .val (.ref b), .val (.int ss), .val (.int ln)] [(.int ln), (.int ss), (.ref b), (.ref sb)]))
  refine g_virtual ST735 (rmSU X ns nb hss hln ST735.old Es Fv Fk Fs Vb Vc rc0 rc1 rc2 h0 h2 hbl) (sf1 Vb.lt (hsf tb List.mem_cons_self)) (w160 hw) (w161 hw) (w163 hw) (w162 hw) (w11 hw) (w164 hw) (by decide) (fun _ h => notFace_of_selects h) (hb hby dAC0_10) (by rw [hml]; rfl) sb Es [(.ref b), (.int ss), (.int ln)] (lenOf pd20 rfl) rfl rfl (Nat.le_of_ble_eq_true rfl) (Nat.le_of_ble_eq_true rfl) (Nat.le_of_ble_eq_true rfl) (Nat.le_of_ble_eq_true rfl) ?_
  intro v736 T736 V736 h736 S736 C736 q736
  obtain ⟨rfl, sc1, bs1, K1, E1_, Fa1, Fb1, Fc1, V1, lb1, ls1⟩ := q736
  have sf737 := C736.safe Vb.lt (hsf tb List.mem_cons_self)
  show Go p e below _ (T736.setTop (mkF m 13 #[.val (.ref x), .val (.int pp), .val (.int qq), .val (.int oo), .val (.ref b), .val (.int ss), .val (.int ln)] [(.ref sb)]))
  refine s_pop S736 (hb hby dAC0_13) rfl (pc' := 14) rfl ?_
  refine s_aloadN S736 (hb hby dAC0_14) rfl rfl (pc' := 15) rfl ?_
  refine s_iloadN S736 (hb hby dAC0_15) rfl (pc' := 16) rfl ?_
  refine s_iloadN S736 (hb hby dAC0_16) rfl (pc' := 17) rfl ?_
  refine s_iloadN S736 (hb hby dAC0_17) rfl (pc' := 18) rfl ?_
  refine s_iconst S736 (hb hby dAC0_18) (v := (-1 : Int32)) rfl (pc' := 19) rfl ?_
  have F738 := Ex.keep K1
  have F739 := Ft.keep K1 (ninS nXS (ninS nXB nin0))
  have F740 := Fb.keep K1 (ninS nXS (ninS nXB nin0))
  have F741 := Fn.keep K1 (ninS nXS (ninS nXB nin0))
  have F742 := Vt.keep K1 (ninS (Ne.symm nST) (ninS nTB nin0))
  show Go p e below _ (T736.setTop (mkF m 19 #[.val (.ref x), .val (.int pp), .val (.int qq), .val (.int oo), .val (.ref b), .val (.int ss), .val (.int ln)] [(.int (-1 : Int32)), (.int oo), (.int qq), (.int pp), (.ref x)]))
  refine g_private S736 (rmAD0 X pp qq oo (-1 : Int32) S736.old ⟨F738, F739, F740, F741, F742, ⟨E1_, Fa1, Fb1, Fc1, V1⟩, nx, ns, nb, nt⟩) (fun _ q => nomatch q) (w131 hw) (ni_inst (w1 hw)) (w133 hw) (w132 hw) (w2 hw) (w134 hw) (by decide) (hb hby dAC0_19) (by rw [hml]; rfl) x F738 [(.int pp), (.int qq), (.int oo), (.int (-1 : Int32))] (lenOf pd11 rfl) rfl rfl (Nat.le_of_ble_eq_true rfl) (Nat.le_of_ble_eq_true rfl) (Nat.le_of_ble_eq_true rfl) (Nat.le_of_ble_eq_true rfl) ?_
  intro v743 T743 V743 h743 S743 C743 q743
  obtain ⟨rfl, u, ku, K9, A9⟩ := q743
  have sf744 := C743.safe (Nat.lt_of_lt_of_le Vb.lt (Nat.le_trans (Nat.le_refl _) K1.1)) sf737
  show Go p e below _ (T743.setTop (mkF m 22 #[.val (.ref x), .val (.int pp), .val (.int qq), .val (.int oo), .val (.ref b), .val (.int ss), .val (.int ln)] []))
  exact g_ret S743 (hb hby dAC0_22) hret ⟨rfl, u, ku, sc1, sc1, bs1, A9, ls1, lb1⟩
theorem dAC1_0 : decode prog_3_method_2_code 0 = .ok (.aload_n 0, 1) := by decide +kernel
theorem dAC1_1 : decode prog_3_method_2_code 1 = .ok (.getfield 10, 3) := by decide +kernel
theorem dAC1_4 : decode prog_3_method_2_code 4 = .ok (.aload 4, 2) := by decide +kernel
theorem dAC1_6 : decode prog_3_method_2_code 6 = .ok (.iload 5, 2) := by decide +kernel
theorem dAC1_8 : decode prog_3_method_2_code 8 = .ok (.iload 6, 2) := by decide +kernel
theorem dAC1_10 : decode prog_3_method_2_code 10 = .ok (.invokevirtual 20, 3) := by decide +kernel
theorem dAC1_13 : decode prog_3_method_2_code 13 = .ok (.pop, 1) := by decide +kernel
theorem dAC1_14 : decode prog_3_method_2_code 14 = .ok (.aload_n 0, 1) := by decide +kernel
theorem dAC1_15 : decode prog_3_method_2_code 15 = .ok (.iload_n 1, 1) := by decide +kernel
theorem dAC1_16 : decode prog_3_method_2_code 16 = .ok (.iload_n 2, 1) := by decide +kernel
theorem dAC1_17 : decode prog_3_method_2_code 17 = .ok (.iload_n 3, 1) := by decide +kernel
theorem dAC1_18 : decode prog_3_method_2_code 18 = .ok (.iconst (-1), 1) := by decide +kernel
theorem dAC1_19 : decode prog_3_method_2_code 19 = .ok (.invokevirtual 24, 3) := by decide +kernel
theorem dAC1_22 : decode prog_3_method_2_code 22 = .ok (.return_, 1) := by decide +kernel
set_option maxRecDepth 65536 in
set_option maxHeartbeats 40000000 in
theorem rmAC1 {l : Launch} {Z : State} {a0 : Array Value} {n0 : Nat} (X : Ctx Z a0) {x sb tb t : Addr} {kb kt : ClassId} {sc : Int32} {bs : List Value} {r0 r1 r2 r3 r4 : Int32} {b : Addr} {kc : ClassId} {c0 c1 c2 ss ln : Int32} {dv : Value} (pp qq oo : Int32) {h : Heap} (hO : Old Z n0 h) (A : AS Z h n0 x sb tb t kb kt (1 : Int32) (80 : Int32) [(.int r0), (.int r1), (.int r2), (.int r3), (.int r4), (.int (0 : Int32)), (.int (0 : Int32)), (.int (0 : Int32)), (.int (0 : Int32)), (.int (0 : Int32)), (.int (0 : Int32)), (.int (0 : Int32)), (.int (0 : Int32)), (.int (0 : Int32)), (.int (0 : Int32))] (16 : Int32) sc bs) (Vc : Arv Z h b kc .char (3 : Int32) [(.int c0), (.int c1), (.int c2)] dv) (rc0 : ¬ c0 < 0 ∧ ¬ (255 : Int32) < c0) (rc1 : ¬ c1 < 0 ∧ ¬ (255 : Int32) < c1) (rc2 : ¬ c2 < 0 ∧ ¬ (255 : Int32) < c2) (hss : ss = 0 ∨ ss = 1) (hln : ln = 0 ∨ ln = 1 ∨ ln = 2) (h0 : 0 ≤ sc.toInt) (h2 : sc.toInt + ln.toInt ≤ 16) (hbl : bs.length = 16) :
    Ctr l Z EL1 n0 (⟨"com/example/nodewarden/nodewarden/core/Asides", "addComment", "(III[CII)V"⟩ : MethodName) prog_3_method_2_code 7 none ({ frames := 4, cells := 0, slots := 0, locals := 63 } : Room) #[(.ref x), (.int pp), (.int qq), (.int oo), (.ref b), (.int ss), (.int ln)] h [tb] (fun v h' => v = none ∧ ∃ (u : Addr) (ku : ClassId) (ee sc' : Int32) (bs' : List Value), AS Z h' n0 x sb tb u kb ku (2 : Int32) (80 : Int32) [(.int r0), (.int r1), (.int r2), (.int r3), (.int r4), (.int pp), (.int qq), (.int oo), (.int (-1 : Int32)), (.int ee), (.int (0 : Int32)), (.int (0 : Int32)), (.int (0 : Int32)), (.int (0 : Int32)), (.int (0 : Int32))] (16 : Int32) sc' bs' ∧ sc'.toInt = sc.toInt + ln.toInt ∧ bs'.length = 16) := by
  have hw := X.hw
  obtain ⟨z1, hz1, hz2⟩ := X.2.2.1
  refine Ctr.intro (a0 := a0) (plainFor_of_name pn3) hO X.ew ?_
  intro p e s m below meth c T0 V0 S0 hby hml hret hnm hsf
  rw [ef17]
  obtain ⟨Ex, Ft, Fb, Fn, Vt, ⟨Es, Fv, Fk, Fs, Vb⟩, nx, ns, nb, nt⟩ := A
  have nXS : x ≠ sb := ne_exa Ex Es (by decide)
  have nXT : x ≠ t := Exa.neArv Ex Vt (w1 hw)
  have nXB : x ≠ tb := Exa.neArv Ex Vb (w1 hw)
  have nST : sb ≠ t := Exa.neArv Es Vt (w10 hw)
  have nSB : sb ≠ tb := Exa.neArv Es Vb (w10 hw)
  have nTB : t ≠ tb := arv_kne Vt Vb (by decide)
  show Go p e below _ (T0.setTop (mkF m 0 #[.val (.ref x), .val (.int pp), .val (.int qq), .val (.int oo), .val (.ref b), .val (.int ss), .val (.int ln)] []))
  refine s_aloadN S0 (hb hby dAC1_0) rfl rfl (pc' := 1) rfl ?_
  refine g_getF S0 (w29 hw) Via.refl Ft (hb hby dAC1_1) ?_
  intro T745 ST745
  show Go p e below _ (T745.setTop (mkF m 4 #[.val (.ref x), .val (.int pp), .val (.int qq), .val (.int oo), .val (.ref b), .val (.int ss), .val (.int ln)] [(.ref sb)]))
  refine s_aload ST745 (hb hby dAC1_4) rfl rfl (pc' := 6) rfl ?_
  refine s_iload ST745 (hb hby dAC1_6) rfl (pc' := 8) rfl ?_
  refine s_iload ST745 (hb hby dAC1_8) rfl (pc' := 10) rfl ?_
  show Go p e below _ (T745.setTop (mkF m 10 #[.val (.ref x), .val (.int pp), .val (.int qq), .val (.int oo), .val (.ref b), .val (.int ss), .val (.int ln)] [(.int ln), (.int ss), (.ref b), (.ref sb)]))
  refine g_virtual ST745 (rmSU X ns nb hss hln ST745.old Es Fv Fk Fs Vb Vc rc0 rc1 rc2 h0 h2 hbl) (sf1 Vb.lt (hsf tb List.mem_cons_self)) (w160 hw) (w161 hw) (w163 hw) (w162 hw) (w11 hw) (w164 hw) (by decide) (fun _ h => notFace_of_selects h) (hb hby dAC1_10) (by rw [hml]; rfl) sb Es [(.ref b), (.int ss), (.int ln)] (lenOf pd20 rfl) rfl rfl (Nat.le_of_ble_eq_true rfl) (Nat.le_of_ble_eq_true rfl) (Nat.le_of_ble_eq_true rfl) (Nat.le_of_ble_eq_true rfl) ?_
  intro v746 T746 V746 h746 S746 C746 q746
  obtain ⟨rfl, sc1, bs1, K1, E1_, Fa1, Fb1, Fc1, V1, lb1, ls1⟩ := q746
  have sf747 := C746.safe Vb.lt (hsf tb List.mem_cons_self)
  show Go p e below _ (T746.setTop (mkF m 13 #[.val (.ref x), .val (.int pp), .val (.int qq), .val (.int oo), .val (.ref b), .val (.int ss), .val (.int ln)] [(.ref sb)]))
  refine s_pop S746 (hb hby dAC1_13) rfl (pc' := 14) rfl ?_
  refine s_aloadN S746 (hb hby dAC1_14) rfl rfl (pc' := 15) rfl ?_
  refine s_iloadN S746 (hb hby dAC1_15) rfl (pc' := 16) rfl ?_
  refine s_iloadN S746 (hb hby dAC1_16) rfl (pc' := 17) rfl ?_
  refine s_iloadN S746 (hb hby dAC1_17) rfl (pc' := 18) rfl ?_
  refine s_iconst S746 (hb hby dAC1_18) (v := (-1 : Int32)) rfl (pc' := 19) rfl ?_
  have F748 := Ex.keep K1
  have F749 := Ft.keep K1 (ninS nXS (ninS nXB nin0))
  have F750 := Fb.keep K1 (ninS nXS (ninS nXB nin0))
  have F751 := Fn.keep K1 (ninS nXS (ninS nXB nin0))
  have F752 := Vt.keep K1 (ninS (Ne.symm nST) (ninS nTB nin0))
  show Go p e below _ (T746.setTop (mkF m 19 #[.val (.ref x), .val (.int pp), .val (.int qq), .val (.int oo), .val (.ref b), .val (.int ss), .val (.int ln)] [(.int (-1 : Int32)), (.int oo), (.int qq), (.int pp), (.ref x)]))
  refine g_private S746 (rmAD1 X pp qq oo (-1 : Int32) S746.old ⟨F748, F749, F750, F751, F752, ⟨E1_, Fa1, Fb1, Fc1, V1⟩, nx, ns, nb, nt⟩) (fun _ q => nomatch q) (w131 hw) (ni_inst (w1 hw)) (w133 hw) (w132 hw) (w2 hw) (w134 hw) (by decide) (hb hby dAC1_19) (by rw [hml]; rfl) x F748 [(.int pp), (.int qq), (.int oo), (.int (-1 : Int32))] (lenOf pd11 rfl) rfl rfl (Nat.le_of_ble_eq_true rfl) (Nat.le_of_ble_eq_true rfl) (Nat.le_of_ble_eq_true rfl) (Nat.le_of_ble_eq_true rfl) ?_
  intro v753 T753 V753 h753 S753 C753 q753
  obtain ⟨rfl, K9, A9⟩ := q753
  have sf754 := C753.safe (Nat.lt_of_lt_of_le Vb.lt (Nat.le_trans (Nat.le_refl _) K1.1)) sf747
  show Go p e below _ (T753.setTop (mkF m 22 #[.val (.ref x), .val (.int pp), .val (.int qq), .val (.int oo), .val (.ref b), .val (.int ss), .val (.int ln)] []))
  exact g_ret S753 (hb hby dAC1_22) hret ⟨rfl, t, kt, sc1, sc1, bs1, A9, ls1, lb1⟩
theorem dAC2_0 : decode prog_3_method_2_code 0 = .ok (.aload_n 0, 1) := by decide +kernel
theorem dAC2_1 : decode prog_3_method_2_code 1 = .ok (.getfield 10, 3) := by decide +kernel
theorem dAC2_4 : decode prog_3_method_2_code 4 = .ok (.aload 4, 2) := by decide +kernel
theorem dAC2_6 : decode prog_3_method_2_code 6 = .ok (.iload 5, 2) := by decide +kernel
theorem dAC2_8 : decode prog_3_method_2_code 8 = .ok (.iload 6, 2) := by decide +kernel
theorem dAC2_10 : decode prog_3_method_2_code 10 = .ok (.invokevirtual 20, 3) := by decide +kernel
theorem dAC2_13 : decode prog_3_method_2_code 13 = .ok (.pop, 1) := by decide +kernel
theorem dAC2_14 : decode prog_3_method_2_code 14 = .ok (.aload_n 0, 1) := by decide +kernel
theorem dAC2_15 : decode prog_3_method_2_code 15 = .ok (.iload_n 1, 1) := by decide +kernel
theorem dAC2_16 : decode prog_3_method_2_code 16 = .ok (.iload_n 2, 1) := by decide +kernel
theorem dAC2_17 : decode prog_3_method_2_code 17 = .ok (.iload_n 3, 1) := by decide +kernel
theorem dAC2_18 : decode prog_3_method_2_code 18 = .ok (.iconst (-1), 1) := by decide +kernel
theorem dAC2_19 : decode prog_3_method_2_code 19 = .ok (.invokevirtual 24, 3) := by decide +kernel
theorem dAC2_22 : decode prog_3_method_2_code 22 = .ok (.return_, 1) := by decide +kernel
set_option maxRecDepth 65536 in
set_option maxHeartbeats 40000000 in
theorem rmAC2 {l : Launch} {Z : State} {a0 : Array Value} {n0 : Nat} (X : Ctx Z a0) {x sb tb t : Addr} {kb kt : ClassId} {sc : Int32} {bs : List Value} {r0 r1 r2 r3 r4 r5 r6 r7 r8 r9 : Int32} {b : Addr} {kc : ClassId} {c0 c1 c2 ss ln : Int32} {dv : Value} (pp qq oo : Int32) {h : Heap} (hO : Old Z n0 h) (A : AS Z h n0 x sb tb t kb kt (2 : Int32) (80 : Int32) [(.int r0), (.int r1), (.int r2), (.int r3), (.int r4), (.int r5), (.int r6), (.int r7), (.int r8), (.int r9), (.int (0 : Int32)), (.int (0 : Int32)), (.int (0 : Int32)), (.int (0 : Int32)), (.int (0 : Int32))] (16 : Int32) sc bs) (Vc : Arv Z h b kc .char (3 : Int32) [(.int c0), (.int c1), (.int c2)] dv) (rc0 : ¬ c0 < 0 ∧ ¬ (255 : Int32) < c0) (rc1 : ¬ c1 < 0 ∧ ¬ (255 : Int32) < c1) (rc2 : ¬ c2 < 0 ∧ ¬ (255 : Int32) < c2) (hss : ss = 0 ∨ ss = 1) (hln : ln = 0 ∨ ln = 1 ∨ ln = 2) (h0 : 0 ≤ sc.toInt) (h2 : sc.toInt + ln.toInt ≤ 16) (hbl : bs.length = 16) :
    Ctr l Z EL1 n0 (⟨"com/example/nodewarden/nodewarden/core/Asides", "addComment", "(III[CII)V"⟩ : MethodName) prog_3_method_2_code 7 none ({ frames := 4, cells := 0, slots := 0, locals := 63 } : Room) #[(.ref x), (.int pp), (.int qq), (.int oo), (.ref b), (.int ss), (.int ln)] h [tb] (fun v h' => v = none ∧ ∃ (u : Addr) (ku : ClassId) (ee sc' : Int32) (bs' : List Value), AS Z h' n0 x sb tb u kb ku (3 : Int32) (80 : Int32) [(.int r0), (.int r1), (.int r2), (.int r3), (.int r4), (.int r5), (.int r6), (.int r7), (.int r8), (.int r9), (.int pp), (.int qq), (.int oo), (.int (-1 : Int32)), (.int ee)] (16 : Int32) sc' bs' ∧ sc'.toInt = sc.toInt + ln.toInt ∧ bs'.length = 16) := by
  have hw := X.hw
  obtain ⟨z1, hz1, hz2⟩ := X.2.2.1
  refine Ctr.intro (a0 := a0) (plainFor_of_name pn3) hO X.ew ?_
  intro p e s m below meth c T0 V0 S0 hby hml hret hnm hsf
  rw [ef17]
  obtain ⟨Ex, Ft, Fb, Fn, Vt, ⟨Es, Fv, Fk, Fs, Vb⟩, nx, ns, nb, nt⟩ := A
  have nXS : x ≠ sb := ne_exa Ex Es (by decide)
  have nXT : x ≠ t := Exa.neArv Ex Vt (w1 hw)
  have nXB : x ≠ tb := Exa.neArv Ex Vb (w1 hw)
  have nST : sb ≠ t := Exa.neArv Es Vt (w10 hw)
  have nSB : sb ≠ tb := Exa.neArv Es Vb (w10 hw)
  have nTB : t ≠ tb := arv_kne Vt Vb (by decide)
  show Go p e below _ (T0.setTop (mkF m 0 #[.val (.ref x), .val (.int pp), .val (.int qq), .val (.int oo), .val (.ref b), .val (.int ss), .val (.int ln)] []))
  refine s_aloadN S0 (hb hby dAC2_0) rfl rfl (pc' := 1) rfl ?_
  refine g_getF S0 (w29 hw) Via.refl Ft (hb hby dAC2_1) ?_
  intro T755 ST755
  show Go p e below _ (T755.setTop (mkF m 4 #[.val (.ref x), .val (.int pp), .val (.int qq), .val (.int oo), .val (.ref b), .val (.int ss), .val (.int ln)] [(.ref sb)]))
  refine s_aload ST755 (hb hby dAC2_4) rfl rfl (pc' := 6) rfl ?_
  refine s_iload ST755 (hb hby dAC2_6) rfl (pc' := 8) rfl ?_
  refine s_iload ST755 (hb hby dAC2_8) rfl (pc' := 10) rfl ?_
  show Go p e below _ (T755.setTop (mkF m 10 #[.val (.ref x), .val (.int pp), .val (.int qq), .val (.int oo), .val (.ref b), .val (.int ss), .val (.int ln)] [(.int ln), (.int ss), (.ref b), (.ref sb)]))
  refine g_virtual ST755 (rmSU X ns nb hss hln ST755.old Es Fv Fk Fs Vb Vc rc0 rc1 rc2 h0 h2 hbl) (sf1 Vb.lt (hsf tb List.mem_cons_self)) (w160 hw) (w161 hw) (w163 hw) (w162 hw) (w11 hw) (w164 hw) (by decide) (fun _ h => notFace_of_selects h) (hb hby dAC2_10) (by rw [hml]; rfl) sb Es [(.ref b), (.int ss), (.int ln)] (lenOf pd20 rfl) rfl rfl (Nat.le_of_ble_eq_true rfl) (Nat.le_of_ble_eq_true rfl) (Nat.le_of_ble_eq_true rfl) (Nat.le_of_ble_eq_true rfl) ?_
  intro v756 T756 V756 h756 S756 C756 q756
  obtain ⟨rfl, sc1, bs1, K1, E1_, Fa1, Fb1, Fc1, V1, lb1, ls1⟩ := q756
  have sf757 := C756.safe Vb.lt (hsf tb List.mem_cons_self)
  show Go p e below _ (T756.setTop (mkF m 13 #[.val (.ref x), .val (.int pp), .val (.int qq), .val (.int oo), .val (.ref b), .val (.int ss), .val (.int ln)] [(.ref sb)]))
  refine s_pop S756 (hb hby dAC2_13) rfl (pc' := 14) rfl ?_
  refine s_aloadN S756 (hb hby dAC2_14) rfl rfl (pc' := 15) rfl ?_
  refine s_iloadN S756 (hb hby dAC2_15) rfl (pc' := 16) rfl ?_
  refine s_iloadN S756 (hb hby dAC2_16) rfl (pc' := 17) rfl ?_
  refine s_iloadN S756 (hb hby dAC2_17) rfl (pc' := 18) rfl ?_
  refine s_iconst S756 (hb hby dAC2_18) (v := (-1 : Int32)) rfl (pc' := 19) rfl ?_
  have F758 := Ex.keep K1
  have F759 := Ft.keep K1 (ninS nXS (ninS nXB nin0))
  have F760 := Fb.keep K1 (ninS nXS (ninS nXB nin0))
  have F761 := Fn.keep K1 (ninS nXS (ninS nXB nin0))
  have F762 := Vt.keep K1 (ninS (Ne.symm nST) (ninS nTB nin0))
  show Go p e below _ (T756.setTop (mkF m 19 #[.val (.ref x), .val (.int pp), .val (.int qq), .val (.int oo), .val (.ref b), .val (.int ss), .val (.int ln)] [(.int (-1 : Int32)), (.int oo), (.int qq), (.int pp), (.ref x)]))
  refine g_private S756 (rmAD2 X pp qq oo (-1 : Int32) S756.old ⟨F758, F759, F760, F761, F762, ⟨E1_, Fa1, Fb1, Fc1, V1⟩, nx, ns, nb, nt⟩) (fun _ q => nomatch q) (w131 hw) (ni_inst (w1 hw)) (w133 hw) (w132 hw) (w2 hw) (w134 hw) (by decide) (hb hby dAC2_19) (by rw [hml]; rfl) x F758 [(.int pp), (.int qq), (.int oo), (.int (-1 : Int32))] (lenOf pd11 rfl) rfl rfl (Nat.le_of_ble_eq_true rfl) (Nat.le_of_ble_eq_true rfl) (Nat.le_of_ble_eq_true rfl) (Nat.le_of_ble_eq_true rfl) ?_
  intro v763 T763 V763 h763 S763 C763 q763
  obtain ⟨rfl, K9, A9⟩ := q763
  have sf764 := C763.safe (Nat.lt_of_lt_of_le Vb.lt (Nat.le_trans (Nat.le_refl _) K1.1)) sf757
  show Go p e below _ (T763.setTop (mkF m 22 #[.val (.ref x), .val (.int pp), .val (.int qq), .val (.int oo), .val (.ref b), .val (.int ss), .val (.int ln)] []))
  exact g_ret S763 (hb hby dAC2_22) hret ⟨rfl, t, kt, sc1, sc1, bs1, A9, ls1, lb1⟩
theorem dST_0 : decode method_2_code 0 = .ok (.iload_n 0, 1) := by decide +kernel
theorem dST_1 : decode method_2_code 1 = .ok (.sipush 255, 3) := by decide +kernel
theorem dST_4 : decode method_2_code 4 = .ok (.iand, 1) := by decide +kernel
theorem dST_5 : decode method_2_code 5 = .ok (.i2c, 1) := by decide +kernel
theorem dST_6 : decode method_2_code 6 = .ok (.istore_n 2, 1) := by decide +kernel
theorem dST_7 : decode method_2_code 7 = .ok (.iload_n 0, 1) := by decide +kernel
theorem dST_8 : decode method_2_code 8 = .ok (.bipush 8, 2) := by decide +kernel
theorem dST_10 : decode method_2_code 10 = .ok (.iushr, 1) := by decide +kernel
theorem dST_11 : decode method_2_code 11 = .ok (.sipush 255, 3) := by decide +kernel
theorem dST_14 : decode method_2_code 14 = .ok (.iand, 1) := by decide +kernel
theorem dST_15 : decode method_2_code 15 = .ok (.i2c, 1) := by decide +kernel
theorem dST_16 : decode method_2_code 16 = .ok (.istore_n 3, 1) := by decide +kernel
theorem dST_17 : decode method_2_code 17 = .ok (.iload_n 1, 1) := by decide +kernel
theorem dST_18 : decode method_2_code 18 = .ok (.iconst 3, 1) := by decide +kernel
theorem dST_19 : decode method_2_code 19 = .ok (.iand, 1) := by decide +kernel
theorem dST_20 : decode method_2_code 20 = .ok (.istore 4, 2) := by decide +kernel
theorem dST_22 : decode method_2_code 22 = .ok (.iload 4, 2) := by decide +kernel
theorem dST_24 : decode method_2_code 24 = .ok (.ifCond .ne 6, 3) := by decide +kernel
theorem dST_27 : decode method_2_code 27 = .ok (.ldc 7, 2) := by decide +kernel
theorem dST_29 : decode method_2_code 29 = .ok (.areturn, 1) := by decide +kernel
theorem dST_30 : decode method_2_code 30 = .ok (.iload 4, 2) := by decide +kernel
theorem dST_32 : decode method_2_code 32 = .ok (.iconst 1, 1) := by decide +kernel
theorem dST_33 : decode method_2_code 33 = .ok (.if_icmp .ne 8, 3) := by decide +kernel
theorem dST_36 : decode method_2_code 36 = .ok (.iload_n 2, 1) := by decide +kernel
theorem dST_37 : decode method_2_code 37 = .ok (.invokestatic 9, 3) := by decide +kernel
theorem dST_40 : decode method_2_code 40 = .ok (.areturn, 1) := by decide +kernel
theorem dST_41 : decode method_2_code 41 = .ok (.new 10, 3) := by decide +kernel
theorem dST_44 : decode method_2_code 44 = .ok (.dup, 1) := by decide +kernel
theorem dST_45 : decode method_2_code 45 = .ok (.iconst 2, 1) := by decide +kernel
theorem dST_46 : decode method_2_code 46 = .ok (.newarray .char, 2) := by decide +kernel
theorem dST_48 : decode method_2_code 48 = .ok (.dup, 1) := by decide +kernel
theorem dST_49 : decode method_2_code 49 = .ok (.iconst 0, 1) := by decide +kernel
theorem dST_50 : decode method_2_code 50 = .ok (.iload_n 2, 1) := by decide +kernel
theorem dST_51 : decode method_2_code 51 = .ok (.castore, 1) := by decide +kernel
theorem dST_52 : decode method_2_code 52 = .ok (.dup, 1) := by decide +kernel
theorem dST_53 : decode method_2_code 53 = .ok (.iconst 1, 1) := by decide +kernel
theorem dST_54 : decode method_2_code 54 = .ok (.iload_n 3, 1) := by decide +kernel
theorem dST_55 : decode method_2_code 55 = .ok (.castore, 1) := by decide +kernel
theorem dST_56 : decode method_2_code 56 = .ok (.invokespecial 15, 3) := by decide +kernel
theorem dST_59 : decode method_2_code 59 = .ok (.areturn, 1) := by decide +kernel
set_option maxRecDepth 65536 in
set_option maxHeartbeats 40000000 in
theorem rmST {l : Launch} {Z : State} {a0 : Array Value} {n0 : Nat} (X : Ctx Z a0) (ch len : Int32) {h : Heap} (hO : Old Z n0 h)  :
    Ctr l Z EL1 n0 (⟨"com/example/nodewarden/nodewarden/core/AsidesIsCommentPinLaw", "str", "(II)Ljava/lang/String;"⟩ : MethodName) method_2_code 5 (some (.object "java/lang/String")) ({ frames := 5, cells := 3, slots := 8, locals := 78 } : Room) #[(.int ch), (.int len)] h [] (fun v h' => ∃ (a t : Addr) (kt : ClassId) (z : Int32) (vs : List Value), v = some (.ref a) ∧ Ext h h' ∧ LS Z h' a t kt z vs ∧ 0 ≤ z.toInt ∧ z.toInt ≤ 2) := by
  have hw := X.hw
  obtain ⟨z1, hz1, hz2⟩ := X.2.2.1
  refine Ctr.intro (a0 := a0) (plainFor_of_name pn7) hO X.ew ?_
  intro p e s m below meth c T0 V0 S0 hby hml hret hnm hsf
  rw [ef18]
  refine s_iloadN S0 (hb hby dST_0) rfl (pc' := 1) rfl ?_
  refine s_sipush S0 (hb hby dST_1) (v := (255 : Int32)) rfl (pc' := 4) rfl ?_
  refine s_iand S0 (hb hby dST_4) (z := (ch &&& (255 : Int32))) rfl (pc' := 5) rfl ?_
  refine s_i2c S0 (hb hby dST_5) (z := ((ch &&& (255 : Int32)).toUInt32.toUInt16.toUInt32.toInt32)) rfl (pc' := 6) rfl ?_
  generalize ec765 : ((ch &&& (255 : Int32)).toUInt32.toUInt16.toUInt32.toInt32) = c765
  refine s_istoreN S0 (hb hby dST_6) (L' := #[.val (.int ch), .val (.int len), .val (.int c765), .unset, .unset]) rfl (pc' := 7) rfl ?_
  have rc765 : ¬ c765 < 0 ∧ ¬ (255 : Int32) < c765 := by rw [← ec765, i2c_mask]; exact and255 _
  refine s_iloadN S0 (hb hby dST_7) rfl (pc' := 8) rfl ?_
  refine s_bipush S0 (hb hby dST_8) (v := (8 : Int32)) rfl (pc' := 10) rfl ?_
  refine s_iushr S0 (hb hby dST_10) (z := ((ch.toUInt32 >>> ((8 : Int32) &&& 31).toUInt32).toInt32)) rfl (pc' := 11) rfl ?_
  refine s_sipush S0 (hb hby dST_11) (v := (255 : Int32)) rfl (pc' := 14) rfl ?_
  refine s_iand S0 (hb hby dST_14) (z := (((ch.toUInt32 >>> ((8 : Int32) &&& 31).toUInt32).toInt32) &&& (255 : Int32))) rfl (pc' := 15) rfl ?_
  refine s_i2c S0 (hb hby dST_15) (z := ((((ch.toUInt32 >>> ((8 : Int32) &&& 31).toUInt32).toInt32) &&& (255 : Int32)).toUInt32.toUInt16.toUInt32.toInt32)) rfl (pc' := 16) rfl ?_
  generalize ed766 : ((((ch.toUInt32 >>> ((8 : Int32) &&& 31).toUInt32).toInt32) &&& (255 : Int32)).toUInt32.toUInt16.toUInt32.toInt32) = d766
  refine s_istoreN S0 (hb hby dST_16) (L' := #[.val (.int ch), .val (.int len), .val (.int c765), .val (.int d766), .unset]) rfl (pc' := 17) rfl ?_
  have rd766 : ¬ d766 < 0 ∧ ¬ (255 : Int32) < d766 := by rw [← ed766, i2c_mask]; exact and255 _
  refine s_iloadN S0 (hb hby dST_17) rfl (pc' := 18) rfl ?_
  refine s_iconst S0 (hb hby dST_18) (v := (3 : Int32)) rfl (pc' := 19) rfl ?_
  refine s_iand S0 (hb hby dST_19) (z := (len &&& (3 : Int32))) rfl (pc' := 20) rfl ?_
  generalize en767 : (len &&& (3 : Int32)) = n767
  refine s_istore S0 (hb hby dST_20) (L' := #[.val (.int ch), .val (.int len), .val (.int c765), .val (.int d766), .val (.int n767)]) rfl (pc' := 22) rfl ?_
  refine s_iload S0 (hb hby dST_22) rfl (pc' := 24) rfl ?_
  refine g_if S0 (hb hby dST_24) (by decide) (pcT := 30) (by decide) (fun q => ?_) (fun q => ?_)
  · have hc24_768 : ¬ n767 = (0 : Int32) := icT_ne q
    show Go p e below _ (T0.setTop (mkF m 30 #[.val (.int ch), .val (.int len), .val (.int c765), .val (.int d766), .val (.int n767)] []))
    refine s_iload S0 (hb hby dST_30) rfl (pc' := 32) rfl ?_
    refine s_iconst S0 (hb hby dST_32) (v := (1 : Int32)) rfl (pc' := 33) rfl ?_
    refine g_icmp S0 (hb hby dST_33) (by decide) (pcT := 41) (by decide) (fun q => ?_) (fun q => ?_)
    · have hc33_769 : ¬ n767 = (1 : Int32) := icT_ne q
      show Go p e below _ (T0.setTop (mkF m 41 #[.val (.int ch), .val (.int len), .val (.int c765), .val (.int d766), .val (.int n767)] []))
      refine g_new S0 (w41 hw) (w42 hw) (w23 hw) (hb hby dST_41) (Nat.le_of_ble_eq_true rfl) (Nat.le_of_ble_eq_true rfl) ?_
      intro T770 h770 b770 S770 E770 fr770 lt770 na770 sf770 A770 D770
      have F771 : Fld Z h770 b770 "java/lang/String" "coder" "B" (.int (0 : Int32)) := D770 (Or.inr (w64 hw)) (ty := .byte) (by decide)
      have F772 : Fld Z h770 b770 "java/lang/String" "value" "[B" .null := D770 (Or.inr (w66 hw)) (ty := (.array .byte)) (by decide)
      show Go p e below _ (T770.setTop (mkF m 44 #[.val (.int ch), .val (.int len), .val (.int c765), .val (.int d766), .val (.int n767)] [(.ref b770)]))
      refine s_dup S770 (hb hby dST_44) rfl (pc' := 45) rfl ?_
      refine s_iconst S770 (hb hby dST_45) (v := (2 : Int32)) rfl (pc' := 46) rfl ?_
      refine g_newarr (aty := .char) S770 (w43 hw) (hb hby dST_46) (by decide) (cap := 2) (by decide) (by decide) (Nat.le_of_ble_eq_true rfl) (Nat.le_of_ble_eq_true rfl) ?_
      intro T773 h773 b773 kc773 S773 E773 fr773 lt773 na773 sf773 A773
      have sf774 := Safe.ext E773 S770.chv sf770
      have V773 : Arv Z h773 b773 kc773 .char (2 : Int32) [(.int (0 : Int32)), (.int (0 : Int32))] (.int (0 : Int32)) := A773 2
      show Go p e below _ (T773.setTop (mkF m 48 #[.val (.int ch), .val (.int len), .val (.int c765), .val (.int d766), .val (.int n767)] [(.ref b773), (.ref b770), (.ref b770)]))
      refine s_dup S773 (hb hby dST_48) rfl (pc' := 49) rfl ?_
      refine s_iconst S773 (hb hby dST_49) (v := (0 : Int32)) rfl (pc' := 50) rfl ?_
      refine s_iloadN S773 (hb hby dST_50) rfl (pc' := 51) rfl ?_
      refine g_castore S773 V773 ⟨by decide, by decide⟩ 0 rfl (Nat.le_of_ble_eq_true rfl) na773 (hb hby dST_51) ?_
      intro T775 h775 S775 K775 V775
      have sf776 := Safe.keep K775 (sfS (Safe.arv S773.warm.alike V773 (by decide)) sf0) S773.chv sf774
      rw [narC8 rc765] at V775
      have V775 : Arv Z h775 b773 kc773 .char (2 : Int32) [(.int c765), (.int (0 : Int32))] (.int (0 : Int32)) := V775
      show Go p e below _ (T775.setTop (mkF m 52 #[.val (.int ch), .val (.int len), .val (.int c765), .val (.int d766), .val (.int n767)] [(.ref b773), (.ref b770), (.ref b770)]))
      refine s_dup S775 (hb hby dST_52) rfl (pc' := 53) rfl ?_
      refine s_iconst S775 (hb hby dST_53) (v := (1 : Int32)) rfl (pc' := 54) rfl ?_
      refine s_iloadN S775 (hb hby dST_54) rfl (pc' := 55) rfl ?_
      refine g_castore S775 V775 ⟨by decide, by decide⟩ 1 rfl (Nat.le_of_ble_eq_true rfl) na773 (hb hby dST_55) ?_
      intro T777 h777 S777 K777 V777
      have sf778 := Safe.keep K777 (sfS (Safe.arv S775.warm.alike V775 (by decide)) sf0) S775.chv sf776
      rw [narC8 rd766] at V777
      have V777 : Arv Z h777 b773 kc773 .char (2 : Int32) [(.int c765), (.int d766)] (.int (0 : Int32)) := V777
      show Go p e below _ (T777.setTop (mkF m 56 #[.val (.int ch), .val (.int len), .val (.int c765), .val (.int d766), .val (.int n767)] [(.ref b773), (.ref b770), (.ref b770)]))
      show Go p e below _ (T777.setTop (mkF m 56 #[.val (.int ch), .val (.int len), .val (.int c765), .val (.int d766), .val (.int n767)] [(.ref b773), (.ref b770), (.ref b770)]))
      have X780 : Ext h770 h775 := ext_keep1 E773 K775 fr773
      have X781 : Ext h770 h777 := ext_keep1 X780 K777 fr773
      have A782 := A770.ext X781
      have F783 := F772.ext X781
      have F784 := F771.ext X781
      refine g_newStr S777 X (cs := [c765, d766]) (Nat.le_of_ble_eq_true rfl) (Nat.le_of_ble_eq_true rfl) rfl na770 sf778 A782 F783 F784 V777 (faS rc765 (faS rd766 fa0)) (w44 hw) (hb hby dST_56) (by rw [hml]; rfl) (Nat.le_of_ble_eq_true rfl) (Nat.le_of_ble_eq_true rfl) (Nat.le_of_ble_eq_true rfl) (Nat.le_of_ble_eq_true rfl) ?_
      intro T779 h779 S779 K779 F779
      have X785 : Ext h h773 := ext_trans E770 E773
      have X786 : Ext h h775 := ext_keep1 X785 K775 (Nat.le_trans E770.1 fr773)
      have X787 : Ext h h777 := ext_keep1 X786 K777 (Nat.le_trans E770.1 fr773)
      have X788 : Ext h h779 := ext_keep1 X787 K779 fr770
      obtain ⟨t1, kt1, z1_, vs1, L1, hz1_⟩ := ls_of F779 (faS rc765.2 (faS rd766.2 fa0))
      show Go p e below _ (T779.setTop (mkF m 59 #[.val (.int ch), .val (.int len), .val (.int c765), .val (.int d766), .val (.int n767)] [(.ref b770)]))
      exact g_aret S779 (hb hby dST_59) hret rfl rfl rfl ⟨_, t1, kt1, z1_, vs1, rfl, X788, L1, by rw [hz1_]; show (0 : Int) ≤ (Int32.ofNat 2).toInt; decide, by rw [hz1_]; show (Int32.ofNat 2).toInt ≤ 2; decide⟩
    · have hc33_769 : n767 = (1 : Int32) := icF_ne q
      show Go p e below _ (T0.setTop (mkF m 36 #[.val (.int ch), .val (.int len), .val (.int c765), .val (.int d766), .val (.int n767)] []))
      refine s_iloadN S0 (hb hby dST_36) rfl (pc' := 37) rfl ?_
      show Go p e below _ (T0.setTop (mkF m 37 #[.val (.int ch), .val (.int len), .val (.int c765), .val (.int d766), .val (.int n767)] [(.int c765)]))
      refine g_static S0 (rmVO X S0.old rc765) (fun _ q => nomatch q) (w206 hw) (w207 hw) (w23 hw) (w208 hw) (by decide) (hb hby dST_37) (by rw [hml]; rfl) [(.int c765)] (lenOf pd21 rfl) rfl rfl (Nat.le_of_ble_eq_true rfl) (Nat.le_of_ble_eq_true rfl) (Nat.le_of_ble_eq_true rfl) (Nat.le_of_ble_eq_true rfl) ?_
      intro v789 T789 V789 h789 S789 C789 q789
      obtain ⟨a1, rfl, F1, E1⟩ := q789
      obtain ⟨t1, kt1, z1_, vs1, L1, hz1_⟩ := ls_of F1 (faS rc765.2 fa0)
      show Go p e below _ (T789.setTop (mkF m 40 #[.val (.int ch), .val (.int len), .val (.int c765), .val (.int d766), .val (.int n767)] [(.ref a1)]))
      exact g_aret S789 (hb hby dST_40) hret rfl rfl rfl ⟨a1, t1, kt1, z1_, vs1, rfl, E1, L1, by rw [hz1_]; show (0 : Int) ≤ (Int32.ofNat 1).toInt; decide, by rw [hz1_]; show (Int32.ofNat 1).toInt ≤ 2; decide⟩
  · have hc24_768 : n767 = (0 : Int32) := icF_ne q
    show Go p e below _ (T0.setTop (mkF m 27 #[.val (.int ch), .val (.int len), .val (.int c765), .val (.int d766), .val (.int n767)] []))
    show Go p e below _ (T0.setTop (mkF m 27 #[.val (.int ch), .val (.int len), .val (.int c765), .val (.int d766), .val (.int n767)] []))
    refine g_ldcS S0 (w67 hw) (sAtoms hw) (by decide) (vs := []) (z := (0 : Int32)) ⟨by decide +kernel, by decide +kernel⟩ (by decide) rfl (hb hby dST_27) (b := 0) (by decide +kernel) (by decide) (Nat.le_of_ble_eq_true rfl) (Nat.le_of_ble_eq_true rfl) ?_
    intro b790 T790 V790 h790 t790 kt790 S790 E790 C790 f790a f790b f790c f790d f790e
    show Go p e below _ (T790.setTop (mkF m 29 #[.val (.int ch), .val (.int len), .val (.int c765), .val (.int d766), .val (.int n767)] [(.ref b790)]))
    exact g_aret S790 (hb hby dST_29) hret rfl rfl rfl ⟨b790, t790, kt790, (0 : Int32), [], rfl, E790, ⟨f790a, f790c, f790b, f790d⟩, by decide, by decide⟩
theorem dLA0_0 : decode method_3_code 0 = .ok (.iload_n 1, 1) := by decide +kernel
theorem dLA0_1 : decode method_3_code 1 = .ok (.ifCond .eq 79, 3) := by decide +kernel
theorem dLA0_4 : decode method_3_code 4 = .ok (.iconst 3, 1) := by decide +kernel
theorem dLA0_5 : decode method_3_code 5 = .ok (.newarray .char, 2) := by decide +kernel
theorem dLA0_7 : decode method_3_code 7 = .ok (.dup, 1) := by decide +kernel
theorem dLA0_8 : decode method_3_code 8 = .ok (.iconst 0, 1) := by decide +kernel
theorem dLA0_9 : decode method_3_code 9 = .ok (.iload 5, 2) := by decide +kernel
theorem dLA0_11 : decode method_3_code 11 = .ok (.sipush 255, 3) := by decide +kernel
theorem dLA0_14 : decode method_3_code 14 = .ok (.iand, 1) := by decide +kernel
theorem dLA0_15 : decode method_3_code 15 = .ok (.i2c, 1) := by decide +kernel
theorem dLA0_16 : decode method_3_code 16 = .ok (.castore, 1) := by decide +kernel
theorem dLA0_17 : decode method_3_code 17 = .ok (.dup, 1) := by decide +kernel
theorem dLA0_18 : decode method_3_code 18 = .ok (.iconst 1, 1) := by decide +kernel
theorem dLA0_19 : decode method_3_code 19 = .ok (.iload 5, 2) := by decide +kernel
theorem dLA0_21 : decode method_3_code 21 = .ok (.bipush 8, 2) := by decide +kernel
theorem dLA0_23 : decode method_3_code 23 = .ok (.iushr, 1) := by decide +kernel
theorem dLA0_24 : decode method_3_code 24 = .ok (.sipush 255, 3) := by decide +kernel
theorem dLA0_27 : decode method_3_code 27 = .ok (.iand, 1) := by decide +kernel
theorem dLA0_28 : decode method_3_code 28 = .ok (.i2c, 1) := by decide +kernel
theorem dLA0_29 : decode method_3_code 29 = .ok (.castore, 1) := by decide +kernel
theorem dLA0_30 : decode method_3_code 30 = .ok (.dup, 1) := by decide +kernel
theorem dLA0_31 : decode method_3_code 31 = .ok (.iconst 2, 1) := by decide +kernel
theorem dLA0_32 : decode method_3_code 32 = .ok (.iload 5, 2) := by decide +kernel
theorem dLA0_34 : decode method_3_code 34 = .ok (.bipush 16, 2) := by decide +kernel
theorem dLA0_36 : decode method_3_code 36 = .ok (.iushr, 1) := by decide +kernel
theorem dLA0_37 : decode method_3_code 37 = .ok (.sipush 255, 3) := by decide +kernel
theorem dLA0_40 : decode method_3_code 40 = .ok (.iand, 1) := by decide +kernel
theorem dLA0_41 : decode method_3_code 41 = .ok (.i2c, 1) := by decide +kernel
theorem dLA0_42 : decode method_3_code 42 = .ok (.castore, 1) := by decide +kernel
theorem dLA0_43 : decode method_3_code 43 = .ok (.astore 7, 2) := by decide +kernel
theorem dLA0_45 : decode method_3_code 45 = .ok (.iload 6, 2) := by decide +kernel
theorem dLA0_47 : decode method_3_code 47 = .ok (.iconst 1, 1) := by decide +kernel
theorem dLA0_48 : decode method_3_code 48 = .ok (.iand, 1) := by decide +kernel
theorem dLA0_49 : decode method_3_code 49 = .ok (.istore 8, 2) := by decide +kernel
theorem dLA0_51 : decode method_3_code 51 = .ok (.iload 6, 2) := by decide +kernel
theorem dLA0_53 : decode method_3_code 53 = .ok (.iconst 1, 1) := by decide +kernel
theorem dLA0_54 : decode method_3_code 54 = .ok (.iushr, 1) := by decide +kernel
theorem dLA0_55 : decode method_3_code 55 = .ok (.iconst 3, 1) := by decide +kernel
theorem dLA0_56 : decode method_3_code 56 = .ok (.iand, 1) := by decide +kernel
theorem dLA0_57 : decode method_3_code 57 = .ok (.iconst 2, 1) := by decide +kernel
theorem dLA0_58 : decode method_3_code 58 = .ok (.invokestatic 18, 3) := by decide +kernel
theorem dLA0_61 : decode method_3_code 61 = .ok (.istore 9, 2) := by decide +kernel
theorem dLA0_63 : decode method_3_code 63 = .ok (.aload_n 0, 1) := by decide +kernel
theorem dLA0_64 : decode method_3_code 64 = .ok (.iload_n 2, 1) := by decide +kernel
theorem dLA0_65 : decode method_3_code 65 = .ok (.iload_n 3, 1) := by decide +kernel
theorem dLA0_66 : decode method_3_code 66 = .ok (.iload 4, 2) := by decide +kernel
theorem dLA0_68 : decode method_3_code 68 = .ok (.aload 7, 2) := by decide +kernel
theorem dLA0_70 : decode method_3_code 70 = .ok (.iload 8, 2) := by decide +kernel
theorem dLA0_72 : decode method_3_code 72 = .ok (.iload 9, 2) := by decide +kernel
theorem dLA0_74 : decode method_3_code 74 = .ok (.invokevirtual 24, 3) := by decide +kernel
theorem dLA0_77 : decode method_3_code 77 = .ok (.goto 33, 3) := by decide +kernel
theorem dLA0_80 : decode method_3_code 80 = .ok (.aload_n 0, 1) := by decide +kernel
theorem dLA0_81 : decode method_3_code 81 = .ok (.iload_n 2, 1) := by decide +kernel
theorem dLA0_82 : decode method_3_code 82 = .ok (.iload_n 3, 1) := by decide +kernel
theorem dLA0_83 : decode method_3_code 83 = .ok (.iload 4, 2) := by decide +kernel
theorem dLA0_85 : decode method_3_code 85 = .ok (.iload 5, 2) := by decide +kernel
theorem dLA0_87 : decode method_3_code 87 = .ok (.iload 6, 2) := by decide +kernel
theorem dLA0_89 : decode method_3_code 89 = .ok (.iconst 3, 1) := by decide +kernel
theorem dLA0_90 : decode method_3_code 90 = .ok (.iand, 1) := by decide +kernel
theorem dLA0_91 : decode method_3_code 91 = .ok (.invokestatic 30, 3) := by decide +kernel
theorem dLA0_94 : decode method_3_code 94 = .ok (.iload 5, 2) := by decide +kernel
theorem dLA0_96 : decode method_3_code 96 = .ok (.iconst 4, 1) := by decide +kernel
theorem dLA0_97 : decode method_3_code 97 = .ok (.iushr, 1) := by decide +kernel
theorem dLA0_98 : decode method_3_code 98 = .ok (.iload 6, 2) := by decide +kernel
theorem dLA0_100 : decode method_3_code 100 = .ok (.iconst 2, 1) := by decide +kernel
theorem dLA0_101 : decode method_3_code 101 = .ok (.iushr, 1) := by decide +kernel
theorem dLA0_102 : decode method_3_code 102 = .ok (.iconst 3, 1) := by decide +kernel
theorem dLA0_103 : decode method_3_code 103 = .ok (.iand, 1) := by decide +kernel
theorem dLA0_104 : decode method_3_code 104 = .ok (.invokestatic 30, 3) := by decide +kernel
theorem dLA0_107 : decode method_3_code 107 = .ok (.invokevirtual 36, 3) := by decide +kernel
theorem dLA0_110 : decode method_3_code 110 = .ok (.return_, 1) := by decide +kernel
set_option maxRecDepth 65536 in
set_option maxHeartbeats 40000000 in
theorem rmLA0 {l : Launch} {Z : State} {a0 : Array Value} {n0 : Nat} (X : Ctx Z a0) {x sb tb t : Addr} {kb kt : ClassId} {sc : Int32} {bs : List Value} {cc : Int32} (pp qq oo ch ln_ : Int32) {h : Heap} (hO : Old Z n0 h) (A : AS Z h n0 x sb tb t kb kt (0 : Int32) (0 : Int32) [] (16 : Int32) sc bs) (hcc : cc = 1 ∨ cc = 0) (h0 : 0 ≤ sc.toInt) (h2 : sc.toInt + 4 ≤ 16) (hbl : bs.length = 16) :
    Ctr l Z EL1 n0 (⟨"com/example/nodewarden/nodewarden/core/AsidesIsCommentPinLaw", "add", "(Lcom/example/nodewarden/nodewarden/core/Asides;ZIIIII)V"⟩ : MethodName) method_3_code 10 none ({ frames := 6, cells := 7, slots := 96, locals := 112 } : Room) #[(.ref x), (.int cc), (.int pp), (.int qq), (.int oo), (.int ch), (.int ln_)] h [tb] (fun v h' => v = none ∧ ∃ (u : Addr) (ku : ClassId) (dd ee sc' : Int32) (bs' : List Value), AS Z h' n0 x sb tb u kb ku (1 : Int32) (80 : Int32) [(.int pp), (.int qq), (.int oo), (.int dd), (.int ee), (.int (0 : Int32)), (.int (0 : Int32)), (.int (0 : Int32)), (.int (0 : Int32)), (.int (0 : Int32)), (.int (0 : Int32)), (.int (0 : Int32)), (.int (0 : Int32)), (.int (0 : Int32)), (.int (0 : Int32))] (16 : Int32) sc' bs' ∧ ((cc = 1 ∧ dd < 0) ∨ (cc = 0 ∧ ¬ dd < 0)) ∧ 0 ≤ sc'.toInt ∧ sc'.toInt ≤ sc.toInt + 4 ∧ bs'.length = 16) := by
  have hw := X.hw
  obtain ⟨z1, hz1, hz2⟩ := X.2.2.1
  refine Ctr.intro (a0 := a0) (plainFor_of_name pn7) hO X.ew ?_
  intro p e s m below meth c T0 V0 S0 hby hml hret hnm hsf
  rw [ef19]
  rcases hcc with rfl | rfl
  · skip
    show Go p e below _ (T0.setTop (mkF m 0 #[.val (.ref x), .val (.int (1 : Int32)), .val (.int pp), .val (.int qq), .val (.int oo), .val (.int ch), .val (.int ln_), .unset, .unset, .unset] []))
    refine s_iloadN S0 (hb hby dLA0_0) rfl (pc' := 1) rfl ?_
    refine s_ifN S0 (hb hby dLA0_1) (by decide) (pc' := 4) rfl ?_
    refine s_iconst S0 (hb hby dLA0_4) (v := (3 : Int32)) rfl (pc' := 5) rfl ?_
    refine g_newarr (aty := .char) S0 (w43 hw) (hb hby dLA0_5) (by decide) (cap := 3) (by decide) (by decide) (Nat.le_of_ble_eq_true rfl) (Nat.le_of_ble_eq_true rfl) ?_
    intro T791 h791 b791 kc791 S791 E791 fr791 lt791 na791 sf791 A791
    have sf792 := Safe.ext E791 S0.chv (hsf tb List.mem_cons_self)
    have V791 : Arv Z h791 b791 kc791 .char (3 : Int32) [(.int (0 : Int32)), (.int (0 : Int32)), (.int (0 : Int32))] (.int (0 : Int32)) := A791 3
    show Go p e below _ (T791.setTop (mkF m 7 #[.val (.ref x), .val (.int (1 : Int32)), .val (.int pp), .val (.int qq), .val (.int oo), .val (.int ch), .val (.int ln_), .unset, .unset, .unset] [(.ref b791)]))
    refine s_dup S791 (hb hby dLA0_7) rfl (pc' := 8) rfl ?_
    refine s_iconst S791 (hb hby dLA0_8) (v := (0 : Int32)) rfl (pc' := 9) rfl ?_
    refine s_iload S791 (hb hby dLA0_9) rfl (pc' := 11) rfl ?_
    refine s_sipush S791 (hb hby dLA0_11) (v := (255 : Int32)) rfl (pc' := 14) rfl ?_
    refine s_iand S791 (hb hby dLA0_14) (z := (ch &&& (255 : Int32))) rfl (pc' := 15) rfl ?_
    refine s_i2c S791 (hb hby dLA0_15) (z := ((ch &&& (255 : Int32)).toUInt32.toUInt16.toUInt32.toInt32)) rfl (pc' := 16) rfl ?_
    generalize ec793 : ((ch &&& (255 : Int32)).toUInt32.toUInt16.toUInt32.toInt32) = c793
    have rc793 : ¬ c793 < 0 ∧ ¬ (255 : Int32) < c793 := by rw [← ec793, i2c_mask]; exact and255 _
    refine g_castore S791 V791 ⟨by decide, by decide⟩ 0 rfl (Nat.le_of_ble_eq_true rfl) na791 (hb hby dLA0_16) ?_
    intro T794 h794 S794 K794 V794
    have sf795 := Safe.keep K794 (sfS (Safe.arv S791.warm.alike V791 (by decide)) sf0) S791.chv sf792
    rw [narC8 rc793] at V794
    have V794 : Arv Z h794 b791 kc791 .char (3 : Int32) [(.int c793), (.int (0 : Int32)), (.int (0 : Int32))] (.int (0 : Int32)) := V794
    show Go p e below _ (T794.setTop (mkF m 17 #[.val (.ref x), .val (.int (1 : Int32)), .val (.int pp), .val (.int qq), .val (.int oo), .val (.int ch), .val (.int ln_), .unset, .unset, .unset] [(.ref b791)]))
    refine s_dup S794 (hb hby dLA0_17) rfl (pc' := 18) rfl ?_
    refine s_iconst S794 (hb hby dLA0_18) (v := (1 : Int32)) rfl (pc' := 19) rfl ?_
    refine s_iload S794 (hb hby dLA0_19) rfl (pc' := 21) rfl ?_
    refine s_bipush S794 (hb hby dLA0_21) (v := (8 : Int32)) rfl (pc' := 23) rfl ?_
    refine s_iushr S794 (hb hby dLA0_23) (z := ((ch.toUInt32 >>> ((8 : Int32) &&& 31).toUInt32).toInt32)) rfl (pc' := 24) rfl ?_
    refine s_sipush S794 (hb hby dLA0_24) (v := (255 : Int32)) rfl (pc' := 27) rfl ?_
    refine s_iand S794 (hb hby dLA0_27) (z := (((ch.toUInt32 >>> ((8 : Int32) &&& 31).toUInt32).toInt32) &&& (255 : Int32))) rfl (pc' := 28) rfl ?_
    refine s_i2c S794 (hb hby dLA0_28) (z := ((((ch.toUInt32 >>> ((8 : Int32) &&& 31).toUInt32).toInt32) &&& (255 : Int32)).toUInt32.toUInt16.toUInt32.toInt32)) rfl (pc' := 29) rfl ?_
    generalize ec796 : ((((ch.toUInt32 >>> ((8 : Int32) &&& 31).toUInt32).toInt32) &&& (255 : Int32)).toUInt32.toUInt16.toUInt32.toInt32) = c796
    have rc796 : ¬ c796 < 0 ∧ ¬ (255 : Int32) < c796 := by rw [← ec796, i2c_mask]; exact and255 _
    refine g_castore S794 V794 ⟨by decide, by decide⟩ 1 rfl (Nat.le_of_ble_eq_true rfl) na791 (hb hby dLA0_29) ?_
    intro T797 h797 S797 K797 V797
    have sf798 := Safe.keep K797 (sfS (Safe.arv S794.warm.alike V794 (by decide)) sf0) S794.chv sf795
    rw [narC8 rc796] at V797
    have V797 : Arv Z h797 b791 kc791 .char (3 : Int32) [(.int c793), (.int c796), (.int (0 : Int32))] (.int (0 : Int32)) := V797
    show Go p e below _ (T797.setTop (mkF m 30 #[.val (.ref x), .val (.int (1 : Int32)), .val (.int pp), .val (.int qq), .val (.int oo), .val (.int ch), .val (.int ln_), .unset, .unset, .unset] [(.ref b791)]))
    refine s_dup S797 (hb hby dLA0_30) rfl (pc' := 31) rfl ?_
    refine s_iconst S797 (hb hby dLA0_31) (v := (2 : Int32)) rfl (pc' := 32) rfl ?_
    refine s_iload S797 (hb hby dLA0_32) rfl (pc' := 34) rfl ?_
    refine s_bipush S797 (hb hby dLA0_34) (v := (16 : Int32)) rfl (pc' := 36) rfl ?_
    refine s_iushr S797 (hb hby dLA0_36) (z := ((ch.toUInt32 >>> ((16 : Int32) &&& 31).toUInt32).toInt32)) rfl (pc' := 37) rfl ?_
    refine s_sipush S797 (hb hby dLA0_37) (v := (255 : Int32)) rfl (pc' := 40) rfl ?_
    refine s_iand S797 (hb hby dLA0_40) (z := (((ch.toUInt32 >>> ((16 : Int32) &&& 31).toUInt32).toInt32) &&& (255 : Int32))) rfl (pc' := 41) rfl ?_
    refine s_i2c S797 (hb hby dLA0_41) (z := ((((ch.toUInt32 >>> ((16 : Int32) &&& 31).toUInt32).toInt32) &&& (255 : Int32)).toUInt32.toUInt16.toUInt32.toInt32)) rfl (pc' := 42) rfl ?_
    generalize ec799 : ((((ch.toUInt32 >>> ((16 : Int32) &&& 31).toUInt32).toInt32) &&& (255 : Int32)).toUInt32.toUInt16.toUInt32.toInt32) = c799
    have rc799 : ¬ c799 < 0 ∧ ¬ (255 : Int32) < c799 := by rw [← ec799, i2c_mask]; exact and255 _
    refine g_castore S797 V797 ⟨by decide, by decide⟩ 2 rfl (Nat.le_of_ble_eq_true rfl) na791 (hb hby dLA0_42) ?_
    intro T800 h800 S800 K800 V800
    have sf801 := Safe.keep K800 (sfS (Safe.arv S797.warm.alike V797 (by decide)) sf0) S797.chv sf798
    rw [narC8 rc799] at V800
    have V800 : Arv Z h800 b791 kc791 .char (3 : Int32) [(.int c793), (.int c796), (.int c799)] (.int (0 : Int32)) := V800
    show Go p e below _ (T800.setTop (mkF m 43 #[.val (.ref x), .val (.int (1 : Int32)), .val (.int pp), .val (.int qq), .val (.int oo), .val (.int ch), .val (.int ln_), .unset, .unset, .unset] [(.ref b791)]))
    refine s_astore S800 (hb hby dLA0_43) rfl (L' := #[.val (.ref x), .val (.int (1 : Int32)), .val (.int pp), .val (.int qq), .val (.int oo), .val (.int ch), .val (.int ln_), .val (.ref b791), .unset, .unset]) rfl (pc' := 45) rfl ?_
    refine s_iload S800 (hb hby dLA0_45) rfl (pc' := 47) rfl ?_
    refine s_iconst S800 (hb hby dLA0_47) (v := (1 : Int32)) rfl (pc' := 48) rfl ?_
    refine s_iand S800 (hb hby dLA0_48) (z := (ln_ &&& (1 : Int32))) rfl (pc' := 49) rfl ?_
    generalize es802 : (ln_ &&& (1 : Int32)) = s802
    refine s_istore S800 (hb hby dLA0_49) (L' := #[.val (.ref x), .val (.int (1 : Int32)), .val (.int pp), .val (.int qq), .val (.int oo), .val (.int ch), .val (.int ln_), .val (.ref b791), .val (.int s802), .unset]) rfl (pc' := 51) rfl ?_
    refine s_iload S800 (hb hby dLA0_51) rfl (pc' := 53) rfl ?_
    refine s_iconst S800 (hb hby dLA0_53) (v := (1 : Int32)) rfl (pc' := 54) rfl ?_
    refine s_iushr S800 (hb hby dLA0_54) (z := ((ln_.toUInt32 >>> ((1 : Int32) &&& 31).toUInt32).toInt32)) rfl (pc' := 55) rfl ?_
    refine s_iconst S800 (hb hby dLA0_55) (v := (3 : Int32)) rfl (pc' := 56) rfl ?_
    refine s_iand S800 (hb hby dLA0_56) (z := (((ln_.toUInt32 >>> ((1 : Int32) &&& 31).toUInt32).toInt32) &&& (3 : Int32))) rfl (pc' := 57) rfl ?_
    refine s_iconst S800 (hb hby dLA0_57) (v := (2 : Int32)) rfl (pc' := 58) rfl ?_
    show Go p e below _ (T800.setTop (mkF m 58 #[.val (.ref x), .val (.int (1 : Int32)), .val (.int pp), .val (.int qq), .val (.int oo), .val (.int ch), .val (.int ln_), .val (.ref b791), .val (.int s802), .unset] [(.int (2 : Int32)), (.int (((ln_.toUInt32 >>> ((1 : Int32) &&& 31).toUInt32).toInt32) &&& (3 : Int32)))]))
    refine g_static S800 (rmMN X (z := (if (2 : Int32) < (((ln_.toUInt32 >>> ((1 : Int32) &&& 31).toUInt32).toInt32) &&& (3 : Int32)) then (2 : Int32) else (((ln_.toUInt32 >>> ((1 : Int32) &&& 31).toUInt32).toInt32) &&& (3 : Int32)))) rfl S800.old) (fun _ q => nomatch q) (w154 hw) (w146 hw) (w139 hw) (w147 hw) (by decide) (hb hby dLA0_58) (by rw [hml]; rfl) [(.int (((ln_.toUInt32 >>> ((1 : Int32) &&& 31).toUInt32).toInt32) &&& (3 : Int32))), (.int (2 : Int32))] (lenOf pd3 rfl) rfl rfl (Nat.le_of_ble_eq_true rfl) (Nat.le_of_ble_eq_true rfl) (Nat.le_of_ble_eq_true rfl) (Nat.le_of_ble_eq_true rfl) ?_
    intro v803 T803 V803 h803 S803 C803 q803
    obtain ⟨rfl, rfl⟩ := q803
    have sf804 := C803.safe (Nat.lt_of_lt_of_le A.2.2.2.2.2.1.2.2.2.2.lt (Nat.le_trans (Nat.le_trans (Nat.le_trans (Nat.le_trans (Nat.le_refl _) E791.1) K794.1) K797.1) K800.1)) sf801
    show Go p e below _ (T803.setTop (mkF m 61 #[.val (.ref x), .val (.int (1 : Int32)), .val (.int pp), .val (.int qq), .val (.int oo), .val (.int ch), .val (.int ln_), .val (.ref b791), .val (.int s802), .unset] [(.int (if (2 : Int32) < (((ln_.toUInt32 >>> ((1 : Int32) &&& 31).toUInt32).toInt32) &&& (3 : Int32)) then (2 : Int32) else (((ln_.toUInt32 >>> ((1 : Int32) &&& 31).toUInt32).toInt32) &&& (3 : Int32))))]))
    generalize el805 : (if (2 : Int32) < (((ln_.toUInt32 >>> ((1 : Int32) &&& 31).toUInt32).toInt32) &&& (3 : Int32)) then (2 : Int32) else (((ln_.toUInt32 >>> ((1 : Int32) &&& 31).toUInt32).toInt32) &&& (3 : Int32))) = l805
    refine s_istore S803 (hb hby dLA0_61) (L' := #[.val (.ref x), .val (.int (1 : Int32)), .val (.int pp), .val (.int qq), .val (.int oo), .val (.int ch), .val (.int ln_), .val (.ref b791), .val (.int s802), .val (.int l805)]) rfl (pc' := 63) rfl ?_
    refine s_aloadN S803 (hb hby dLA0_63) rfl rfl (pc' := 64) rfl ?_
    refine s_iloadN S803 (hb hby dLA0_64) rfl (pc' := 65) rfl ?_
    refine s_iloadN S803 (hb hby dLA0_65) rfl (pc' := 66) rfl ?_
    refine s_iload S803 (hb hby dLA0_66) rfl (pc' := 68) rfl ?_
    refine s_aload S803 (hb hby dLA0_68) rfl rfl (pc' := 70) rfl ?_
    refine s_iload S803 (hb hby dLA0_70) rfl (pc' := 72) rfl ?_
    refine s_iload S803 (hb hby dLA0_72) rfl (pc' := 74) rfl ?_
    have hs_ := own_and1 _ _ es802
    have hl_ := own_min3 _ _ el805
    have hm_ := own_le2 hl_
    have X806 : Ext h h794 := ext_keep1 E791 K794 fr791
    have X807 : Ext h h797 := ext_keep1 X806 K797 fr791
    have X808 : Ext h h803 := ext_keep1 X807 K800 fr791
    have A809 := A.ext X808
    have A810 := A.1.ext X808
    show Go p e below _ (T803.setTop (mkF m 74 #[.val (.ref x), .val (.int (1 : Int32)), .val (.int pp), .val (.int qq), .val (.int oo), .val (.int ch), .val (.int ln_), .val (.ref b791), .val (.int s802), .val (.int l805)] [(.int l805), (.int s802), (.ref b791), (.int oo), (.int qq), (.int pp), (.ref x)]))
    refine g_virtual S803 (rmAC0 X pp qq oo S803.old A809 V800 rc793 rc796 rc799 hs_ hl_ h0 (by omega) hbl) (sf1 (Nat.lt_of_lt_of_le A.2.2.2.2.2.1.2.2.2.2.lt (Nat.le_trans (Nat.le_trans (Nat.le_trans (Nat.le_trans (Nat.le_refl _) E791.1) K794.1) K797.1) K800.1)) sf804) (w155 hw) (w156 hw) (w158 hw) (w157 hw) (w2 hw) (w159 hw) (by decide) (fun _ h => notFace_of_selects h) (hb hby dLA0_74) (by rw [hml]; rfl) x A810 [(.int pp), (.int qq), (.int oo), (.ref b791), (.int s802), (.int l805)] (lenOf pd22 rfl) rfl rfl (Nat.le_of_ble_eq_true rfl) (Nat.le_of_ble_eq_true rfl) (Nat.le_of_ble_eq_true rfl) (Nat.le_of_ble_eq_true rfl) ?_
    intro v811 T811 V811 h811 S811 C811 q811
    obtain ⟨rfl, u, ku, ee, sc1, bs1, A9, e9, l9⟩ := q811
    show Go p e below _ (T811.setTop (mkF m 77 #[.val (.ref x), .val (.int (1 : Int32)), .val (.int pp), .val (.int qq), .val (.int oo), .val (.int ch), .val (.int ln_), .val (.ref b791), .val (.int s802), .val (.int l805)] []))
    refine s_goto S811 (hb hby dLA0_77) (by decide) (pcT := 110) (by decide) ?_
    exact g_ret S811 (hb hby dLA0_110) hret ⟨rfl, u, ku, (-1 : Int32), ee, sc1, bs1, A9, Or.inl ⟨rfl, by decide⟩, by omega, by omega, l9⟩
  · skip
    show Go p e below _ (T0.setTop (mkF m 0 #[.val (.ref x), .val (.int (0 : Int32)), .val (.int pp), .val (.int qq), .val (.int oo), .val (.int ch), .val (.int ln_), .unset, .unset, .unset] []))
    refine s_iloadN S0 (hb hby dLA0_0) rfl (pc' := 1) rfl ?_
    refine s_ifY S0 (hb hby dLA0_1) (by decide) (by decide) (pcT := 80) (by decide) ?_
    refine s_aloadN S0 (hb hby dLA0_80) rfl rfl (pc' := 81) rfl ?_
    refine s_iloadN S0 (hb hby dLA0_81) rfl (pc' := 82) rfl ?_
    refine s_iloadN S0 (hb hby dLA0_82) rfl (pc' := 83) rfl ?_
    refine s_iload S0 (hb hby dLA0_83) rfl (pc' := 85) rfl ?_
    refine s_iload S0 (hb hby dLA0_85) rfl (pc' := 87) rfl ?_
    refine s_iload S0 (hb hby dLA0_87) rfl (pc' := 89) rfl ?_
    refine s_iconst S0 (hb hby dLA0_89) (v := (3 : Int32)) rfl (pc' := 90) rfl ?_
    refine s_iand S0 (hb hby dLA0_90) (z := (ln_ &&& (3 : Int32))) rfl (pc' := 91) rfl ?_
    show Go p e below _ (T0.setTop (mkF m 91 #[.val (.ref x), .val (.int (0 : Int32)), .val (.int pp), .val (.int qq), .val (.int oo), .val (.int ch), .val (.int ln_), .unset, .unset, .unset] [(.int (ln_ &&& (3 : Int32))), (.int ch), (.int oo), (.int qq), (.int pp), (.ref x)]))
    refine g_static S0 (rmST X ch (ln_ &&& (3 : Int32)) S0.old) (fun _ q => nomatch q) (w38 hw) (w39 hw) (w36 hw) (w40 hw) (by decide) (hb hby dLA0_91) (by rw [hml]; rfl) [(.int ch), (.int (ln_ &&& (3 : Int32)))] (lenOf pd23 rfl) rfl rfl (Nat.le_of_ble_eq_true rfl) (Nat.le_of_ble_eq_true rfl) (Nat.le_of_ble_eq_true rfl) (Nat.le_of_ble_eq_true rfl) ?_
    intro v813 T813 V813 h813 S813 C813 q813
    obtain ⟨a812, t812, kt812, z812, vs812, rfl, E812, L812, zl812, zh812⟩ := q813
    have sf814 := C813.safe A.2.2.2.2.2.1.2.2.2.2.lt (hsf tb List.mem_cons_self)
    show Go p e below _ (T813.setTop (mkF m 94 #[.val (.ref x), .val (.int (0 : Int32)), .val (.int pp), .val (.int qq), .val (.int oo), .val (.int ch), .val (.int ln_), .unset, .unset, .unset] [(.ref a812), (.int oo), (.int qq), (.int pp), (.ref x)]))
    refine s_iload S813 (hb hby dLA0_94) rfl (pc' := 96) rfl ?_
    refine s_iconst S813 (hb hby dLA0_96) (v := (4 : Int32)) rfl (pc' := 97) rfl ?_
    refine s_iushr S813 (hb hby dLA0_97) (z := ((ch.toUInt32 >>> ((4 : Int32) &&& 31).toUInt32).toInt32)) rfl (pc' := 98) rfl ?_
    refine s_iload S813 (hb hby dLA0_98) rfl (pc' := 100) rfl ?_
    refine s_iconst S813 (hb hby dLA0_100) (v := (2 : Int32)) rfl (pc' := 101) rfl ?_
    refine s_iushr S813 (hb hby dLA0_101) (z := ((ln_.toUInt32 >>> ((2 : Int32) &&& 31).toUInt32).toInt32)) rfl (pc' := 102) rfl ?_
    refine s_iconst S813 (hb hby dLA0_102) (v := (3 : Int32)) rfl (pc' := 103) rfl ?_
    refine s_iand S813 (hb hby dLA0_103) (z := (((ln_.toUInt32 >>> ((2 : Int32) &&& 31).toUInt32).toInt32) &&& (3 : Int32))) rfl (pc' := 104) rfl ?_
    have A816 := A.1.ext E812
    show Go p e below _ (T813.setTop (mkF m 104 #[.val (.ref x), .val (.int (0 : Int32)), .val (.int pp), .val (.int qq), .val (.int oo), .val (.int ch), .val (.int ln_), .unset, .unset, .unset] [(.int (((ln_.toUInt32 >>> ((2 : Int32) &&& 31).toUInt32).toInt32) &&& (3 : Int32))), (.int ((ch.toUInt32 >>> ((4 : Int32) &&& 31).toUInt32).toInt32)), (.ref a812), (.int oo), (.int qq), (.int pp), (.ref x)]))
    refine g_static S813 (rmST X ((ch.toUInt32 >>> ((4 : Int32) &&& 31).toUInt32).toInt32) (((ln_.toUInt32 >>> ((2 : Int32) &&& 31).toUInt32).toInt32) &&& (3 : Int32)) S813.old) (fun _ q => nomatch q) (w38 hw) (w39 hw) (w36 hw) (w40 hw) (by decide) (hb hby dLA0_104) (by rw [hml]; rfl) [(.int ((ch.toUInt32 >>> ((4 : Int32) &&& 31).toUInt32).toInt32)), (.int (((ln_.toUInt32 >>> ((2 : Int32) &&& 31).toUInt32).toInt32) &&& (3 : Int32)))] (lenOf pd23 rfl) rfl rfl (Nat.le_of_ble_eq_true rfl) (Nat.le_of_ble_eq_true rfl) (Nat.le_of_ble_eq_true rfl) (Nat.le_of_ble_eq_true rfl) ?_
    intro v817 T817 V817 h817 S817 C817 q817
    obtain ⟨a815, t815, kt815, z815, vs815, rfl, E815, L815, zl815, zh815⟩ := q817
    have sf818 := C817.safe (Nat.lt_of_lt_of_le A.2.2.2.2.2.1.2.2.2.2.lt (Nat.le_trans (Nat.le_refl _) E812.1)) sf814
    show Go p e below _ (T817.setTop (mkF m 107 #[.val (.ref x), .val (.int (0 : Int32)), .val (.int pp), .val (.int qq), .val (.int oo), .val (.int ch), .val (.int ln_), .unset, .unset, .unset] [(.ref a815), (.ref a812), (.int oo), (.int qq), (.int pp), (.ref x)]))
    have X819 : Ext h h817 := ext_trans E812 E815
    have A820 := A.ext X819
    have L821 := L812.ext E815
    have ne2 : t815 ≠ tb := arv_zne (L815).2.2.2 (A820).2.2.2.2.2.1.2.2.2.2 (by rw [show (16 : Int32).toNatClampNeg = 16 from rfl]; have e := own_nat zl815; omega)
    have A822 := A.1.ext X819
    show Go p e below _ (T817.setTop (mkF m 107 #[.val (.ref x), .val (.int (0 : Int32)), .val (.int pp), .val (.int qq), .val (.int oo), .val (.int ch), .val (.int ln_), .unset, .unset, .unset] [(.ref a815), (.ref a812), (.int oo), (.int qq), (.int pp), (.ref x)]))
    refine g_virtual S817 (rmAX0 X pp qq oo S817.old A820 L821 L815 ne2 h0 zl812 zl815 (by omega) hbl) (sf1 (Nat.lt_of_lt_of_le A.2.2.2.2.2.1.2.2.2.2.lt (Nat.le_trans (Nat.le_trans (Nat.le_refl _) E812.1) E815.1)) sf818) (w70 hw) (w71 hw) (w73 hw) (w72 hw) (w2 hw) (w74 hw) (by decide) (fun _ h => notFace_of_selects h) (hb hby dLA0_107) (by rw [hml]; rfl) x A822 [(.int pp), (.int qq), (.int oo), (.ref a812), (.ref a815)] (lenOf pd24 rfl) rfl rfl (Nat.le_of_ble_eq_true rfl) (Nat.le_of_ble_eq_true rfl) (Nat.le_of_ble_eq_true rfl) (Nat.le_of_ble_eq_true rfl) ?_
    intro v823 T823 V823 h823 S823 C823 q823
    obtain ⟨rfl, u, ku, dd, ee, sc1, bs1, A9, d9, e9, l9⟩ := q823
    show Go p e below _ (T823.setTop (mkF m 110 #[.val (.ref x), .val (.int (0 : Int32)), .val (.int pp), .val (.int qq), .val (.int oo), .val (.int ch), .val (.int ln_), .unset, .unset, .unset] []))
    exact g_ret S823 (hb hby dLA0_110) hret ⟨rfl, u, ku, dd, ee, sc1, bs1, A9, Or.inr ⟨rfl, own_nn d9⟩, by omega, by omega, l9⟩
theorem dLA1_0 : decode method_3_code 0 = .ok (.iload_n 1, 1) := by decide +kernel
theorem dLA1_1 : decode method_3_code 1 = .ok (.ifCond .eq 79, 3) := by decide +kernel
theorem dLA1_4 : decode method_3_code 4 = .ok (.iconst 3, 1) := by decide +kernel
theorem dLA1_5 : decode method_3_code 5 = .ok (.newarray .char, 2) := by decide +kernel
theorem dLA1_7 : decode method_3_code 7 = .ok (.dup, 1) := by decide +kernel
theorem dLA1_8 : decode method_3_code 8 = .ok (.iconst 0, 1) := by decide +kernel
theorem dLA1_9 : decode method_3_code 9 = .ok (.iload 5, 2) := by decide +kernel
theorem dLA1_11 : decode method_3_code 11 = .ok (.sipush 255, 3) := by decide +kernel
theorem dLA1_14 : decode method_3_code 14 = .ok (.iand, 1) := by decide +kernel
theorem dLA1_15 : decode method_3_code 15 = .ok (.i2c, 1) := by decide +kernel
theorem dLA1_16 : decode method_3_code 16 = .ok (.castore, 1) := by decide +kernel
theorem dLA1_17 : decode method_3_code 17 = .ok (.dup, 1) := by decide +kernel
theorem dLA1_18 : decode method_3_code 18 = .ok (.iconst 1, 1) := by decide +kernel
theorem dLA1_19 : decode method_3_code 19 = .ok (.iload 5, 2) := by decide +kernel
theorem dLA1_21 : decode method_3_code 21 = .ok (.bipush 8, 2) := by decide +kernel
theorem dLA1_23 : decode method_3_code 23 = .ok (.iushr, 1) := by decide +kernel
theorem dLA1_24 : decode method_3_code 24 = .ok (.sipush 255, 3) := by decide +kernel
theorem dLA1_27 : decode method_3_code 27 = .ok (.iand, 1) := by decide +kernel
theorem dLA1_28 : decode method_3_code 28 = .ok (.i2c, 1) := by decide +kernel
theorem dLA1_29 : decode method_3_code 29 = .ok (.castore, 1) := by decide +kernel
theorem dLA1_30 : decode method_3_code 30 = .ok (.dup, 1) := by decide +kernel
theorem dLA1_31 : decode method_3_code 31 = .ok (.iconst 2, 1) := by decide +kernel
theorem dLA1_32 : decode method_3_code 32 = .ok (.iload 5, 2) := by decide +kernel
theorem dLA1_34 : decode method_3_code 34 = .ok (.bipush 16, 2) := by decide +kernel
theorem dLA1_36 : decode method_3_code 36 = .ok (.iushr, 1) := by decide +kernel
theorem dLA1_37 : decode method_3_code 37 = .ok (.sipush 255, 3) := by decide +kernel
theorem dLA1_40 : decode method_3_code 40 = .ok (.iand, 1) := by decide +kernel
theorem dLA1_41 : decode method_3_code 41 = .ok (.i2c, 1) := by decide +kernel
theorem dLA1_42 : decode method_3_code 42 = .ok (.castore, 1) := by decide +kernel
theorem dLA1_43 : decode method_3_code 43 = .ok (.astore 7, 2) := by decide +kernel
theorem dLA1_45 : decode method_3_code 45 = .ok (.iload 6, 2) := by decide +kernel
theorem dLA1_47 : decode method_3_code 47 = .ok (.iconst 1, 1) := by decide +kernel
theorem dLA1_48 : decode method_3_code 48 = .ok (.iand, 1) := by decide +kernel
theorem dLA1_49 : decode method_3_code 49 = .ok (.istore 8, 2) := by decide +kernel
theorem dLA1_51 : decode method_3_code 51 = .ok (.iload 6, 2) := by decide +kernel
theorem dLA1_53 : decode method_3_code 53 = .ok (.iconst 1, 1) := by decide +kernel
theorem dLA1_54 : decode method_3_code 54 = .ok (.iushr, 1) := by decide +kernel
theorem dLA1_55 : decode method_3_code 55 = .ok (.iconst 3, 1) := by decide +kernel
theorem dLA1_56 : decode method_3_code 56 = .ok (.iand, 1) := by decide +kernel
theorem dLA1_57 : decode method_3_code 57 = .ok (.iconst 2, 1) := by decide +kernel
theorem dLA1_58 : decode method_3_code 58 = .ok (.invokestatic 18, 3) := by decide +kernel
theorem dLA1_61 : decode method_3_code 61 = .ok (.istore 9, 2) := by decide +kernel
theorem dLA1_63 : decode method_3_code 63 = .ok (.aload_n 0, 1) := by decide +kernel
theorem dLA1_64 : decode method_3_code 64 = .ok (.iload_n 2, 1) := by decide +kernel
theorem dLA1_65 : decode method_3_code 65 = .ok (.iload_n 3, 1) := by decide +kernel
theorem dLA1_66 : decode method_3_code 66 = .ok (.iload 4, 2) := by decide +kernel
theorem dLA1_68 : decode method_3_code 68 = .ok (.aload 7, 2) := by decide +kernel
theorem dLA1_70 : decode method_3_code 70 = .ok (.iload 8, 2) := by decide +kernel
theorem dLA1_72 : decode method_3_code 72 = .ok (.iload 9, 2) := by decide +kernel
theorem dLA1_74 : decode method_3_code 74 = .ok (.invokevirtual 24, 3) := by decide +kernel
theorem dLA1_77 : decode method_3_code 77 = .ok (.goto 33, 3) := by decide +kernel
theorem dLA1_80 : decode method_3_code 80 = .ok (.aload_n 0, 1) := by decide +kernel
theorem dLA1_81 : decode method_3_code 81 = .ok (.iload_n 2, 1) := by decide +kernel
theorem dLA1_82 : decode method_3_code 82 = .ok (.iload_n 3, 1) := by decide +kernel
theorem dLA1_83 : decode method_3_code 83 = .ok (.iload 4, 2) := by decide +kernel
theorem dLA1_85 : decode method_3_code 85 = .ok (.iload 5, 2) := by decide +kernel
theorem dLA1_87 : decode method_3_code 87 = .ok (.iload 6, 2) := by decide +kernel
theorem dLA1_89 : decode method_3_code 89 = .ok (.iconst 3, 1) := by decide +kernel
theorem dLA1_90 : decode method_3_code 90 = .ok (.iand, 1) := by decide +kernel
theorem dLA1_91 : decode method_3_code 91 = .ok (.invokestatic 30, 3) := by decide +kernel
theorem dLA1_94 : decode method_3_code 94 = .ok (.iload 5, 2) := by decide +kernel
theorem dLA1_96 : decode method_3_code 96 = .ok (.iconst 4, 1) := by decide +kernel
theorem dLA1_97 : decode method_3_code 97 = .ok (.iushr, 1) := by decide +kernel
theorem dLA1_98 : decode method_3_code 98 = .ok (.iload 6, 2) := by decide +kernel
theorem dLA1_100 : decode method_3_code 100 = .ok (.iconst 2, 1) := by decide +kernel
theorem dLA1_101 : decode method_3_code 101 = .ok (.iushr, 1) := by decide +kernel
theorem dLA1_102 : decode method_3_code 102 = .ok (.iconst 3, 1) := by decide +kernel
theorem dLA1_103 : decode method_3_code 103 = .ok (.iand, 1) := by decide +kernel
theorem dLA1_104 : decode method_3_code 104 = .ok (.invokestatic 30, 3) := by decide +kernel
theorem dLA1_107 : decode method_3_code 107 = .ok (.invokevirtual 36, 3) := by decide +kernel
theorem dLA1_110 : decode method_3_code 110 = .ok (.return_, 1) := by decide +kernel
set_option maxRecDepth 65536 in
set_option maxHeartbeats 40000000 in
theorem rmLA1 {l : Launch} {Z : State} {a0 : Array Value} {n0 : Nat} (X : Ctx Z a0) {x sb tb t : Addr} {kb kt : ClassId} {sc : Int32} {bs : List Value} {r0 r1 r2 r3 r4 : Int32} {cc : Int32} (pp qq oo ch ln_ : Int32) {h : Heap} (hO : Old Z n0 h) (A : AS Z h n0 x sb tb t kb kt (1 : Int32) (80 : Int32) [(.int r0), (.int r1), (.int r2), (.int r3), (.int r4), (.int (0 : Int32)), (.int (0 : Int32)), (.int (0 : Int32)), (.int (0 : Int32)), (.int (0 : Int32)), (.int (0 : Int32)), (.int (0 : Int32)), (.int (0 : Int32)), (.int (0 : Int32)), (.int (0 : Int32))] (16 : Int32) sc bs) (hcc : cc = 1 ∨ cc = 0) (h0 : 0 ≤ sc.toInt) (h2 : sc.toInt + 4 ≤ 16) (hbl : bs.length = 16) :
    Ctr l Z EL1 n0 (⟨"com/example/nodewarden/nodewarden/core/AsidesIsCommentPinLaw", "add", "(Lcom/example/nodewarden/nodewarden/core/Asides;ZIIIII)V"⟩ : MethodName) method_3_code 10 none ({ frames := 6, cells := 6, slots := 16, locals := 112 } : Room) #[(.ref x), (.int cc), (.int pp), (.int qq), (.int oo), (.int ch), (.int ln_)] h [tb] (fun v h' => v = none ∧ ∃ (u : Addr) (ku : ClassId) (dd ee sc' : Int32) (bs' : List Value), AS Z h' n0 x sb tb u kb ku (2 : Int32) (80 : Int32) [(.int r0), (.int r1), (.int r2), (.int r3), (.int r4), (.int pp), (.int qq), (.int oo), (.int dd), (.int ee), (.int (0 : Int32)), (.int (0 : Int32)), (.int (0 : Int32)), (.int (0 : Int32)), (.int (0 : Int32))] (16 : Int32) sc' bs' ∧ ((cc = 1 ∧ dd < 0) ∨ (cc = 0 ∧ ¬ dd < 0)) ∧ 0 ≤ sc'.toInt ∧ sc'.toInt ≤ sc.toInt + 4 ∧ bs'.length = 16) := by
  have hw := X.hw
  obtain ⟨z1, hz1, hz2⟩ := X.2.2.1
  refine Ctr.intro (a0 := a0) (plainFor_of_name pn7) hO X.ew ?_
  intro p e s m below meth c T0 V0 S0 hby hml hret hnm hsf
  rw [ef19]
  rcases hcc with rfl | rfl
  · skip
    show Go p e below _ (T0.setTop (mkF m 0 #[.val (.ref x), .val (.int (1 : Int32)), .val (.int pp), .val (.int qq), .val (.int oo), .val (.int ch), .val (.int ln_), .unset, .unset, .unset] []))
    refine s_iloadN S0 (hb hby dLA1_0) rfl (pc' := 1) rfl ?_
    refine s_ifN S0 (hb hby dLA1_1) (by decide) (pc' := 4) rfl ?_
    refine s_iconst S0 (hb hby dLA1_4) (v := (3 : Int32)) rfl (pc' := 5) rfl ?_
    refine g_newarr (aty := .char) S0 (w43 hw) (hb hby dLA1_5) (by decide) (cap := 3) (by decide) (by decide) (Nat.le_of_ble_eq_true rfl) (Nat.le_of_ble_eq_true rfl) ?_
    intro T824 h824 b824 kc824 S824 E824 fr824 lt824 na824 sf824 A824
    have sf825 := Safe.ext E824 S0.chv (hsf tb List.mem_cons_self)
    have V824 : Arv Z h824 b824 kc824 .char (3 : Int32) [(.int (0 : Int32)), (.int (0 : Int32)), (.int (0 : Int32))] (.int (0 : Int32)) := A824 3
    show Go p e below _ (T824.setTop (mkF m 7 #[.val (.ref x), .val (.int (1 : Int32)), .val (.int pp), .val (.int qq), .val (.int oo), .val (.int ch), .val (.int ln_), .unset, .unset, .unset] [(.ref b824)]))
    refine s_dup S824 (hb hby dLA1_7) rfl (pc' := 8) rfl ?_
    refine s_iconst S824 (hb hby dLA1_8) (v := (0 : Int32)) rfl (pc' := 9) rfl ?_
    refine s_iload S824 (hb hby dLA1_9) rfl (pc' := 11) rfl ?_
    refine s_sipush S824 (hb hby dLA1_11) (v := (255 : Int32)) rfl (pc' := 14) rfl ?_
    refine s_iand S824 (hb hby dLA1_14) (z := (ch &&& (255 : Int32))) rfl (pc' := 15) rfl ?_
    refine s_i2c S824 (hb hby dLA1_15) (z := ((ch &&& (255 : Int32)).toUInt32.toUInt16.toUInt32.toInt32)) rfl (pc' := 16) rfl ?_
    generalize ec826 : ((ch &&& (255 : Int32)).toUInt32.toUInt16.toUInt32.toInt32) = c826
    have rc826 : ¬ c826 < 0 ∧ ¬ (255 : Int32) < c826 := by rw [← ec826, i2c_mask]; exact and255 _
    refine g_castore S824 V824 ⟨by decide, by decide⟩ 0 rfl (Nat.le_of_ble_eq_true rfl) na824 (hb hby dLA1_16) ?_
    intro T827 h827 S827 K827 V827
    have sf828 := Safe.keep K827 (sfS (Safe.arv S824.warm.alike V824 (by decide)) sf0) S824.chv sf825
    rw [narC8 rc826] at V827
    have V827 : Arv Z h827 b824 kc824 .char (3 : Int32) [(.int c826), (.int (0 : Int32)), (.int (0 : Int32))] (.int (0 : Int32)) := V827
    show Go p e below _ (T827.setTop (mkF m 17 #[.val (.ref x), .val (.int (1 : Int32)), .val (.int pp), .val (.int qq), .val (.int oo), .val (.int ch), .val (.int ln_), .unset, .unset, .unset] [(.ref b824)]))
    refine s_dup S827 (hb hby dLA1_17) rfl (pc' := 18) rfl ?_
    refine s_iconst S827 (hb hby dLA1_18) (v := (1 : Int32)) rfl (pc' := 19) rfl ?_
    refine s_iload S827 (hb hby dLA1_19) rfl (pc' := 21) rfl ?_
    refine s_bipush S827 (hb hby dLA1_21) (v := (8 : Int32)) rfl (pc' := 23) rfl ?_
    refine s_iushr S827 (hb hby dLA1_23) (z := ((ch.toUInt32 >>> ((8 : Int32) &&& 31).toUInt32).toInt32)) rfl (pc' := 24) rfl ?_
    refine s_sipush S827 (hb hby dLA1_24) (v := (255 : Int32)) rfl (pc' := 27) rfl ?_
    refine s_iand S827 (hb hby dLA1_27) (z := (((ch.toUInt32 >>> ((8 : Int32) &&& 31).toUInt32).toInt32) &&& (255 : Int32))) rfl (pc' := 28) rfl ?_
    refine s_i2c S827 (hb hby dLA1_28) (z := ((((ch.toUInt32 >>> ((8 : Int32) &&& 31).toUInt32).toInt32) &&& (255 : Int32)).toUInt32.toUInt16.toUInt32.toInt32)) rfl (pc' := 29) rfl ?_
    generalize ec829 : ((((ch.toUInt32 >>> ((8 : Int32) &&& 31).toUInt32).toInt32) &&& (255 : Int32)).toUInt32.toUInt16.toUInt32.toInt32) = c829
    have rc829 : ¬ c829 < 0 ∧ ¬ (255 : Int32) < c829 := by rw [← ec829, i2c_mask]; exact and255 _
    refine g_castore S827 V827 ⟨by decide, by decide⟩ 1 rfl (Nat.le_of_ble_eq_true rfl) na824 (hb hby dLA1_29) ?_
    intro T830 h830 S830 K830 V830
    have sf831 := Safe.keep K830 (sfS (Safe.arv S827.warm.alike V827 (by decide)) sf0) S827.chv sf828
    rw [narC8 rc829] at V830
    have V830 : Arv Z h830 b824 kc824 .char (3 : Int32) [(.int c826), (.int c829), (.int (0 : Int32))] (.int (0 : Int32)) := V830
    show Go p e below _ (T830.setTop (mkF m 30 #[.val (.ref x), .val (.int (1 : Int32)), .val (.int pp), .val (.int qq), .val (.int oo), .val (.int ch), .val (.int ln_), .unset, .unset, .unset] [(.ref b824)]))
    refine s_dup S830 (hb hby dLA1_30) rfl (pc' := 31) rfl ?_
    refine s_iconst S830 (hb hby dLA1_31) (v := (2 : Int32)) rfl (pc' := 32) rfl ?_
    refine s_iload S830 (hb hby dLA1_32) rfl (pc' := 34) rfl ?_
    refine s_bipush S830 (hb hby dLA1_34) (v := (16 : Int32)) rfl (pc' := 36) rfl ?_
    refine s_iushr S830 (hb hby dLA1_36) (z := ((ch.toUInt32 >>> ((16 : Int32) &&& 31).toUInt32).toInt32)) rfl (pc' := 37) rfl ?_
    refine s_sipush S830 (hb hby dLA1_37) (v := (255 : Int32)) rfl (pc' := 40) rfl ?_
    refine s_iand S830 (hb hby dLA1_40) (z := (((ch.toUInt32 >>> ((16 : Int32) &&& 31).toUInt32).toInt32) &&& (255 : Int32))) rfl (pc' := 41) rfl ?_
    refine s_i2c S830 (hb hby dLA1_41) (z := ((((ch.toUInt32 >>> ((16 : Int32) &&& 31).toUInt32).toInt32) &&& (255 : Int32)).toUInt32.toUInt16.toUInt32.toInt32)) rfl (pc' := 42) rfl ?_
    generalize ec832 : ((((ch.toUInt32 >>> ((16 : Int32) &&& 31).toUInt32).toInt32) &&& (255 : Int32)).toUInt32.toUInt16.toUInt32.toInt32) = c832
    have rc832 : ¬ c832 < 0 ∧ ¬ (255 : Int32) < c832 := by rw [← ec832, i2c_mask]; exact and255 _
    refine g_castore S830 V830 ⟨by decide, by decide⟩ 2 rfl (Nat.le_of_ble_eq_true rfl) na824 (hb hby dLA1_42) ?_
    intro T833 h833 S833 K833 V833
    have sf834 := Safe.keep K833 (sfS (Safe.arv S830.warm.alike V830 (by decide)) sf0) S830.chv sf831
    rw [narC8 rc832] at V833
    have V833 : Arv Z h833 b824 kc824 .char (3 : Int32) [(.int c826), (.int c829), (.int c832)] (.int (0 : Int32)) := V833
    show Go p e below _ (T833.setTop (mkF m 43 #[.val (.ref x), .val (.int (1 : Int32)), .val (.int pp), .val (.int qq), .val (.int oo), .val (.int ch), .val (.int ln_), .unset, .unset, .unset] [(.ref b824)]))
    refine s_astore S833 (hb hby dLA1_43) rfl (L' := #[.val (.ref x), .val (.int (1 : Int32)), .val (.int pp), .val (.int qq), .val (.int oo), .val (.int ch), .val (.int ln_), .val (.ref b824), .unset, .unset]) rfl (pc' := 45) rfl ?_
    refine s_iload S833 (hb hby dLA1_45) rfl (pc' := 47) rfl ?_
    refine s_iconst S833 (hb hby dLA1_47) (v := (1 : Int32)) rfl (pc' := 48) rfl ?_
    refine s_iand S833 (hb hby dLA1_48) (z := (ln_ &&& (1 : Int32))) rfl (pc' := 49) rfl ?_
    generalize es835 : (ln_ &&& (1 : Int32)) = s835
    refine s_istore S833 (hb hby dLA1_49) (L' := #[.val (.ref x), .val (.int (1 : Int32)), .val (.int pp), .val (.int qq), .val (.int oo), .val (.int ch), .val (.int ln_), .val (.ref b824), .val (.int s835), .unset]) rfl (pc' := 51) rfl ?_
    refine s_iload S833 (hb hby dLA1_51) rfl (pc' := 53) rfl ?_
    refine s_iconst S833 (hb hby dLA1_53) (v := (1 : Int32)) rfl (pc' := 54) rfl ?_
    refine s_iushr S833 (hb hby dLA1_54) (z := ((ln_.toUInt32 >>> ((1 : Int32) &&& 31).toUInt32).toInt32)) rfl (pc' := 55) rfl ?_
    refine s_iconst S833 (hb hby dLA1_55) (v := (3 : Int32)) rfl (pc' := 56) rfl ?_
    refine s_iand S833 (hb hby dLA1_56) (z := (((ln_.toUInt32 >>> ((1 : Int32) &&& 31).toUInt32).toInt32) &&& (3 : Int32))) rfl (pc' := 57) rfl ?_
    refine s_iconst S833 (hb hby dLA1_57) (v := (2 : Int32)) rfl (pc' := 58) rfl ?_
    show Go p e below _ (T833.setTop (mkF m 58 #[.val (.ref x), .val (.int (1 : Int32)), .val (.int pp), .val (.int qq), .val (.int oo), .val (.int ch), .val (.int ln_), .val (.ref b824), .val (.int s835), .unset] [(.int (2 : Int32)), (.int (((ln_.toUInt32 >>> ((1 : Int32) &&& 31).toUInt32).toInt32) &&& (3 : Int32)))]))
    refine g_static S833 (rmMN X (z := (if (2 : Int32) < (((ln_.toUInt32 >>> ((1 : Int32) &&& 31).toUInt32).toInt32) &&& (3 : Int32)) then (2 : Int32) else (((ln_.toUInt32 >>> ((1 : Int32) &&& 31).toUInt32).toInt32) &&& (3 : Int32)))) rfl S833.old) (fun _ q => nomatch q) (w154 hw) (w146 hw) (w139 hw) (w147 hw) (by decide) (hb hby dLA1_58) (by rw [hml]; rfl) [(.int (((ln_.toUInt32 >>> ((1 : Int32) &&& 31).toUInt32).toInt32) &&& (3 : Int32))), (.int (2 : Int32))] (lenOf pd3 rfl) rfl rfl (Nat.le_of_ble_eq_true rfl) (Nat.le_of_ble_eq_true rfl) (Nat.le_of_ble_eq_true rfl) (Nat.le_of_ble_eq_true rfl) ?_
    intro v836 T836 V836 h836 S836 C836 q836
    obtain ⟨rfl, rfl⟩ := q836
    have sf837 := C836.safe (Nat.lt_of_lt_of_le A.2.2.2.2.2.1.2.2.2.2.lt (Nat.le_trans (Nat.le_trans (Nat.le_trans (Nat.le_trans (Nat.le_refl _) E824.1) K827.1) K830.1) K833.1)) sf834
    show Go p e below _ (T836.setTop (mkF m 61 #[.val (.ref x), .val (.int (1 : Int32)), .val (.int pp), .val (.int qq), .val (.int oo), .val (.int ch), .val (.int ln_), .val (.ref b824), .val (.int s835), .unset] [(.int (if (2 : Int32) < (((ln_.toUInt32 >>> ((1 : Int32) &&& 31).toUInt32).toInt32) &&& (3 : Int32)) then (2 : Int32) else (((ln_.toUInt32 >>> ((1 : Int32) &&& 31).toUInt32).toInt32) &&& (3 : Int32))))]))
    generalize el838 : (if (2 : Int32) < (((ln_.toUInt32 >>> ((1 : Int32) &&& 31).toUInt32).toInt32) &&& (3 : Int32)) then (2 : Int32) else (((ln_.toUInt32 >>> ((1 : Int32) &&& 31).toUInt32).toInt32) &&& (3 : Int32))) = l838
    refine s_istore S836 (hb hby dLA1_61) (L' := #[.val (.ref x), .val (.int (1 : Int32)), .val (.int pp), .val (.int qq), .val (.int oo), .val (.int ch), .val (.int ln_), .val (.ref b824), .val (.int s835), .val (.int l838)]) rfl (pc' := 63) rfl ?_
    refine s_aloadN S836 (hb hby dLA1_63) rfl rfl (pc' := 64) rfl ?_
    refine s_iloadN S836 (hb hby dLA1_64) rfl (pc' := 65) rfl ?_
    refine s_iloadN S836 (hb hby dLA1_65) rfl (pc' := 66) rfl ?_
    refine s_iload S836 (hb hby dLA1_66) rfl (pc' := 68) rfl ?_
    refine s_aload S836 (hb hby dLA1_68) rfl rfl (pc' := 70) rfl ?_
    refine s_iload S836 (hb hby dLA1_70) rfl (pc' := 72) rfl ?_
    refine s_iload S836 (hb hby dLA1_72) rfl (pc' := 74) rfl ?_
    have hs_ := own_and1 _ _ es835
    have hl_ := own_min3 _ _ el838
    have hm_ := own_le2 hl_
    have X839 : Ext h h827 := ext_keep1 E824 K827 fr824
    have X840 : Ext h h830 := ext_keep1 X839 K830 fr824
    have X841 : Ext h h836 := ext_keep1 X840 K833 fr824
    have A842 := A.ext X841
    have A843 := A.1.ext X841
    show Go p e below _ (T836.setTop (mkF m 74 #[.val (.ref x), .val (.int (1 : Int32)), .val (.int pp), .val (.int qq), .val (.int oo), .val (.int ch), .val (.int ln_), .val (.ref b824), .val (.int s835), .val (.int l838)] [(.int l838), (.int s835), (.ref b824), (.int oo), (.int qq), (.int pp), (.ref x)]))
    refine g_virtual S836 (rmAC1 X pp qq oo S836.old A842 V833 rc826 rc829 rc832 hs_ hl_ h0 (by omega) hbl) (sf1 (Nat.lt_of_lt_of_le A.2.2.2.2.2.1.2.2.2.2.lt (Nat.le_trans (Nat.le_trans (Nat.le_trans (Nat.le_trans (Nat.le_refl _) E824.1) K827.1) K830.1) K833.1)) sf837) (w155 hw) (w156 hw) (w158 hw) (w157 hw) (w2 hw) (w159 hw) (by decide) (fun _ h => notFace_of_selects h) (hb hby dLA1_74) (by rw [hml]; rfl) x A843 [(.int pp), (.int qq), (.int oo), (.ref b824), (.int s835), (.int l838)] (lenOf pd22 rfl) rfl rfl (Nat.le_of_ble_eq_true rfl) (Nat.le_of_ble_eq_true rfl) (Nat.le_of_ble_eq_true rfl) (Nat.le_of_ble_eq_true rfl) ?_
    intro v844 T844 V844 h844 S844 C844 q844
    obtain ⟨rfl, u, ku, ee, sc1, bs1, A9, e9, l9⟩ := q844
    show Go p e below _ (T844.setTop (mkF m 77 #[.val (.ref x), .val (.int (1 : Int32)), .val (.int pp), .val (.int qq), .val (.int oo), .val (.int ch), .val (.int ln_), .val (.ref b824), .val (.int s835), .val (.int l838)] []))
    refine s_goto S844 (hb hby dLA1_77) (by decide) (pcT := 110) (by decide) ?_
    exact g_ret S844 (hb hby dLA1_110) hret ⟨rfl, u, ku, (-1 : Int32), ee, sc1, bs1, A9, Or.inl ⟨rfl, by decide⟩, by omega, by omega, l9⟩
  · skip
    show Go p e below _ (T0.setTop (mkF m 0 #[.val (.ref x), .val (.int (0 : Int32)), .val (.int pp), .val (.int qq), .val (.int oo), .val (.int ch), .val (.int ln_), .unset, .unset, .unset] []))
    refine s_iloadN S0 (hb hby dLA1_0) rfl (pc' := 1) rfl ?_
    refine s_ifY S0 (hb hby dLA1_1) (by decide) (by decide) (pcT := 80) (by decide) ?_
    refine s_aloadN S0 (hb hby dLA1_80) rfl rfl (pc' := 81) rfl ?_
    refine s_iloadN S0 (hb hby dLA1_81) rfl (pc' := 82) rfl ?_
    refine s_iloadN S0 (hb hby dLA1_82) rfl (pc' := 83) rfl ?_
    refine s_iload S0 (hb hby dLA1_83) rfl (pc' := 85) rfl ?_
    refine s_iload S0 (hb hby dLA1_85) rfl (pc' := 87) rfl ?_
    refine s_iload S0 (hb hby dLA1_87) rfl (pc' := 89) rfl ?_
    refine s_iconst S0 (hb hby dLA1_89) (v := (3 : Int32)) rfl (pc' := 90) rfl ?_
    refine s_iand S0 (hb hby dLA1_90) (z := (ln_ &&& (3 : Int32))) rfl (pc' := 91) rfl ?_
    show Go p e below _ (T0.setTop (mkF m 91 #[.val (.ref x), .val (.int (0 : Int32)), .val (.int pp), .val (.int qq), .val (.int oo), .val (.int ch), .val (.int ln_), .unset, .unset, .unset] [(.int (ln_ &&& (3 : Int32))), (.int ch), (.int oo), (.int qq), (.int pp), (.ref x)]))
    refine g_static S0 (rmST X ch (ln_ &&& (3 : Int32)) S0.old) (fun _ q => nomatch q) (w38 hw) (w39 hw) (w36 hw) (w40 hw) (by decide) (hb hby dLA1_91) (by rw [hml]; rfl) [(.int ch), (.int (ln_ &&& (3 : Int32)))] (lenOf pd23 rfl) rfl rfl (Nat.le_of_ble_eq_true rfl) (Nat.le_of_ble_eq_true rfl) (Nat.le_of_ble_eq_true rfl) (Nat.le_of_ble_eq_true rfl) ?_
    intro v846 T846 V846 h846 S846 C846 q846
    obtain ⟨a845, t845, kt845, z845, vs845, rfl, E845, L845, zl845, zh845⟩ := q846
    have sf847 := C846.safe A.2.2.2.2.2.1.2.2.2.2.lt (hsf tb List.mem_cons_self)
    show Go p e below _ (T846.setTop (mkF m 94 #[.val (.ref x), .val (.int (0 : Int32)), .val (.int pp), .val (.int qq), .val (.int oo), .val (.int ch), .val (.int ln_), .unset, .unset, .unset] [(.ref a845), (.int oo), (.int qq), (.int pp), (.ref x)]))
    refine s_iload S846 (hb hby dLA1_94) rfl (pc' := 96) rfl ?_
    refine s_iconst S846 (hb hby dLA1_96) (v := (4 : Int32)) rfl (pc' := 97) rfl ?_
    refine s_iushr S846 (hb hby dLA1_97) (z := ((ch.toUInt32 >>> ((4 : Int32) &&& 31).toUInt32).toInt32)) rfl (pc' := 98) rfl ?_
    refine s_iload S846 (hb hby dLA1_98) rfl (pc' := 100) rfl ?_
    refine s_iconst S846 (hb hby dLA1_100) (v := (2 : Int32)) rfl (pc' := 101) rfl ?_
    refine s_iushr S846 (hb hby dLA1_101) (z := ((ln_.toUInt32 >>> ((2 : Int32) &&& 31).toUInt32).toInt32)) rfl (pc' := 102) rfl ?_
    refine s_iconst S846 (hb hby dLA1_102) (v := (3 : Int32)) rfl (pc' := 103) rfl ?_
    refine s_iand S846 (hb hby dLA1_103) (z := (((ln_.toUInt32 >>> ((2 : Int32) &&& 31).toUInt32).toInt32) &&& (3 : Int32))) rfl (pc' := 104) rfl ?_
    have A849 := A.1.ext E845
    show Go p e below _ (T846.setTop (mkF m 104 #[.val (.ref x), .val (.int (0 : Int32)), .val (.int pp), .val (.int qq), .val (.int oo), .val (.int ch), .val (.int ln_), .unset, .unset, .unset] [(.int (((ln_.toUInt32 >>> ((2 : Int32) &&& 31).toUInt32).toInt32) &&& (3 : Int32))), (.int ((ch.toUInt32 >>> ((4 : Int32) &&& 31).toUInt32).toInt32)), (.ref a845), (.int oo), (.int qq), (.int pp), (.ref x)]))
    refine g_static S846 (rmST X ((ch.toUInt32 >>> ((4 : Int32) &&& 31).toUInt32).toInt32) (((ln_.toUInt32 >>> ((2 : Int32) &&& 31).toUInt32).toInt32) &&& (3 : Int32)) S846.old) (fun _ q => nomatch q) (w38 hw) (w39 hw) (w36 hw) (w40 hw) (by decide) (hb hby dLA1_104) (by rw [hml]; rfl) [(.int ((ch.toUInt32 >>> ((4 : Int32) &&& 31).toUInt32).toInt32)), (.int (((ln_.toUInt32 >>> ((2 : Int32) &&& 31).toUInt32).toInt32) &&& (3 : Int32)))] (lenOf pd23 rfl) rfl rfl (Nat.le_of_ble_eq_true rfl) (Nat.le_of_ble_eq_true rfl) (Nat.le_of_ble_eq_true rfl) (Nat.le_of_ble_eq_true rfl) ?_
    intro v850 T850 V850 h850 S850 C850 q850
    obtain ⟨a848, t848, kt848, z848, vs848, rfl, E848, L848, zl848, zh848⟩ := q850
    have sf851 := C850.safe (Nat.lt_of_lt_of_le A.2.2.2.2.2.1.2.2.2.2.lt (Nat.le_trans (Nat.le_refl _) E845.1)) sf847
    show Go p e below _ (T850.setTop (mkF m 107 #[.val (.ref x), .val (.int (0 : Int32)), .val (.int pp), .val (.int qq), .val (.int oo), .val (.int ch), .val (.int ln_), .unset, .unset, .unset] [(.ref a848), (.ref a845), (.int oo), (.int qq), (.int pp), (.ref x)]))
    have X852 : Ext h h850 := ext_trans E845 E848
    have A853 := A.ext X852
    have L854 := L845.ext E848
    have ne2 : t848 ≠ tb := arv_zne (L848).2.2.2 (A853).2.2.2.2.2.1.2.2.2.2 (by rw [show (16 : Int32).toNatClampNeg = 16 from rfl]; have e := own_nat zl848; omega)
    have A855 := A.1.ext X852
    show Go p e below _ (T850.setTop (mkF m 107 #[.val (.ref x), .val (.int (0 : Int32)), .val (.int pp), .val (.int qq), .val (.int oo), .val (.int ch), .val (.int ln_), .unset, .unset, .unset] [(.ref a848), (.ref a845), (.int oo), (.int qq), (.int pp), (.ref x)]))
    refine g_virtual S850 (rmAX1 X pp qq oo S850.old A853 L854 L848 ne2 h0 zl845 zl848 (by omega) hbl) (sf1 (Nat.lt_of_lt_of_le A.2.2.2.2.2.1.2.2.2.2.lt (Nat.le_trans (Nat.le_trans (Nat.le_refl _) E845.1) E848.1)) sf851) (w70 hw) (w71 hw) (w73 hw) (w72 hw) (w2 hw) (w74 hw) (by decide) (fun _ h => notFace_of_selects h) (hb hby dLA1_107) (by rw [hml]; rfl) x A855 [(.int pp), (.int qq), (.int oo), (.ref a845), (.ref a848)] (lenOf pd24 rfl) rfl rfl (Nat.le_of_ble_eq_true rfl) (Nat.le_of_ble_eq_true rfl) (Nat.le_of_ble_eq_true rfl) (Nat.le_of_ble_eq_true rfl) ?_
    intro v856 T856 V856 h856 S856 C856 q856
    obtain ⟨rfl, u, ku, dd, ee, sc1, bs1, A9, d9, e9, l9⟩ := q856
    show Go p e below _ (T856.setTop (mkF m 110 #[.val (.ref x), .val (.int (0 : Int32)), .val (.int pp), .val (.int qq), .val (.int oo), .val (.int ch), .val (.int ln_), .unset, .unset, .unset] []))
    exact g_ret S856 (hb hby dLA1_110) hret ⟨rfl, u, ku, dd, ee, sc1, bs1, A9, Or.inr ⟨rfl, own_nn d9⟩, by omega, by omega, l9⟩
theorem dLA2_0 : decode method_3_code 0 = .ok (.iload_n 1, 1) := by decide +kernel
theorem dLA2_1 : decode method_3_code 1 = .ok (.ifCond .eq 79, 3) := by decide +kernel
theorem dLA2_4 : decode method_3_code 4 = .ok (.iconst 3, 1) := by decide +kernel
theorem dLA2_5 : decode method_3_code 5 = .ok (.newarray .char, 2) := by decide +kernel
theorem dLA2_7 : decode method_3_code 7 = .ok (.dup, 1) := by decide +kernel
theorem dLA2_8 : decode method_3_code 8 = .ok (.iconst 0, 1) := by decide +kernel
theorem dLA2_9 : decode method_3_code 9 = .ok (.iload 5, 2) := by decide +kernel
theorem dLA2_11 : decode method_3_code 11 = .ok (.sipush 255, 3) := by decide +kernel
theorem dLA2_14 : decode method_3_code 14 = .ok (.iand, 1) := by decide +kernel
theorem dLA2_15 : decode method_3_code 15 = .ok (.i2c, 1) := by decide +kernel
theorem dLA2_16 : decode method_3_code 16 = .ok (.castore, 1) := by decide +kernel
theorem dLA2_17 : decode method_3_code 17 = .ok (.dup, 1) := by decide +kernel
theorem dLA2_18 : decode method_3_code 18 = .ok (.iconst 1, 1) := by decide +kernel
theorem dLA2_19 : decode method_3_code 19 = .ok (.iload 5, 2) := by decide +kernel
theorem dLA2_21 : decode method_3_code 21 = .ok (.bipush 8, 2) := by decide +kernel
theorem dLA2_23 : decode method_3_code 23 = .ok (.iushr, 1) := by decide +kernel
theorem dLA2_24 : decode method_3_code 24 = .ok (.sipush 255, 3) := by decide +kernel
theorem dLA2_27 : decode method_3_code 27 = .ok (.iand, 1) := by decide +kernel
theorem dLA2_28 : decode method_3_code 28 = .ok (.i2c, 1) := by decide +kernel
theorem dLA2_29 : decode method_3_code 29 = .ok (.castore, 1) := by decide +kernel
theorem dLA2_30 : decode method_3_code 30 = .ok (.dup, 1) := by decide +kernel
theorem dLA2_31 : decode method_3_code 31 = .ok (.iconst 2, 1) := by decide +kernel
theorem dLA2_32 : decode method_3_code 32 = .ok (.iload 5, 2) := by decide +kernel
theorem dLA2_34 : decode method_3_code 34 = .ok (.bipush 16, 2) := by decide +kernel
theorem dLA2_36 : decode method_3_code 36 = .ok (.iushr, 1) := by decide +kernel
theorem dLA2_37 : decode method_3_code 37 = .ok (.sipush 255, 3) := by decide +kernel
theorem dLA2_40 : decode method_3_code 40 = .ok (.iand, 1) := by decide +kernel
theorem dLA2_41 : decode method_3_code 41 = .ok (.i2c, 1) := by decide +kernel
theorem dLA2_42 : decode method_3_code 42 = .ok (.castore, 1) := by decide +kernel
theorem dLA2_43 : decode method_3_code 43 = .ok (.astore 7, 2) := by decide +kernel
theorem dLA2_45 : decode method_3_code 45 = .ok (.iload 6, 2) := by decide +kernel
theorem dLA2_47 : decode method_3_code 47 = .ok (.iconst 1, 1) := by decide +kernel
theorem dLA2_48 : decode method_3_code 48 = .ok (.iand, 1) := by decide +kernel
theorem dLA2_49 : decode method_3_code 49 = .ok (.istore 8, 2) := by decide +kernel
theorem dLA2_51 : decode method_3_code 51 = .ok (.iload 6, 2) := by decide +kernel
theorem dLA2_53 : decode method_3_code 53 = .ok (.iconst 1, 1) := by decide +kernel
theorem dLA2_54 : decode method_3_code 54 = .ok (.iushr, 1) := by decide +kernel
theorem dLA2_55 : decode method_3_code 55 = .ok (.iconst 3, 1) := by decide +kernel
theorem dLA2_56 : decode method_3_code 56 = .ok (.iand, 1) := by decide +kernel
theorem dLA2_57 : decode method_3_code 57 = .ok (.iconst 2, 1) := by decide +kernel
theorem dLA2_58 : decode method_3_code 58 = .ok (.invokestatic 18, 3) := by decide +kernel
theorem dLA2_61 : decode method_3_code 61 = .ok (.istore 9, 2) := by decide +kernel
theorem dLA2_63 : decode method_3_code 63 = .ok (.aload_n 0, 1) := by decide +kernel
theorem dLA2_64 : decode method_3_code 64 = .ok (.iload_n 2, 1) := by decide +kernel
theorem dLA2_65 : decode method_3_code 65 = .ok (.iload_n 3, 1) := by decide +kernel
theorem dLA2_66 : decode method_3_code 66 = .ok (.iload 4, 2) := by decide +kernel
theorem dLA2_68 : decode method_3_code 68 = .ok (.aload 7, 2) := by decide +kernel
theorem dLA2_70 : decode method_3_code 70 = .ok (.iload 8, 2) := by decide +kernel
theorem dLA2_72 : decode method_3_code 72 = .ok (.iload 9, 2) := by decide +kernel
theorem dLA2_74 : decode method_3_code 74 = .ok (.invokevirtual 24, 3) := by decide +kernel
theorem dLA2_77 : decode method_3_code 77 = .ok (.goto 33, 3) := by decide +kernel
theorem dLA2_80 : decode method_3_code 80 = .ok (.aload_n 0, 1) := by decide +kernel
theorem dLA2_81 : decode method_3_code 81 = .ok (.iload_n 2, 1) := by decide +kernel
theorem dLA2_82 : decode method_3_code 82 = .ok (.iload_n 3, 1) := by decide +kernel
theorem dLA2_83 : decode method_3_code 83 = .ok (.iload 4, 2) := by decide +kernel
theorem dLA2_85 : decode method_3_code 85 = .ok (.iload 5, 2) := by decide +kernel
theorem dLA2_87 : decode method_3_code 87 = .ok (.iload 6, 2) := by decide +kernel
theorem dLA2_89 : decode method_3_code 89 = .ok (.iconst 3, 1) := by decide +kernel
theorem dLA2_90 : decode method_3_code 90 = .ok (.iand, 1) := by decide +kernel
theorem dLA2_91 : decode method_3_code 91 = .ok (.invokestatic 30, 3) := by decide +kernel
theorem dLA2_94 : decode method_3_code 94 = .ok (.iload 5, 2) := by decide +kernel
theorem dLA2_96 : decode method_3_code 96 = .ok (.iconst 4, 1) := by decide +kernel
theorem dLA2_97 : decode method_3_code 97 = .ok (.iushr, 1) := by decide +kernel
theorem dLA2_98 : decode method_3_code 98 = .ok (.iload 6, 2) := by decide +kernel
theorem dLA2_100 : decode method_3_code 100 = .ok (.iconst 2, 1) := by decide +kernel
theorem dLA2_101 : decode method_3_code 101 = .ok (.iushr, 1) := by decide +kernel
theorem dLA2_102 : decode method_3_code 102 = .ok (.iconst 3, 1) := by decide +kernel
theorem dLA2_103 : decode method_3_code 103 = .ok (.iand, 1) := by decide +kernel
theorem dLA2_104 : decode method_3_code 104 = .ok (.invokestatic 30, 3) := by decide +kernel
theorem dLA2_107 : decode method_3_code 107 = .ok (.invokevirtual 36, 3) := by decide +kernel
theorem dLA2_110 : decode method_3_code 110 = .ok (.return_, 1) := by decide +kernel
set_option maxRecDepth 65536 in
set_option maxHeartbeats 40000000 in
theorem rmLA2 {l : Launch} {Z : State} {a0 : Array Value} {n0 : Nat} (X : Ctx Z a0) {x sb tb t : Addr} {kb kt : ClassId} {sc : Int32} {bs : List Value} {r0 r1 r2 r3 r4 r5 r6 r7 r8 r9 : Int32} {cc : Int32} (pp qq oo ch ln_ : Int32) {h : Heap} (hO : Old Z n0 h) (A : AS Z h n0 x sb tb t kb kt (2 : Int32) (80 : Int32) [(.int r0), (.int r1), (.int r2), (.int r3), (.int r4), (.int r5), (.int r6), (.int r7), (.int r8), (.int r9), (.int (0 : Int32)), (.int (0 : Int32)), (.int (0 : Int32)), (.int (0 : Int32)), (.int (0 : Int32))] (16 : Int32) sc bs) (hcc : cc = 1 ∨ cc = 0) (h0 : 0 ≤ sc.toInt) (h2 : sc.toInt + 4 ≤ 16) (hbl : bs.length = 16) :
    Ctr l Z EL1 n0 (⟨"com/example/nodewarden/nodewarden/core/AsidesIsCommentPinLaw", "add", "(Lcom/example/nodewarden/nodewarden/core/Asides;ZIIIII)V"⟩ : MethodName) method_3_code 10 none ({ frames := 6, cells := 6, slots := 16, locals := 112 } : Room) #[(.ref x), (.int cc), (.int pp), (.int qq), (.int oo), (.int ch), (.int ln_)] h [tb] (fun v h' => v = none ∧ ∃ (u : Addr) (ku : ClassId) (dd ee sc' : Int32) (bs' : List Value), AS Z h' n0 x sb tb u kb ku (3 : Int32) (80 : Int32) [(.int r0), (.int r1), (.int r2), (.int r3), (.int r4), (.int r5), (.int r6), (.int r7), (.int r8), (.int r9), (.int pp), (.int qq), (.int oo), (.int dd), (.int ee)] (16 : Int32) sc' bs' ∧ ((cc = 1 ∧ dd < 0) ∨ (cc = 0 ∧ ¬ dd < 0)) ∧ 0 ≤ sc'.toInt ∧ sc'.toInt ≤ sc.toInt + 4 ∧ bs'.length = 16) := by
  have hw := X.hw
  obtain ⟨z1, hz1, hz2⟩ := X.2.2.1
  refine Ctr.intro (a0 := a0) (plainFor_of_name pn7) hO X.ew ?_
  intro p e s m below meth c T0 V0 S0 hby hml hret hnm hsf
  rw [ef19]
  rcases hcc with rfl | rfl
  · skip
    show Go p e below _ (T0.setTop (mkF m 0 #[.val (.ref x), .val (.int (1 : Int32)), .val (.int pp), .val (.int qq), .val (.int oo), .val (.int ch), .val (.int ln_), .unset, .unset, .unset] []))
    refine s_iloadN S0 (hb hby dLA2_0) rfl (pc' := 1) rfl ?_
    refine s_ifN S0 (hb hby dLA2_1) (by decide) (pc' := 4) rfl ?_
    refine s_iconst S0 (hb hby dLA2_4) (v := (3 : Int32)) rfl (pc' := 5) rfl ?_
    refine g_newarr (aty := .char) S0 (w43 hw) (hb hby dLA2_5) (by decide) (cap := 3) (by decide) (by decide) (Nat.le_of_ble_eq_true rfl) (Nat.le_of_ble_eq_true rfl) ?_
    intro T857 h857 b857 kc857 S857 E857 fr857 lt857 na857 sf857 A857
    have sf858 := Safe.ext E857 S0.chv (hsf tb List.mem_cons_self)
    have V857 : Arv Z h857 b857 kc857 .char (3 : Int32) [(.int (0 : Int32)), (.int (0 : Int32)), (.int (0 : Int32))] (.int (0 : Int32)) := A857 3
    show Go p e below _ (T857.setTop (mkF m 7 #[.val (.ref x), .val (.int (1 : Int32)), .val (.int pp), .val (.int qq), .val (.int oo), .val (.int ch), .val (.int ln_), .unset, .unset, .unset] [(.ref b857)]))
    refine s_dup S857 (hb hby dLA2_7) rfl (pc' := 8) rfl ?_
    refine s_iconst S857 (hb hby dLA2_8) (v := (0 : Int32)) rfl (pc' := 9) rfl ?_
    refine s_iload S857 (hb hby dLA2_9) rfl (pc' := 11) rfl ?_
    refine s_sipush S857 (hb hby dLA2_11) (v := (255 : Int32)) rfl (pc' := 14) rfl ?_
    refine s_iand S857 (hb hby dLA2_14) (z := (ch &&& (255 : Int32))) rfl (pc' := 15) rfl ?_
    refine s_i2c S857 (hb hby dLA2_15) (z := ((ch &&& (255 : Int32)).toUInt32.toUInt16.toUInt32.toInt32)) rfl (pc' := 16) rfl ?_
    generalize ec859 : ((ch &&& (255 : Int32)).toUInt32.toUInt16.toUInt32.toInt32) = c859
    have rc859 : ¬ c859 < 0 ∧ ¬ (255 : Int32) < c859 := by rw [← ec859, i2c_mask]; exact and255 _
    refine g_castore S857 V857 ⟨by decide, by decide⟩ 0 rfl (Nat.le_of_ble_eq_true rfl) na857 (hb hby dLA2_16) ?_
    intro T860 h860 S860 K860 V860
    have sf861 := Safe.keep K860 (sfS (Safe.arv S857.warm.alike V857 (by decide)) sf0) S857.chv sf858
    rw [narC8 rc859] at V860
    have V860 : Arv Z h860 b857 kc857 .char (3 : Int32) [(.int c859), (.int (0 : Int32)), (.int (0 : Int32))] (.int (0 : Int32)) := V860
    show Go p e below _ (T860.setTop (mkF m 17 #[.val (.ref x), .val (.int (1 : Int32)), .val (.int pp), .val (.int qq), .val (.int oo), .val (.int ch), .val (.int ln_), .unset, .unset, .unset] [(.ref b857)]))
    refine s_dup S860 (hb hby dLA2_17) rfl (pc' := 18) rfl ?_
    refine s_iconst S860 (hb hby dLA2_18) (v := (1 : Int32)) rfl (pc' := 19) rfl ?_
    refine s_iload S860 (hb hby dLA2_19) rfl (pc' := 21) rfl ?_
    refine s_bipush S860 (hb hby dLA2_21) (v := (8 : Int32)) rfl (pc' := 23) rfl ?_
    refine s_iushr S860 (hb hby dLA2_23) (z := ((ch.toUInt32 >>> ((8 : Int32) &&& 31).toUInt32).toInt32)) rfl (pc' := 24) rfl ?_
    refine s_sipush S860 (hb hby dLA2_24) (v := (255 : Int32)) rfl (pc' := 27) rfl ?_
    refine s_iand S860 (hb hby dLA2_27) (z := (((ch.toUInt32 >>> ((8 : Int32) &&& 31).toUInt32).toInt32) &&& (255 : Int32))) rfl (pc' := 28) rfl ?_
    refine s_i2c S860 (hb hby dLA2_28) (z := ((((ch.toUInt32 >>> ((8 : Int32) &&& 31).toUInt32).toInt32) &&& (255 : Int32)).toUInt32.toUInt16.toUInt32.toInt32)) rfl (pc' := 29) rfl ?_
    generalize ec862 : ((((ch.toUInt32 >>> ((8 : Int32) &&& 31).toUInt32).toInt32) &&& (255 : Int32)).toUInt32.toUInt16.toUInt32.toInt32) = c862
    have rc862 : ¬ c862 < 0 ∧ ¬ (255 : Int32) < c862 := by rw [← ec862, i2c_mask]; exact and255 _
    refine g_castore S860 V860 ⟨by decide, by decide⟩ 1 rfl (Nat.le_of_ble_eq_true rfl) na857 (hb hby dLA2_29) ?_
    intro T863 h863 S863 K863 V863
    have sf864 := Safe.keep K863 (sfS (Safe.arv S860.warm.alike V860 (by decide)) sf0) S860.chv sf861
    rw [narC8 rc862] at V863
    have V863 : Arv Z h863 b857 kc857 .char (3 : Int32) [(.int c859), (.int c862), (.int (0 : Int32))] (.int (0 : Int32)) := V863
    show Go p e below _ (T863.setTop (mkF m 30 #[.val (.ref x), .val (.int (1 : Int32)), .val (.int pp), .val (.int qq), .val (.int oo), .val (.int ch), .val (.int ln_), .unset, .unset, .unset] [(.ref b857)]))
    refine s_dup S863 (hb hby dLA2_30) rfl (pc' := 31) rfl ?_
    refine s_iconst S863 (hb hby dLA2_31) (v := (2 : Int32)) rfl (pc' := 32) rfl ?_
    refine s_iload S863 (hb hby dLA2_32) rfl (pc' := 34) rfl ?_
    refine s_bipush S863 (hb hby dLA2_34) (v := (16 : Int32)) rfl (pc' := 36) rfl ?_
    refine s_iushr S863 (hb hby dLA2_36) (z := ((ch.toUInt32 >>> ((16 : Int32) &&& 31).toUInt32).toInt32)) rfl (pc' := 37) rfl ?_
    refine s_sipush S863 (hb hby dLA2_37) (v := (255 : Int32)) rfl (pc' := 40) rfl ?_
    refine s_iand S863 (hb hby dLA2_40) (z := (((ch.toUInt32 >>> ((16 : Int32) &&& 31).toUInt32).toInt32) &&& (255 : Int32))) rfl (pc' := 41) rfl ?_
    refine s_i2c S863 (hb hby dLA2_41) (z := ((((ch.toUInt32 >>> ((16 : Int32) &&& 31).toUInt32).toInt32) &&& (255 : Int32)).toUInt32.toUInt16.toUInt32.toInt32)) rfl (pc' := 42) rfl ?_
    generalize ec865 : ((((ch.toUInt32 >>> ((16 : Int32) &&& 31).toUInt32).toInt32) &&& (255 : Int32)).toUInt32.toUInt16.toUInt32.toInt32) = c865
    have rc865 : ¬ c865 < 0 ∧ ¬ (255 : Int32) < c865 := by rw [← ec865, i2c_mask]; exact and255 _
    refine g_castore S863 V863 ⟨by decide, by decide⟩ 2 rfl (Nat.le_of_ble_eq_true rfl) na857 (hb hby dLA2_42) ?_
    intro T866 h866 S866 K866 V866
    have sf867 := Safe.keep K866 (sfS (Safe.arv S863.warm.alike V863 (by decide)) sf0) S863.chv sf864
    rw [narC8 rc865] at V866
    have V866 : Arv Z h866 b857 kc857 .char (3 : Int32) [(.int c859), (.int c862), (.int c865)] (.int (0 : Int32)) := V866
    show Go p e below _ (T866.setTop (mkF m 43 #[.val (.ref x), .val (.int (1 : Int32)), .val (.int pp), .val (.int qq), .val (.int oo), .val (.int ch), .val (.int ln_), .unset, .unset, .unset] [(.ref b857)]))
    refine s_astore S866 (hb hby dLA2_43) rfl (L' := #[.val (.ref x), .val (.int (1 : Int32)), .val (.int pp), .val (.int qq), .val (.int oo), .val (.int ch), .val (.int ln_), .val (.ref b857), .unset, .unset]) rfl (pc' := 45) rfl ?_
    refine s_iload S866 (hb hby dLA2_45) rfl (pc' := 47) rfl ?_
    refine s_iconst S866 (hb hby dLA2_47) (v := (1 : Int32)) rfl (pc' := 48) rfl ?_
    refine s_iand S866 (hb hby dLA2_48) (z := (ln_ &&& (1 : Int32))) rfl (pc' := 49) rfl ?_
    generalize es868 : (ln_ &&& (1 : Int32)) = s868
    refine s_istore S866 (hb hby dLA2_49) (L' := #[.val (.ref x), .val (.int (1 : Int32)), .val (.int pp), .val (.int qq), .val (.int oo), .val (.int ch), .val (.int ln_), .val (.ref b857), .val (.int s868), .unset]) rfl (pc' := 51) rfl ?_
    refine s_iload S866 (hb hby dLA2_51) rfl (pc' := 53) rfl ?_
    refine s_iconst S866 (hb hby dLA2_53) (v := (1 : Int32)) rfl (pc' := 54) rfl ?_
    refine s_iushr S866 (hb hby dLA2_54) (z := ((ln_.toUInt32 >>> ((1 : Int32) &&& 31).toUInt32).toInt32)) rfl (pc' := 55) rfl ?_
    refine s_iconst S866 (hb hby dLA2_55) (v := (3 : Int32)) rfl (pc' := 56) rfl ?_
    refine s_iand S866 (hb hby dLA2_56) (z := (((ln_.toUInt32 >>> ((1 : Int32) &&& 31).toUInt32).toInt32) &&& (3 : Int32))) rfl (pc' := 57) rfl ?_
    refine s_iconst S866 (hb hby dLA2_57) (v := (2 : Int32)) rfl (pc' := 58) rfl ?_
    show Go p e below _ (T866.setTop (mkF m 58 #[.val (.ref x), .val (.int (1 : Int32)), .val (.int pp), .val (.int qq), .val (.int oo), .val (.int ch), .val (.int ln_), .val (.ref b857), .val (.int s868), .unset] [(.int (2 : Int32)), (.int (((ln_.toUInt32 >>> ((1 : Int32) &&& 31).toUInt32).toInt32) &&& (3 : Int32)))]))
    refine g_static S866 (rmMN X (z := (if (2 : Int32) < (((ln_.toUInt32 >>> ((1 : Int32) &&& 31).toUInt32).toInt32) &&& (3 : Int32)) then (2 : Int32) else (((ln_.toUInt32 >>> ((1 : Int32) &&& 31).toUInt32).toInt32) &&& (3 : Int32)))) rfl S866.old) (fun _ q => nomatch q) (w154 hw) (w146 hw) (w139 hw) (w147 hw) (by decide) (hb hby dLA2_58) (by rw [hml]; rfl) [(.int (((ln_.toUInt32 >>> ((1 : Int32) &&& 31).toUInt32).toInt32) &&& (3 : Int32))), (.int (2 : Int32))] (lenOf pd3 rfl) rfl rfl (Nat.le_of_ble_eq_true rfl) (Nat.le_of_ble_eq_true rfl) (Nat.le_of_ble_eq_true rfl) (Nat.le_of_ble_eq_true rfl) ?_
    intro v869 T869 V869 h869 S869 C869 q869
    obtain ⟨rfl, rfl⟩ := q869
    have sf870 := C869.safe (Nat.lt_of_lt_of_le A.2.2.2.2.2.1.2.2.2.2.lt (Nat.le_trans (Nat.le_trans (Nat.le_trans (Nat.le_trans (Nat.le_refl _) E857.1) K860.1) K863.1) K866.1)) sf867
    show Go p e below _ (T869.setTop (mkF m 61 #[.val (.ref x), .val (.int (1 : Int32)), .val (.int pp), .val (.int qq), .val (.int oo), .val (.int ch), .val (.int ln_), .val (.ref b857), .val (.int s868), .unset] [(.int (if (2 : Int32) < (((ln_.toUInt32 >>> ((1 : Int32) &&& 31).toUInt32).toInt32) &&& (3 : Int32)) then (2 : Int32) else (((ln_.toUInt32 >>> ((1 : Int32) &&& 31).toUInt32).toInt32) &&& (3 : Int32))))]))
    generalize el871 : (if (2 : Int32) < (((ln_.toUInt32 >>> ((1 : Int32) &&& 31).toUInt32).toInt32) &&& (3 : Int32)) then (2 : Int32) else (((ln_.toUInt32 >>> ((1 : Int32) &&& 31).toUInt32).toInt32) &&& (3 : Int32))) = l871
    refine s_istore S869 (hb hby dLA2_61) (L' := #[.val (.ref x), .val (.int (1 : Int32)), .val (.int pp), .val (.int qq), .val (.int oo), .val (.int ch), .val (.int ln_), .val (.ref b857), .val (.int s868), .val (.int l871)]) rfl (pc' := 63) rfl ?_
    refine s_aloadN S869 (hb hby dLA2_63) rfl rfl (pc' := 64) rfl ?_
    refine s_iloadN S869 (hb hby dLA2_64) rfl (pc' := 65) rfl ?_
    refine s_iloadN S869 (hb hby dLA2_65) rfl (pc' := 66) rfl ?_
    refine s_iload S869 (hb hby dLA2_66) rfl (pc' := 68) rfl ?_
    refine s_aload S869 (hb hby dLA2_68) rfl rfl (pc' := 70) rfl ?_
    refine s_iload S869 (hb hby dLA2_70) rfl (pc' := 72) rfl ?_
    refine s_iload S869 (hb hby dLA2_72) rfl (pc' := 74) rfl ?_
    have hs_ := own_and1 _ _ es868
    have hl_ := own_min3 _ _ el871
    have hm_ := own_le2 hl_
    have X872 : Ext h h860 := ext_keep1 E857 K860 fr857
    have X873 : Ext h h863 := ext_keep1 X872 K863 fr857
    have X874 : Ext h h869 := ext_keep1 X873 K866 fr857
    have A875 := A.ext X874
    have A876 := A.1.ext X874
    show Go p e below _ (T869.setTop (mkF m 74 #[.val (.ref x), .val (.int (1 : Int32)), .val (.int pp), .val (.int qq), .val (.int oo), .val (.int ch), .val (.int ln_), .val (.ref b857), .val (.int s868), .val (.int l871)] [(.int l871), (.int s868), (.ref b857), (.int oo), (.int qq), (.int pp), (.ref x)]))
    refine g_virtual S869 (rmAC2 X pp qq oo S869.old A875 V866 rc859 rc862 rc865 hs_ hl_ h0 (by omega) hbl) (sf1 (Nat.lt_of_lt_of_le A.2.2.2.2.2.1.2.2.2.2.lt (Nat.le_trans (Nat.le_trans (Nat.le_trans (Nat.le_trans (Nat.le_refl _) E857.1) K860.1) K863.1) K866.1)) sf870) (w155 hw) (w156 hw) (w158 hw) (w157 hw) (w2 hw) (w159 hw) (by decide) (fun _ h => notFace_of_selects h) (hb hby dLA2_74) (by rw [hml]; rfl) x A876 [(.int pp), (.int qq), (.int oo), (.ref b857), (.int s868), (.int l871)] (lenOf pd22 rfl) rfl rfl (Nat.le_of_ble_eq_true rfl) (Nat.le_of_ble_eq_true rfl) (Nat.le_of_ble_eq_true rfl) (Nat.le_of_ble_eq_true rfl) ?_
    intro v877 T877 V877 h877 S877 C877 q877
    obtain ⟨rfl, u, ku, ee, sc1, bs1, A9, e9, l9⟩ := q877
    show Go p e below _ (T877.setTop (mkF m 77 #[.val (.ref x), .val (.int (1 : Int32)), .val (.int pp), .val (.int qq), .val (.int oo), .val (.int ch), .val (.int ln_), .val (.ref b857), .val (.int s868), .val (.int l871)] []))
    refine s_goto S877 (hb hby dLA2_77) (by decide) (pcT := 110) (by decide) ?_
    exact g_ret S877 (hb hby dLA2_110) hret ⟨rfl, u, ku, (-1 : Int32), ee, sc1, bs1, A9, Or.inl ⟨rfl, by decide⟩, by omega, by omega, l9⟩
  · skip
    show Go p e below _ (T0.setTop (mkF m 0 #[.val (.ref x), .val (.int (0 : Int32)), .val (.int pp), .val (.int qq), .val (.int oo), .val (.int ch), .val (.int ln_), .unset, .unset, .unset] []))
    refine s_iloadN S0 (hb hby dLA2_0) rfl (pc' := 1) rfl ?_
    refine s_ifY S0 (hb hby dLA2_1) (by decide) (by decide) (pcT := 80) (by decide) ?_
    refine s_aloadN S0 (hb hby dLA2_80) rfl rfl (pc' := 81) rfl ?_
    refine s_iloadN S0 (hb hby dLA2_81) rfl (pc' := 82) rfl ?_
    refine s_iloadN S0 (hb hby dLA2_82) rfl (pc' := 83) rfl ?_
    refine s_iload S0 (hb hby dLA2_83) rfl (pc' := 85) rfl ?_
    refine s_iload S0 (hb hby dLA2_85) rfl (pc' := 87) rfl ?_
    refine s_iload S0 (hb hby dLA2_87) rfl (pc' := 89) rfl ?_
    refine s_iconst S0 (hb hby dLA2_89) (v := (3 : Int32)) rfl (pc' := 90) rfl ?_
    refine s_iand S0 (hb hby dLA2_90) (z := (ln_ &&& (3 : Int32))) rfl (pc' := 91) rfl ?_
    show Go p e below _ (T0.setTop (mkF m 91 #[.val (.ref x), .val (.int (0 : Int32)), .val (.int pp), .val (.int qq), .val (.int oo), .val (.int ch), .val (.int ln_), .unset, .unset, .unset] [(.int (ln_ &&& (3 : Int32))), (.int ch), (.int oo), (.int qq), (.int pp), (.ref x)]))
    refine g_static S0 (rmST X ch (ln_ &&& (3 : Int32)) S0.old) (fun _ q => nomatch q) (w38 hw) (w39 hw) (w36 hw) (w40 hw) (by decide) (hb hby dLA2_91) (by rw [hml]; rfl) [(.int ch), (.int (ln_ &&& (3 : Int32)))] (lenOf pd23 rfl) rfl rfl (Nat.le_of_ble_eq_true rfl) (Nat.le_of_ble_eq_true rfl) (Nat.le_of_ble_eq_true rfl) (Nat.le_of_ble_eq_true rfl) ?_
    intro v879 T879 V879 h879 S879 C879 q879
    obtain ⟨a878, t878, kt878, z878, vs878, rfl, E878, L878, zl878, zh878⟩ := q879
    have sf880 := C879.safe A.2.2.2.2.2.1.2.2.2.2.lt (hsf tb List.mem_cons_self)
    show Go p e below _ (T879.setTop (mkF m 94 #[.val (.ref x), .val (.int (0 : Int32)), .val (.int pp), .val (.int qq), .val (.int oo), .val (.int ch), .val (.int ln_), .unset, .unset, .unset] [(.ref a878), (.int oo), (.int qq), (.int pp), (.ref x)]))
    refine s_iload S879 (hb hby dLA2_94) rfl (pc' := 96) rfl ?_
    refine s_iconst S879 (hb hby dLA2_96) (v := (4 : Int32)) rfl (pc' := 97) rfl ?_
    refine s_iushr S879 (hb hby dLA2_97) (z := ((ch.toUInt32 >>> ((4 : Int32) &&& 31).toUInt32).toInt32)) rfl (pc' := 98) rfl ?_
    refine s_iload S879 (hb hby dLA2_98) rfl (pc' := 100) rfl ?_
    refine s_iconst S879 (hb hby dLA2_100) (v := (2 : Int32)) rfl (pc' := 101) rfl ?_
    refine s_iushr S879 (hb hby dLA2_101) (z := ((ln_.toUInt32 >>> ((2 : Int32) &&& 31).toUInt32).toInt32)) rfl (pc' := 102) rfl ?_
    refine s_iconst S879 (hb hby dLA2_102) (v := (3 : Int32)) rfl (pc' := 103) rfl ?_
    refine s_iand S879 (hb hby dLA2_103) (z := (((ln_.toUInt32 >>> ((2 : Int32) &&& 31).toUInt32).toInt32) &&& (3 : Int32))) rfl (pc' := 104) rfl ?_
    have A882 := A.1.ext E878
    show Go p e below _ (T879.setTop (mkF m 104 #[.val (.ref x), .val (.int (0 : Int32)), .val (.int pp), .val (.int qq), .val (.int oo), .val (.int ch), .val (.int ln_), .unset, .unset, .unset] [(.int (((ln_.toUInt32 >>> ((2 : Int32) &&& 31).toUInt32).toInt32) &&& (3 : Int32))), (.int ((ch.toUInt32 >>> ((4 : Int32) &&& 31).toUInt32).toInt32)), (.ref a878), (.int oo), (.int qq), (.int pp), (.ref x)]))
    refine g_static S879 (rmST X ((ch.toUInt32 >>> ((4 : Int32) &&& 31).toUInt32).toInt32) (((ln_.toUInt32 >>> ((2 : Int32) &&& 31).toUInt32).toInt32) &&& (3 : Int32)) S879.old) (fun _ q => nomatch q) (w38 hw) (w39 hw) (w36 hw) (w40 hw) (by decide) (hb hby dLA2_104) (by rw [hml]; rfl) [(.int ((ch.toUInt32 >>> ((4 : Int32) &&& 31).toUInt32).toInt32)), (.int (((ln_.toUInt32 >>> ((2 : Int32) &&& 31).toUInt32).toInt32) &&& (3 : Int32)))] (lenOf pd23 rfl) rfl rfl (Nat.le_of_ble_eq_true rfl) (Nat.le_of_ble_eq_true rfl) (Nat.le_of_ble_eq_true rfl) (Nat.le_of_ble_eq_true rfl) ?_
    intro v883 T883 V883 h883 S883 C883 q883
    obtain ⟨a881, t881, kt881, z881, vs881, rfl, E881, L881, zl881, zh881⟩ := q883
    have sf884 := C883.safe (Nat.lt_of_lt_of_le A.2.2.2.2.2.1.2.2.2.2.lt (Nat.le_trans (Nat.le_refl _) E878.1)) sf880
    show Go p e below _ (T883.setTop (mkF m 107 #[.val (.ref x), .val (.int (0 : Int32)), .val (.int pp), .val (.int qq), .val (.int oo), .val (.int ch), .val (.int ln_), .unset, .unset, .unset] [(.ref a881), (.ref a878), (.int oo), (.int qq), (.int pp), (.ref x)]))
    have X885 : Ext h h883 := ext_trans E878 E881
    have A886 := A.ext X885
    have L887 := L878.ext E881
    have ne2 : t881 ≠ tb := arv_zne (L881).2.2.2 (A886).2.2.2.2.2.1.2.2.2.2 (by rw [show (16 : Int32).toNatClampNeg = 16 from rfl]; have e := own_nat zl881; omega)
    have A888 := A.1.ext X885
    show Go p e below _ (T883.setTop (mkF m 107 #[.val (.ref x), .val (.int (0 : Int32)), .val (.int pp), .val (.int qq), .val (.int oo), .val (.int ch), .val (.int ln_), .unset, .unset, .unset] [(.ref a881), (.ref a878), (.int oo), (.int qq), (.int pp), (.ref x)]))
    refine g_virtual S883 (rmAX2 X pp qq oo S883.old A886 L887 L881 ne2 h0 zl878 zl881 (by omega) hbl) (sf1 (Nat.lt_of_lt_of_le A.2.2.2.2.2.1.2.2.2.2.lt (Nat.le_trans (Nat.le_trans (Nat.le_refl _) E878.1) E881.1)) sf884) (w70 hw) (w71 hw) (w73 hw) (w72 hw) (w2 hw) (w74 hw) (by decide) (fun _ h => notFace_of_selects h) (hb hby dLA2_107) (by rw [hml]; rfl) x A888 [(.int pp), (.int qq), (.int oo), (.ref a878), (.ref a881)] (lenOf pd24 rfl) rfl rfl (Nat.le_of_ble_eq_true rfl) (Nat.le_of_ble_eq_true rfl) (Nat.le_of_ble_eq_true rfl) (Nat.le_of_ble_eq_true rfl) ?_
    intro v889 T889 V889 h889 S889 C889 q889
    obtain ⟨rfl, u, ku, dd, ee, sc1, bs1, A9, d9, e9, l9⟩ := q889
    show Go p e below _ (T889.setTop (mkF m 110 #[.val (.ref x), .val (.int (0 : Int32)), .val (.int pp), .val (.int qq), .val (.int oo), .val (.int ch), .val (.int ln_), .unset, .unset, .unset] []))
    exact g_ret S889 (hb hby dLA2_110) hret ⟨rfl, u, ku, dd, ee, sc1, bs1, A9, Or.inr ⟨rfl, own_nn d9⟩, by omega, by omega, l9⟩
theorem dIC00_0 : decode prog_3_method_8_code 0 = .ok (.aload_n 0, 1) := by decide +kernel
theorem dIC00_1 : decode prog_3_method_8_code 1 = .ok (.getfield 16, 3) := by decide +kernel
theorem dIC00_4 : decode prog_3_method_8_code 4 = .ok (.iload_n 1, 1) := by decide +kernel
theorem dIC00_5 : decode prog_3_method_8_code 5 = .ok (.iconst 5, 1) := by decide +kernel
theorem dIC00_6 : decode prog_3_method_8_code 6 = .ok (.imul, 1) := by decide +kernel
theorem dIC00_7 : decode prog_3_method_8_code 7 = .ok (.iconst 3, 1) := by decide +kernel
theorem dIC00_8 : decode prog_3_method_8_code 8 = .ok (.iadd, 1) := by decide +kernel
theorem dIC00_9 : decode prog_3_method_8_code 9 = .ok (.iaload, 1) := by decide +kernel
theorem dIC00_10 : decode prog_3_method_8_code 10 = .ok (.ifCond .ge 7, 3) := by decide +kernel
theorem dIC00_13 : decode prog_3_method_8_code 13 = .ok (.iconst 1, 1) := by decide +kernel
theorem dIC00_14 : decode prog_3_method_8_code 14 = .ok (.goto 4, 3) := by decide +kernel
theorem dIC00_17 : decode prog_3_method_8_code 17 = .ok (.iconst 0, 1) := by decide +kernel
theorem dIC00_18 : decode prog_3_method_8_code 18 = .ok (.ireturn, 1) := by decide +kernel
set_option maxRecDepth 65536 in
set_option maxHeartbeats 40000000 in
theorem rmIC00 {l : Launch} {Z : State} {a0 : Array Value} {n0 : Nat} (X : Ctx Z a0) {x t : Addr} {kt : ClassId} {r0 r1 r2 r3 r4 r5 r6 r7 r8 r9 r10 r11 r12 r13 r14 : Int32} {h : Heap} (hO : Old Z n0 h) (Ex : Exa Z h x "com/example/nodewarden/nodewarden/core/Asides") (Fb : Fld Z h x "com/example/nodewarden/nodewarden/core/Asides" "table" "[I" (.ref t)) (Vt : Arv Z h t kt .int (80 : Int32) [(.int r0), (.int r1), (.int r2), (.int r3), (.int r4), (.int r5), (.int r6), (.int r7), (.int r8), (.int r9), (.int r10), (.int r11), (.int r12), (.int r13), (.int r14)] (.int (0 : Int32))) :
    Ctr l Z EL1 n0 (⟨"com/example/nodewarden/nodewarden/core/Asides", "isComment", "(I)Z"⟩ : MethodName) prog_3_method_8_code 2 (some .boolean) ({ frames := 0, cells := 0, slots := 0, locals := 0 } : Room) #[(.ref x), (.int (0 : Int32))] h [] (fun v h' => ∃ r : Int32, v = some (.int r) ∧ ((r = 1 ∧ r3 < 0) ∨ (r = 0 ∧ ¬ r3 < 0)) ∧ h' = h) := by
  have hw := X.hw
  obtain ⟨z1, hz1, hz2⟩ := X.2.2.1
  refine Ctr.intro (a0 := a0) (plainFor_of_name pn3) hO X.ew ?_
  intro p e s m below meth c T0 V0 S0 hby hml hret hnm hsf
  rw [ef1]
  refine s_aloadN S0 (hb hby dIC00_0) rfl rfl (pc' := 1) rfl ?_
  refine g_getF S0 (w32 hw) Via.refl Fb (hb hby dIC00_1) ?_
  intro T890 ST890
  show Go p e below _ (T890.setTop (mkF m 4 #[.val (.ref x), .val (.int (0 : Int32))] [(.ref t)]))
  refine s_iloadN ST890 (hb hby dIC00_4) rfl (pc' := 5) rfl ?_
  refine s_iconst ST890 (hb hby dIC00_5) (v := (5 : Int32)) rfl (pc' := 6) rfl ?_
  refine s_imul ST890 (hb hby dIC00_6) (z := (0 : Int32)) rfl (pc' := 7) rfl ?_
  refine s_iconst ST890 (hb hby dIC00_7) (v := (3 : Int32)) rfl (pc' := 8) rfl ?_
  refine s_iadd ST890 (hb hby dIC00_8) (z := (3 : Int32)) rfl (pc' := 9) rfl ?_
  refine g_iaload ST890 Vt ⟨by decide, by decide⟩ (x := r3) rfl (hb hby dIC00_9) ?_
  show Go p e below _ (T890.setTop (mkF m 10 #[.val (.ref x), .val (.int (0 : Int32))] [(.int r3)]))
  refine g_if ST890 (hb hby dIC00_10) (by decide) (pcT := 17) (by decide) (fun q => ?_) (fun q => ?_)
  · have hc10_891 : ¬ r3 < (0 : Int32) := icT_ge q
    show Go p e below _ (T890.setTop (mkF m 17 #[.val (.ref x), .val (.int (0 : Int32))] []))
    refine s_iconst ST890 (hb hby dIC00_17) (v := (0 : Int32)) rfl (pc' := 18) rfl ?_
    show Go p e below _ (T890.setTop (mkF m 18 #[.val (.ref x), .val (.int (0 : Int32))] [(.int (0 : Int32))]))
    exact g_iretN ST890 (hb hby dIC00_18) hret (by simp) ⟨_, rfl, Or.inr ⟨rfl, hc10_891⟩, rfl⟩
  · have hc10_891 : r3 < (0 : Int32) := icF_ge q
    show Go p e below _ (T890.setTop (mkF m 13 #[.val (.ref x), .val (.int (0 : Int32))] []))
    refine s_iconst ST890 (hb hby dIC00_13) (v := (1 : Int32)) rfl (pc' := 14) rfl ?_
    refine s_goto ST890 (hb hby dIC00_14) (by decide) (pcT := 18) (by decide) ?_
    show Go p e below _ (T890.setTop (mkF m 18 #[.val (.ref x), .val (.int (0 : Int32))] [(.int (1 : Int32))]))
    exact g_iretN ST890 (hb hby dIC00_18) hret (by simp) ⟨_, rfl, Or.inl ⟨rfl, hc10_891⟩, rfl⟩
theorem dIC01_0 : decode prog_3_method_8_code 0 = .ok (.aload_n 0, 1) := by decide +kernel
theorem dIC01_1 : decode prog_3_method_8_code 1 = .ok (.getfield 16, 3) := by decide +kernel
theorem dIC01_4 : decode prog_3_method_8_code 4 = .ok (.iload_n 1, 1) := by decide +kernel
theorem dIC01_5 : decode prog_3_method_8_code 5 = .ok (.iconst 5, 1) := by decide +kernel
theorem dIC01_6 : decode prog_3_method_8_code 6 = .ok (.imul, 1) := by decide +kernel
theorem dIC01_7 : decode prog_3_method_8_code 7 = .ok (.iconst 3, 1) := by decide +kernel
theorem dIC01_8 : decode prog_3_method_8_code 8 = .ok (.iadd, 1) := by decide +kernel
theorem dIC01_9 : decode prog_3_method_8_code 9 = .ok (.iaload, 1) := by decide +kernel
theorem dIC01_10 : decode prog_3_method_8_code 10 = .ok (.ifCond .ge 7, 3) := by decide +kernel
theorem dIC01_13 : decode prog_3_method_8_code 13 = .ok (.iconst 1, 1) := by decide +kernel
theorem dIC01_14 : decode prog_3_method_8_code 14 = .ok (.goto 4, 3) := by decide +kernel
theorem dIC01_17 : decode prog_3_method_8_code 17 = .ok (.iconst 0, 1) := by decide +kernel
theorem dIC01_18 : decode prog_3_method_8_code 18 = .ok (.ireturn, 1) := by decide +kernel
set_option maxRecDepth 65536 in
set_option maxHeartbeats 40000000 in
theorem rmIC01 {l : Launch} {Z : State} {a0 : Array Value} {n0 : Nat} (X : Ctx Z a0) {x t : Addr} {kt : ClassId} {r0 r1 r2 r3 r4 r5 r6 r7 r8 r9 r10 r11 r12 r13 r14 : Int32} {h : Heap} (hO : Old Z n0 h) (Ex : Exa Z h x "com/example/nodewarden/nodewarden/core/Asides") (Fb : Fld Z h x "com/example/nodewarden/nodewarden/core/Asides" "table" "[I" (.ref t)) (Vt : Arv Z h t kt .int (15 : Int32) [(.int r0), (.int r1), (.int r2), (.int r3), (.int r4), (.int r5), (.int r6), (.int r7), (.int r8), (.int r9), (.int r10), (.int r11), (.int r12), (.int r13), (.int r14)] (.int (0 : Int32))) :
    Ctr l Z EL1 n0 (⟨"com/example/nodewarden/nodewarden/core/Asides", "isComment", "(I)Z"⟩ : MethodName) prog_3_method_8_code 2 (some .boolean) ({ frames := 0, cells := 0, slots := 0, locals := 0 } : Room) #[(.ref x), (.int (0 : Int32))] h [] (fun v h' => ∃ r : Int32, v = some (.int r) ∧ ((r = 1 ∧ r3 < 0) ∨ (r = 0 ∧ ¬ r3 < 0)) ∧ h' = h) := by
  have hw := X.hw
  obtain ⟨z1, hz1, hz2⟩ := X.2.2.1
  refine Ctr.intro (a0 := a0) (plainFor_of_name pn3) hO X.ew ?_
  intro p e s m below meth c T0 V0 S0 hby hml hret hnm hsf
  rw [ef1]
  refine s_aloadN S0 (hb hby dIC01_0) rfl rfl (pc' := 1) rfl ?_
  refine g_getF S0 (w32 hw) Via.refl Fb (hb hby dIC01_1) ?_
  intro T892 ST892
  show Go p e below _ (T892.setTop (mkF m 4 #[.val (.ref x), .val (.int (0 : Int32))] [(.ref t)]))
  refine s_iloadN ST892 (hb hby dIC01_4) rfl (pc' := 5) rfl ?_
  refine s_iconst ST892 (hb hby dIC01_5) (v := (5 : Int32)) rfl (pc' := 6) rfl ?_
  refine s_imul ST892 (hb hby dIC01_6) (z := (0 : Int32)) rfl (pc' := 7) rfl ?_
  refine s_iconst ST892 (hb hby dIC01_7) (v := (3 : Int32)) rfl (pc' := 8) rfl ?_
  refine s_iadd ST892 (hb hby dIC01_8) (z := (3 : Int32)) rfl (pc' := 9) rfl ?_
  refine g_iaload ST892 Vt ⟨by decide, by decide⟩ (x := r3) rfl (hb hby dIC01_9) ?_
  show Go p e below _ (T892.setTop (mkF m 10 #[.val (.ref x), .val (.int (0 : Int32))] [(.int r3)]))
  refine g_if ST892 (hb hby dIC01_10) (by decide) (pcT := 17) (by decide) (fun q => ?_) (fun q => ?_)
  · have hc10_893 : ¬ r3 < (0 : Int32) := icT_ge q
    show Go p e below _ (T892.setTop (mkF m 17 #[.val (.ref x), .val (.int (0 : Int32))] []))
    refine s_iconst ST892 (hb hby dIC01_17) (v := (0 : Int32)) rfl (pc' := 18) rfl ?_
    show Go p e below _ (T892.setTop (mkF m 18 #[.val (.ref x), .val (.int (0 : Int32))] [(.int (0 : Int32))]))
    exact g_iretN ST892 (hb hby dIC01_18) hret (by simp) ⟨_, rfl, Or.inr ⟨rfl, hc10_893⟩, rfl⟩
  · have hc10_893 : r3 < (0 : Int32) := icF_ge q
    show Go p e below _ (T892.setTop (mkF m 13 #[.val (.ref x), .val (.int (0 : Int32))] []))
    refine s_iconst ST892 (hb hby dIC01_13) (v := (1 : Int32)) rfl (pc' := 14) rfl ?_
    refine s_goto ST892 (hb hby dIC01_14) (by decide) (pcT := 18) (by decide) ?_
    show Go p e below _ (T892.setTop (mkF m 18 #[.val (.ref x), .val (.int (0 : Int32))] [(.int (1 : Int32))]))
    exact g_iretN ST892 (hb hby dIC01_18) hret (by simp) ⟨_, rfl, Or.inl ⟨rfl, hc10_893⟩, rfl⟩
theorem dIC10_0 : decode prog_3_method_8_code 0 = .ok (.aload_n 0, 1) := by decide +kernel
theorem dIC10_1 : decode prog_3_method_8_code 1 = .ok (.getfield 16, 3) := by decide +kernel
theorem dIC10_4 : decode prog_3_method_8_code 4 = .ok (.iload_n 1, 1) := by decide +kernel
theorem dIC10_5 : decode prog_3_method_8_code 5 = .ok (.iconst 5, 1) := by decide +kernel
theorem dIC10_6 : decode prog_3_method_8_code 6 = .ok (.imul, 1) := by decide +kernel
theorem dIC10_7 : decode prog_3_method_8_code 7 = .ok (.iconst 3, 1) := by decide +kernel
theorem dIC10_8 : decode prog_3_method_8_code 8 = .ok (.iadd, 1) := by decide +kernel
theorem dIC10_9 : decode prog_3_method_8_code 9 = .ok (.iaload, 1) := by decide +kernel
theorem dIC10_10 : decode prog_3_method_8_code 10 = .ok (.ifCond .ge 7, 3) := by decide +kernel
theorem dIC10_13 : decode prog_3_method_8_code 13 = .ok (.iconst 1, 1) := by decide +kernel
theorem dIC10_14 : decode prog_3_method_8_code 14 = .ok (.goto 4, 3) := by decide +kernel
theorem dIC10_17 : decode prog_3_method_8_code 17 = .ok (.iconst 0, 1) := by decide +kernel
theorem dIC10_18 : decode prog_3_method_8_code 18 = .ok (.ireturn, 1) := by decide +kernel
set_option maxRecDepth 65536 in
set_option maxHeartbeats 40000000 in
theorem rmIC10 {l : Launch} {Z : State} {a0 : Array Value} {n0 : Nat} (X : Ctx Z a0) {x t : Addr} {kt : ClassId} {r0 r1 r2 r3 r4 r5 r6 r7 r8 r9 r10 r11 r12 r13 r14 : Int32} {h : Heap} (hO : Old Z n0 h) (Ex : Exa Z h x "com/example/nodewarden/nodewarden/core/Asides") (Fb : Fld Z h x "com/example/nodewarden/nodewarden/core/Asides" "table" "[I" (.ref t)) (Vt : Arv Z h t kt .int (80 : Int32) [(.int r0), (.int r1), (.int r2), (.int r3), (.int r4), (.int r5), (.int r6), (.int r7), (.int r8), (.int r9), (.int r10), (.int r11), (.int r12), (.int r13), (.int r14)] (.int (0 : Int32))) :
    Ctr l Z EL1 n0 (⟨"com/example/nodewarden/nodewarden/core/Asides", "isComment", "(I)Z"⟩ : MethodName) prog_3_method_8_code 2 (some .boolean) ({ frames := 0, cells := 0, slots := 0, locals := 0 } : Room) #[(.ref x), (.int (1 : Int32))] h [] (fun v h' => ∃ r : Int32, v = some (.int r) ∧ ((r = 1 ∧ r8 < 0) ∨ (r = 0 ∧ ¬ r8 < 0)) ∧ h' = h) := by
  have hw := X.hw
  obtain ⟨z1, hz1, hz2⟩ := X.2.2.1
  refine Ctr.intro (a0 := a0) (plainFor_of_name pn3) hO X.ew ?_
  intro p e s m below meth c T0 V0 S0 hby hml hret hnm hsf
  rw [ef1]
  refine s_aloadN S0 (hb hby dIC10_0) rfl rfl (pc' := 1) rfl ?_
  refine g_getF S0 (w32 hw) Via.refl Fb (hb hby dIC10_1) ?_
  intro T894 ST894
  show Go p e below _ (T894.setTop (mkF m 4 #[.val (.ref x), .val (.int (1 : Int32))] [(.ref t)]))
  refine s_iloadN ST894 (hb hby dIC10_4) rfl (pc' := 5) rfl ?_
  refine s_iconst ST894 (hb hby dIC10_5) (v := (5 : Int32)) rfl (pc' := 6) rfl ?_
  refine s_imul ST894 (hb hby dIC10_6) (z := (5 : Int32)) rfl (pc' := 7) rfl ?_
  refine s_iconst ST894 (hb hby dIC10_7) (v := (3 : Int32)) rfl (pc' := 8) rfl ?_
  refine s_iadd ST894 (hb hby dIC10_8) (z := (8 : Int32)) rfl (pc' := 9) rfl ?_
  refine g_iaload ST894 Vt ⟨by decide, by decide⟩ (x := r8) rfl (hb hby dIC10_9) ?_
  show Go p e below _ (T894.setTop (mkF m 10 #[.val (.ref x), .val (.int (1 : Int32))] [(.int r8)]))
  refine g_if ST894 (hb hby dIC10_10) (by decide) (pcT := 17) (by decide) (fun q => ?_) (fun q => ?_)
  · have hc10_895 : ¬ r8 < (0 : Int32) := icT_ge q
    show Go p e below _ (T894.setTop (mkF m 17 #[.val (.ref x), .val (.int (1 : Int32))] []))
    refine s_iconst ST894 (hb hby dIC10_17) (v := (0 : Int32)) rfl (pc' := 18) rfl ?_
    show Go p e below _ (T894.setTop (mkF m 18 #[.val (.ref x), .val (.int (1 : Int32))] [(.int (0 : Int32))]))
    exact g_iretN ST894 (hb hby dIC10_18) hret (by simp) ⟨_, rfl, Or.inr ⟨rfl, hc10_895⟩, rfl⟩
  · have hc10_895 : r8 < (0 : Int32) := icF_ge q
    show Go p e below _ (T894.setTop (mkF m 13 #[.val (.ref x), .val (.int (1 : Int32))] []))
    refine s_iconst ST894 (hb hby dIC10_13) (v := (1 : Int32)) rfl (pc' := 14) rfl ?_
    refine s_goto ST894 (hb hby dIC10_14) (by decide) (pcT := 18) (by decide) ?_
    show Go p e below _ (T894.setTop (mkF m 18 #[.val (.ref x), .val (.int (1 : Int32))] [(.int (1 : Int32))]))
    exact g_iretN ST894 (hb hby dIC10_18) hret (by simp) ⟨_, rfl, Or.inl ⟨rfl, hc10_895⟩, rfl⟩
theorem dIC11_0 : decode prog_3_method_8_code 0 = .ok (.aload_n 0, 1) := by decide +kernel
theorem dIC11_1 : decode prog_3_method_8_code 1 = .ok (.getfield 16, 3) := by decide +kernel
theorem dIC11_4 : decode prog_3_method_8_code 4 = .ok (.iload_n 1, 1) := by decide +kernel
theorem dIC11_5 : decode prog_3_method_8_code 5 = .ok (.iconst 5, 1) := by decide +kernel
theorem dIC11_6 : decode prog_3_method_8_code 6 = .ok (.imul, 1) := by decide +kernel
theorem dIC11_7 : decode prog_3_method_8_code 7 = .ok (.iconst 3, 1) := by decide +kernel
theorem dIC11_8 : decode prog_3_method_8_code 8 = .ok (.iadd, 1) := by decide +kernel
theorem dIC11_9 : decode prog_3_method_8_code 9 = .ok (.iaload, 1) := by decide +kernel
theorem dIC11_10 : decode prog_3_method_8_code 10 = .ok (.ifCond .ge 7, 3) := by decide +kernel
theorem dIC11_13 : decode prog_3_method_8_code 13 = .ok (.iconst 1, 1) := by decide +kernel
theorem dIC11_14 : decode prog_3_method_8_code 14 = .ok (.goto 4, 3) := by decide +kernel
theorem dIC11_17 : decode prog_3_method_8_code 17 = .ok (.iconst 0, 1) := by decide +kernel
theorem dIC11_18 : decode prog_3_method_8_code 18 = .ok (.ireturn, 1) := by decide +kernel
set_option maxRecDepth 65536 in
set_option maxHeartbeats 40000000 in
theorem rmIC11 {l : Launch} {Z : State} {a0 : Array Value} {n0 : Nat} (X : Ctx Z a0) {x t : Addr} {kt : ClassId} {r0 r1 r2 r3 r4 r5 r6 r7 r8 r9 r10 r11 r12 r13 r14 : Int32} {h : Heap} (hO : Old Z n0 h) (Ex : Exa Z h x "com/example/nodewarden/nodewarden/core/Asides") (Fb : Fld Z h x "com/example/nodewarden/nodewarden/core/Asides" "table" "[I" (.ref t)) (Vt : Arv Z h t kt .int (15 : Int32) [(.int r0), (.int r1), (.int r2), (.int r3), (.int r4), (.int r5), (.int r6), (.int r7), (.int r8), (.int r9), (.int r10), (.int r11), (.int r12), (.int r13), (.int r14)] (.int (0 : Int32))) :
    Ctr l Z EL1 n0 (⟨"com/example/nodewarden/nodewarden/core/Asides", "isComment", "(I)Z"⟩ : MethodName) prog_3_method_8_code 2 (some .boolean) ({ frames := 0, cells := 0, slots := 0, locals := 0 } : Room) #[(.ref x), (.int (1 : Int32))] h [] (fun v h' => ∃ r : Int32, v = some (.int r) ∧ ((r = 1 ∧ r8 < 0) ∨ (r = 0 ∧ ¬ r8 < 0)) ∧ h' = h) := by
  have hw := X.hw
  obtain ⟨z1, hz1, hz2⟩ := X.2.2.1
  refine Ctr.intro (a0 := a0) (plainFor_of_name pn3) hO X.ew ?_
  intro p e s m below meth c T0 V0 S0 hby hml hret hnm hsf
  rw [ef1]
  refine s_aloadN S0 (hb hby dIC11_0) rfl rfl (pc' := 1) rfl ?_
  refine g_getF S0 (w32 hw) Via.refl Fb (hb hby dIC11_1) ?_
  intro T896 ST896
  show Go p e below _ (T896.setTop (mkF m 4 #[.val (.ref x), .val (.int (1 : Int32))] [(.ref t)]))
  refine s_iloadN ST896 (hb hby dIC11_4) rfl (pc' := 5) rfl ?_
  refine s_iconst ST896 (hb hby dIC11_5) (v := (5 : Int32)) rfl (pc' := 6) rfl ?_
  refine s_imul ST896 (hb hby dIC11_6) (z := (5 : Int32)) rfl (pc' := 7) rfl ?_
  refine s_iconst ST896 (hb hby dIC11_7) (v := (3 : Int32)) rfl (pc' := 8) rfl ?_
  refine s_iadd ST896 (hb hby dIC11_8) (z := (8 : Int32)) rfl (pc' := 9) rfl ?_
  refine g_iaload ST896 Vt ⟨by decide, by decide⟩ (x := r8) rfl (hb hby dIC11_9) ?_
  show Go p e below _ (T896.setTop (mkF m 10 #[.val (.ref x), .val (.int (1 : Int32))] [(.int r8)]))
  refine g_if ST896 (hb hby dIC11_10) (by decide) (pcT := 17) (by decide) (fun q => ?_) (fun q => ?_)
  · have hc10_897 : ¬ r8 < (0 : Int32) := icT_ge q
    show Go p e below _ (T896.setTop (mkF m 17 #[.val (.ref x), .val (.int (1 : Int32))] []))
    refine s_iconst ST896 (hb hby dIC11_17) (v := (0 : Int32)) rfl (pc' := 18) rfl ?_
    show Go p e below _ (T896.setTop (mkF m 18 #[.val (.ref x), .val (.int (1 : Int32))] [(.int (0 : Int32))]))
    exact g_iretN ST896 (hb hby dIC11_18) hret (by simp) ⟨_, rfl, Or.inr ⟨rfl, hc10_897⟩, rfl⟩
  · have hc10_897 : r8 < (0 : Int32) := icF_ge q
    show Go p e below _ (T896.setTop (mkF m 13 #[.val (.ref x), .val (.int (1 : Int32))] []))
    refine s_iconst ST896 (hb hby dIC11_13) (v := (1 : Int32)) rfl (pc' := 14) rfl ?_
    refine s_goto ST896 (hb hby dIC11_14) (by decide) (pcT := 18) (by decide) ?_
    show Go p e below _ (T896.setTop (mkF m 18 #[.val (.ref x), .val (.int (1 : Int32))] [(.int (1 : Int32))]))
    exact g_iretN ST896 (hb hby dIC11_18) hret (by simp) ⟨_, rfl, Or.inl ⟨rfl, hc10_897⟩, rfl⟩
theorem dIC20_0 : decode prog_3_method_8_code 0 = .ok (.aload_n 0, 1) := by decide +kernel
theorem dIC20_1 : decode prog_3_method_8_code 1 = .ok (.getfield 16, 3) := by decide +kernel
theorem dIC20_4 : decode prog_3_method_8_code 4 = .ok (.iload_n 1, 1) := by decide +kernel
theorem dIC20_5 : decode prog_3_method_8_code 5 = .ok (.iconst 5, 1) := by decide +kernel
theorem dIC20_6 : decode prog_3_method_8_code 6 = .ok (.imul, 1) := by decide +kernel
theorem dIC20_7 : decode prog_3_method_8_code 7 = .ok (.iconst 3, 1) := by decide +kernel
theorem dIC20_8 : decode prog_3_method_8_code 8 = .ok (.iadd, 1) := by decide +kernel
theorem dIC20_9 : decode prog_3_method_8_code 9 = .ok (.iaload, 1) := by decide +kernel
theorem dIC20_10 : decode prog_3_method_8_code 10 = .ok (.ifCond .ge 7, 3) := by decide +kernel
theorem dIC20_13 : decode prog_3_method_8_code 13 = .ok (.iconst 1, 1) := by decide +kernel
theorem dIC20_14 : decode prog_3_method_8_code 14 = .ok (.goto 4, 3) := by decide +kernel
theorem dIC20_17 : decode prog_3_method_8_code 17 = .ok (.iconst 0, 1) := by decide +kernel
theorem dIC20_18 : decode prog_3_method_8_code 18 = .ok (.ireturn, 1) := by decide +kernel
set_option maxRecDepth 65536 in
set_option maxHeartbeats 40000000 in
theorem rmIC20 {l : Launch} {Z : State} {a0 : Array Value} {n0 : Nat} (X : Ctx Z a0) {x t : Addr} {kt : ClassId} {r0 r1 r2 r3 r4 r5 r6 r7 r8 r9 r10 r11 r12 r13 r14 : Int32} {h : Heap} (hO : Old Z n0 h) (Ex : Exa Z h x "com/example/nodewarden/nodewarden/core/Asides") (Fb : Fld Z h x "com/example/nodewarden/nodewarden/core/Asides" "table" "[I" (.ref t)) (Vt : Arv Z h t kt .int (80 : Int32) [(.int r0), (.int r1), (.int r2), (.int r3), (.int r4), (.int r5), (.int r6), (.int r7), (.int r8), (.int r9), (.int r10), (.int r11), (.int r12), (.int r13), (.int r14)] (.int (0 : Int32))) :
    Ctr l Z EL1 n0 (⟨"com/example/nodewarden/nodewarden/core/Asides", "isComment", "(I)Z"⟩ : MethodName) prog_3_method_8_code 2 (some .boolean) ({ frames := 0, cells := 0, slots := 0, locals := 0 } : Room) #[(.ref x), (.int (2 : Int32))] h [] (fun v h' => ∃ r : Int32, v = some (.int r) ∧ ((r = 1 ∧ r13 < 0) ∨ (r = 0 ∧ ¬ r13 < 0)) ∧ h' = h) := by
  have hw := X.hw
  obtain ⟨z1, hz1, hz2⟩ := X.2.2.1
  refine Ctr.intro (a0 := a0) (plainFor_of_name pn3) hO X.ew ?_
  intro p e s m below meth c T0 V0 S0 hby hml hret hnm hsf
  rw [ef1]
  refine s_aloadN S0 (hb hby dIC20_0) rfl rfl (pc' := 1) rfl ?_
  refine g_getF S0 (w32 hw) Via.refl Fb (hb hby dIC20_1) ?_
  intro T898 ST898
  show Go p e below _ (T898.setTop (mkF m 4 #[.val (.ref x), .val (.int (2 : Int32))] [(.ref t)]))
  refine s_iloadN ST898 (hb hby dIC20_4) rfl (pc' := 5) rfl ?_
  refine s_iconst ST898 (hb hby dIC20_5) (v := (5 : Int32)) rfl (pc' := 6) rfl ?_
  refine s_imul ST898 (hb hby dIC20_6) (z := (10 : Int32)) rfl (pc' := 7) rfl ?_
  refine s_iconst ST898 (hb hby dIC20_7) (v := (3 : Int32)) rfl (pc' := 8) rfl ?_
  refine s_iadd ST898 (hb hby dIC20_8) (z := (13 : Int32)) rfl (pc' := 9) rfl ?_
  refine g_iaload ST898 Vt ⟨by decide, by decide⟩ (x := r13) rfl (hb hby dIC20_9) ?_
  show Go p e below _ (T898.setTop (mkF m 10 #[.val (.ref x), .val (.int (2 : Int32))] [(.int r13)]))
  refine g_if ST898 (hb hby dIC20_10) (by decide) (pcT := 17) (by decide) (fun q => ?_) (fun q => ?_)
  · have hc10_899 : ¬ r13 < (0 : Int32) := icT_ge q
    show Go p e below _ (T898.setTop (mkF m 17 #[.val (.ref x), .val (.int (2 : Int32))] []))
    refine s_iconst ST898 (hb hby dIC20_17) (v := (0 : Int32)) rfl (pc' := 18) rfl ?_
    show Go p e below _ (T898.setTop (mkF m 18 #[.val (.ref x), .val (.int (2 : Int32))] [(.int (0 : Int32))]))
    exact g_iretN ST898 (hb hby dIC20_18) hret (by simp) ⟨_, rfl, Or.inr ⟨rfl, hc10_899⟩, rfl⟩
  · have hc10_899 : r13 < (0 : Int32) := icF_ge q
    show Go p e below _ (T898.setTop (mkF m 13 #[.val (.ref x), .val (.int (2 : Int32))] []))
    refine s_iconst ST898 (hb hby dIC20_13) (v := (1 : Int32)) rfl (pc' := 14) rfl ?_
    refine s_goto ST898 (hb hby dIC20_14) (by decide) (pcT := 18) (by decide) ?_
    show Go p e below _ (T898.setTop (mkF m 18 #[.val (.ref x), .val (.int (2 : Int32))] [(.int (1 : Int32))]))
    exact g_iretN ST898 (hb hby dIC20_18) hret (by simp) ⟨_, rfl, Or.inl ⟨rfl, hc10_899⟩, rfl⟩
theorem dIC21_0 : decode prog_3_method_8_code 0 = .ok (.aload_n 0, 1) := by decide +kernel
theorem dIC21_1 : decode prog_3_method_8_code 1 = .ok (.getfield 16, 3) := by decide +kernel
theorem dIC21_4 : decode prog_3_method_8_code 4 = .ok (.iload_n 1, 1) := by decide +kernel
theorem dIC21_5 : decode prog_3_method_8_code 5 = .ok (.iconst 5, 1) := by decide +kernel
theorem dIC21_6 : decode prog_3_method_8_code 6 = .ok (.imul, 1) := by decide +kernel
theorem dIC21_7 : decode prog_3_method_8_code 7 = .ok (.iconst 3, 1) := by decide +kernel
theorem dIC21_8 : decode prog_3_method_8_code 8 = .ok (.iadd, 1) := by decide +kernel
theorem dIC21_9 : decode prog_3_method_8_code 9 = .ok (.iaload, 1) := by decide +kernel
theorem dIC21_10 : decode prog_3_method_8_code 10 = .ok (.ifCond .ge 7, 3) := by decide +kernel
theorem dIC21_13 : decode prog_3_method_8_code 13 = .ok (.iconst 1, 1) := by decide +kernel
theorem dIC21_14 : decode prog_3_method_8_code 14 = .ok (.goto 4, 3) := by decide +kernel
theorem dIC21_17 : decode prog_3_method_8_code 17 = .ok (.iconst 0, 1) := by decide +kernel
theorem dIC21_18 : decode prog_3_method_8_code 18 = .ok (.ireturn, 1) := by decide +kernel
set_option maxRecDepth 65536 in
set_option maxHeartbeats 40000000 in
theorem rmIC21 {l : Launch} {Z : State} {a0 : Array Value} {n0 : Nat} (X : Ctx Z a0) {x t : Addr} {kt : ClassId} {r0 r1 r2 r3 r4 r5 r6 r7 r8 r9 r10 r11 r12 r13 r14 : Int32} {h : Heap} (hO : Old Z n0 h) (Ex : Exa Z h x "com/example/nodewarden/nodewarden/core/Asides") (Fb : Fld Z h x "com/example/nodewarden/nodewarden/core/Asides" "table" "[I" (.ref t)) (Vt : Arv Z h t kt .int (15 : Int32) [(.int r0), (.int r1), (.int r2), (.int r3), (.int r4), (.int r5), (.int r6), (.int r7), (.int r8), (.int r9), (.int r10), (.int r11), (.int r12), (.int r13), (.int r14)] (.int (0 : Int32))) :
    Ctr l Z EL1 n0 (⟨"com/example/nodewarden/nodewarden/core/Asides", "isComment", "(I)Z"⟩ : MethodName) prog_3_method_8_code 2 (some .boolean) ({ frames := 0, cells := 0, slots := 0, locals := 0 } : Room) #[(.ref x), (.int (2 : Int32))] h [] (fun v h' => ∃ r : Int32, v = some (.int r) ∧ ((r = 1 ∧ r13 < 0) ∨ (r = 0 ∧ ¬ r13 < 0)) ∧ h' = h) := by
  have hw := X.hw
  obtain ⟨z1, hz1, hz2⟩ := X.2.2.1
  refine Ctr.intro (a0 := a0) (plainFor_of_name pn3) hO X.ew ?_
  intro p e s m below meth c T0 V0 S0 hby hml hret hnm hsf
  rw [ef1]
  refine s_aloadN S0 (hb hby dIC21_0) rfl rfl (pc' := 1) rfl ?_
  refine g_getF S0 (w32 hw) Via.refl Fb (hb hby dIC21_1) ?_
  intro T900 ST900
  show Go p e below _ (T900.setTop (mkF m 4 #[.val (.ref x), .val (.int (2 : Int32))] [(.ref t)]))
  refine s_iloadN ST900 (hb hby dIC21_4) rfl (pc' := 5) rfl ?_
  refine s_iconst ST900 (hb hby dIC21_5) (v := (5 : Int32)) rfl (pc' := 6) rfl ?_
  refine s_imul ST900 (hb hby dIC21_6) (z := (10 : Int32)) rfl (pc' := 7) rfl ?_
  refine s_iconst ST900 (hb hby dIC21_7) (v := (3 : Int32)) rfl (pc' := 8) rfl ?_
  refine s_iadd ST900 (hb hby dIC21_8) (z := (13 : Int32)) rfl (pc' := 9) rfl ?_
  refine g_iaload ST900 Vt ⟨by decide, by decide⟩ (x := r13) rfl (hb hby dIC21_9) ?_
  show Go p e below _ (T900.setTop (mkF m 10 #[.val (.ref x), .val (.int (2 : Int32))] [(.int r13)]))
  refine g_if ST900 (hb hby dIC21_10) (by decide) (pcT := 17) (by decide) (fun q => ?_) (fun q => ?_)
  · have hc10_901 : ¬ r13 < (0 : Int32) := icT_ge q
    show Go p e below _ (T900.setTop (mkF m 17 #[.val (.ref x), .val (.int (2 : Int32))] []))
    refine s_iconst ST900 (hb hby dIC21_17) (v := (0 : Int32)) rfl (pc' := 18) rfl ?_
    show Go p e below _ (T900.setTop (mkF m 18 #[.val (.ref x), .val (.int (2 : Int32))] [(.int (0 : Int32))]))
    exact g_iretN ST900 (hb hby dIC21_18) hret (by simp) ⟨_, rfl, Or.inr ⟨rfl, hc10_901⟩, rfl⟩
  · have hc10_901 : r13 < (0 : Int32) := icF_ge q
    show Go p e below _ (T900.setTop (mkF m 13 #[.val (.ref x), .val (.int (2 : Int32))] []))
    refine s_iconst ST900 (hb hby dIC21_13) (v := (1 : Int32)) rfl (pc' := 14) rfl ?_
    refine s_goto ST900 (hb hby dIC21_14) (by decide) (pcT := 18) (by decide) ?_
    show Go p e below _ (T900.setTop (mkF m 18 #[.val (.ref x), .val (.int (2 : Int32))] [(.int (1 : Int32))]))
    exact g_iretN ST900 (hb hby dIC21_18) hret (by simp) ⟨_, rfl, Or.inl ⟨rfl, hc10_901⟩, rfl⟩
end Jvm.Pilot.@@N@@

namespace Jvm.Pilot.@@N@@
open Jvm Jvm.ClassFile Sem Op Lib Jvm.Free Jvm.Stand Jvm.LawKit Jvm.RoadKit Jvm.OwnKit Bundle Jvm.Pilot.@@N@@.Jvm.D
set_option maxRecDepth 65536 in
set_option maxHeartbeats 40000000 in
theorem rmL {l : Launch} {Z : State} {a0 : Array Value} {n0 : Nat} (X : Ctx Z a0) (k_ pa pi of ch ln_ : Int32) {h : Heap} (hO : Old Z n0 h)  :
    Ctr l Z EL1 n0 x code maxLocals ret room_1 #[(.int k_), (.int pa), (.int pi), (.int of), (.int ch), (.int ln_)] h [] (fun v h' => v = some (.int 1) ∧ True) := by
  have hw := X.hw
  obtain ⟨z1, hz1, hz2⟩ := X.2.2.1
  refine Ctr.intro (a0 := a0) (plainFor_of_name pn7) hO X.ew ?_
  intro p e s m below meth c T0 V0 S0 hby hml hret hnm hsf
  rw [ef20]
  have K902 : ∀ f0_ : Int32, (f0_ = 1 ∨ f0_ = 0) → Go p e below (Fini Z EL1 n0 s room_1 (fun v h' => v = some (.int 1) ∧ True)) (T0.setTop (mkF m 11 #[.val (.int k_), .val (.int pa), .val (.int pi), .val (.int of), .val (.int ch), .val (.int ln_), .unset, .unset, .unset, .unset, .unset] [(.int f0_)])) := by
    intro f0_ hf0_
    show Go p e below _ (T0.setTop (mkF m 11 #[.val (.int k_), .val (.int pa), .val (.int pi), .val (.int of), .val (.int ch), .val (.int ln_), .unset, .unset, .unset, .unset, .unset] [(.int f0_)]))
    refine s_istore S0 (hb hby at_11) (L' := #[.val (.int k_), .val (.int pa), .val (.int pi), .val (.int of), .val (.int ch), .val (.int ln_), .val (.int f0_), .unset, .unset, .unset, .unset]) rfl (pc' := 13) rfl ?_
    have K903 : ∀ f1_ : Int32, (f1_ = 1 ∨ f1_ = 0) → Go p e below (Fini Z EL1 n0 s room_1 (fun v h' => v = some (.int 1) ∧ True)) (T0.setTop (mkF m 24 #[.val (.int k_), .val (.int pa), .val (.int pi), .val (.int of), .val (.int ch), .val (.int ln_), .val (.int f0_), .unset, .unset, .unset, .unset] [(.int f1_)])) := by
      intro f1_ hf1_
      show Go p e below _ (T0.setTop (mkF m 24 #[.val (.int k_), .val (.int pa), .val (.int pi), .val (.int of), .val (.int ch), .val (.int ln_), .val (.int f0_), .unset, .unset, .unset, .unset] [(.int f1_)]))
      refine s_istore S0 (hb hby at_24) (L' := #[.val (.int k_), .val (.int pa), .val (.int pi), .val (.int of), .val (.int ch), .val (.int ln_), .val (.int f0_), .val (.int f1_), .unset, .unset, .unset]) rfl (pc' := 26) rfl ?_
      have K904 : ∀ f2_ : Int32, (f2_ = 1 ∨ f2_ = 0) → Go p e below (Fini Z EL1 n0 s room_1 (fun v h' => v = some (.int 1) ∧ True)) (T0.setTop (mkF m 37 #[.val (.int k_), .val (.int pa), .val (.int pi), .val (.int of), .val (.int ch), .val (.int ln_), .val (.int f0_), .val (.int f1_), .unset, .unset, .unset] [(.int f2_)])) := by
        intro f2_ hf2_
        show Go p e below _ (T0.setTop (mkF m 37 #[.val (.int k_), .val (.int pa), .val (.int pi), .val (.int of), .val (.int ch), .val (.int ln_), .val (.int f0_), .val (.int f1_), .unset, .unset, .unset] [(.int f2_)]))
        refine s_istore S0 (hb hby at_37) (L' := #[.val (.int k_), .val (.int pa), .val (.int pi), .val (.int of), .val (.int ch), .val (.int ln_), .val (.int f0_), .val (.int f1_), .val (.int f2_), .unset, .unset]) rfl (pc' := 39) rfl ?_
        have K905 : ∀ f3_ : Int32, (f3_ = 1 ∨ f3_ = 0) → Go p e below (Fini Z EL1 n0 s room_1 (fun v h' => v = some (.int 1) ∧ True)) (T0.setTop (mkF m 51 #[.val (.int k_), .val (.int pa), .val (.int pi), .val (.int of), .val (.int ch), .val (.int ln_), .val (.int f0_), .val (.int f1_), .val (.int f2_), .unset, .unset] [(.int f3_)])) := by
          intro f3_ hf3_
          show Go p e below _ (T0.setTop (mkF m 51 #[.val (.int k_), .val (.int pa), .val (.int pi), .val (.int of), .val (.int ch), .val (.int ln_), .val (.int f0_), .val (.int f1_), .val (.int f2_), .unset, .unset] [(.int f3_)]))
          refine s_istore S0 (hb hby at_51) (L' := #[.val (.int k_), .val (.int pa), .val (.int pi), .val (.int of), .val (.int ch), .val (.int ln_), .val (.int f0_), .val (.int f1_), .val (.int f2_), .val (.int f3_), .unset]) rfl (pc' := 53) rfl ?_
          refine g_new S0 (w0 hw) (w1 hw) (w2 hw) (hb hby at_53) (Nat.le_of_ble_eq_true rfl) (Nat.le_of_ble_eq_true rfl) ?_
          intro T906 h906 b906 S906 E906 fr906 lt906 na906 sf906 A906 D906
          have F907 : Fld Z h906 b906 "com/example/nodewarden/nodewarden/core/Asides" "text" "Ljava/lang/StringBuilder;" .null := D906 (Or.inr (w30 hw)) (ty := (.object "java/lang/StringBuilder")) (by decide)
          have F908 : Fld Z h906 b906 "com/example/nodewarden/nodewarden/core/Asides" "table" "[I" .null := D906 (Or.inl (w33 hw)) (ty := (.array .int)) (by decide)
          have F909 : Fld Z h906 b906 "com/example/nodewarden/nodewarden/core/Asides" "count" "I" (.int (0 : Int32)) := D906 (Or.inl (w136 hw)) (ty := .int) (by decide)
          show Go p e below _ (T906.setTop (mkF m 56 #[.val (.int k_), .val (.int pa), .val (.int pi), .val (.int of), .val (.int ch), .val (.int ln_), .val (.int f0_), .val (.int f1_), .val (.int f2_), .val (.int f3_), .unset] [(.ref b906)]))
          refine s_dup S906 (hb hby at_56) rfl (pc' := 57) rfl ?_
          show Go p e below _ (T906.setTop (mkF m 57 #[.val (.int k_), .val (.int pa), .val (.int pi), .val (.int of), .val (.int ch), .val (.int ln_), .val (.int f0_), .val (.int f1_), .val (.int f2_), .val (.int f3_), .unset] [(.ref b906), (.ref b906)]))
          refine g_special S906 (rmIN X na906 S906.old A906 F907 F908 F909) (fun _ q => nomatch q) rfl (w3 hw) (w4 hw) (w2 hw) (w5 hw) (by decide) (hb hby at_57) (by rw [hml]; rfl) b906 [] (lenOf pd2 rfl) rfl rfl (Nat.le_of_ble_eq_true rfl) (Nat.le_of_ble_eq_true rfl) (Nat.le_of_ble_eq_true rfl) (Nat.le_of_ble_eq_true rfl) ?_
          intro v910 T910 V910 h910 S910 C910 q910
          obtain ⟨rfl, sb, tb, t, kb, kt, K0, A0, sg0, Et0⟩ := q910
          show Go p e below _ (T910.setTop (mkF m 60 #[.val (.int k_), .val (.int pa), .val (.int pi), .val (.int of), .val (.int ch), .val (.int ln_), .val (.int f0_), .val (.int f1_), .val (.int f2_), .val (.int f3_), .unset] [(.ref b906)]))
          refine s_astore S910 (hb hby at_60) rfl (L' := #[.val (.int k_), .val (.int pa), .val (.int pi), .val (.int of), .val (.int ch), .val (.int ln_), .val (.int f0_), .val (.int f1_), .val (.int f2_), .val (.int f3_), .val (.ref b906)]) rfl (pc' := 62) rfl ?_
          refine s_aload S910 (hb hby at_62) rfl rfl (pc' := 64) rfl ?_
          refine s_iload S910 (hb hby at_64) rfl (pc' := 66) rfl ?_
          refine s_iloadN S910 (hb hby at_66) rfl (pc' := 67) rfl ?_
          refine s_iloadN S910 (hb hby at_67) rfl (pc' := 68) rfl ?_
          refine s_iloadN S910 (hb hby at_68) rfl (pc' := 69) rfl ?_
          refine s_iload S910 (hb hby at_69) rfl (pc' := 71) rfl ?_
          refine s_iload S910 (hb hby at_71) rfl (pc' := 73) rfl ?_
          show Go p e below _ (T910.setTop (mkF m 73 #[.val (.int k_), .val (.int pa), .val (.int pi), .val (.int of), .val (.int ch), .val (.int ln_), .val (.int f0_), .val (.int f1_), .val (.int f2_), .val (.int f3_), .val (.ref b906)] [(.int ln_), (.int ch), (.int of), (.int pi), (.int pa), (.int f0_), (.ref b906)]))
          refine g_static S910 (rmLA0 X pa pi of ch ln_ S910.old A0 hf0_ (by decide) (by decide) (by decide)) (sf1 A0.2.2.2.2.2.1.2.2.2.2.lt sg0) (w34 hw) (w35 hw) (w36 hw) (w37 hw) (by decide) (hb hby at_73) (by rw [hml]; rfl) [(.ref b906), (.int f0_), (.int pa), (.int pi), (.int of), (.int ch), (.int ln_)] (lenOf pd25 rfl) rfl rfl (Nat.le_of_ble_eq_true rfl) (Nat.le_of_ble_eq_true rfl) (Nat.le_of_ble_eq_true rfl) (Nat.le_of_ble_eq_true rfl) ?_
          intro v911 T911 V911 h911 S911 C911 q911
          obtain ⟨rfl, u1, ku1, d1, e1, sc1, bs1, A1, hd1, l1, m1, hb1⟩ := q911
          have sg1 := C911.safe A0.2.2.2.2.2.1.2.2.2.2.lt sg0
          replace m1 : sc1.toInt ≤ 4 := by simpa using m1
          have z0 : True := trivial
          show Go p e below _ (T911.setTop (mkF m 76 #[.val (.int k_), .val (.int pa), .val (.int pi), .val (.int of), .val (.int ch), .val (.int ln_), .val (.int f0_), .val (.int f1_), .val (.int f2_), .val (.int f3_), .val (.ref b906)] []))
          refine s_aload S911 (hb hby at_76) rfl rfl (pc' := 78) rfl ?_
          refine s_iload S911 (hb hby at_78) rfl (pc' := 80) rfl ?_
          refine s_iloadN S911 (hb hby at_80) rfl (pc' := 81) rfl ?_
          refine s_iloadN S911 (hb hby at_81) rfl (pc' := 82) rfl ?_
          refine s_iloadN S911 (hb hby at_82) rfl (pc' := 83) rfl ?_
          refine s_iload S911 (hb hby at_83) rfl (pc' := 85) rfl ?_
          refine s_bipush S911 (hb hby at_85) (v := (8 : Int32)) rfl (pc' := 87) rfl ?_
          refine s_iushr S911 (hb hby at_87) (z := ((ch.toUInt32 >>> ((8 : Int32) &&& 31).toUInt32).toInt32)) rfl (pc' := 88) rfl ?_
          refine s_iload S911 (hb hby at_88) rfl (pc' := 90) rfl ?_
          refine s_iconst S911 (hb hby at_90) (v := (4 : Int32)) rfl (pc' := 91) rfl ?_
          refine s_iushr S911 (hb hby at_91) (z := ((ln_.toUInt32 >>> ((4 : Int32) &&& 31).toUInt32).toInt32)) rfl (pc' := 92) rfl ?_
          show Go p e below _ (T911.setTop (mkF m 92 #[.val (.int k_), .val (.int pa), .val (.int pi), .val (.int of), .val (.int ch), .val (.int ln_), .val (.int f0_), .val (.int f1_), .val (.int f2_), .val (.int f3_), .val (.ref b906)] [(.int ((ln_.toUInt32 >>> ((4 : Int32) &&& 31).toUInt32).toInt32)), (.int ((ch.toUInt32 >>> ((8 : Int32) &&& 31).toUInt32).toInt32)), (.int pa), (.int of), (.int pi), (.int f1_), (.ref b906)]))
          refine g_static S911 (rmLA1 X pi of pa ((ch.toUInt32 >>> ((8 : Int32) &&& 31).toUInt32).toInt32) ((ln_.toUInt32 >>> ((4 : Int32) &&& 31).toUInt32).toInt32) S911.old A1 hf1_ l1 (by omega) hb1) (sf1 A1.2.2.2.2.2.1.2.2.2.2.lt sg1) (w34 hw) (w35 hw) (w36 hw) (w37 hw) (by decide) (hb hby at_92) (by rw [hml]; rfl) [(.ref b906), (.int f1_), (.int pi), (.int of), (.int pa), (.int ((ch.toUInt32 >>> ((8 : Int32) &&& 31).toUInt32).toInt32)), (.int ((ln_.toUInt32 >>> ((4 : Int32) &&& 31).toUInt32).toInt32))] (lenOf pd25 rfl) rfl rfl (Nat.le_of_ble_eq_true rfl) (Nat.le_of_ble_eq_true rfl) (Nat.le_of_ble_eq_true rfl) (Nat.le_of_ble_eq_true rfl) ?_
          intro v912 T912 V912 h912 S912 C912 q912
          obtain ⟨rfl, u2, ku2, d2, e2, sc2, bs2, A2, hd2, l2, m2, hb2⟩ := q912
          have sg2 := C912.safe A1.2.2.2.2.2.1.2.2.2.2.lt sg1
          replace m2 : sc2.toInt ≤ 8 := by omega
          have z1 : True := trivial
          show Go p e below _ (T912.setTop (mkF m 95 #[.val (.int k_), .val (.int pa), .val (.int pi), .val (.int of), .val (.int ch), .val (.int ln_), .val (.int f0_), .val (.int f1_), .val (.int f2_), .val (.int f3_), .val (.ref b906)] []))
          refine s_aload S912 (hb hby at_95) rfl rfl (pc' := 97) rfl ?_
          refine s_iload S912 (hb hby at_97) rfl (pc' := 99) rfl ?_
          refine s_iloadN S912 (hb hby at_99) rfl (pc' := 100) rfl ?_
          refine s_iloadN S912 (hb hby at_100) rfl (pc' := 101) rfl ?_
          refine s_iloadN S912 (hb hby at_101) rfl (pc' := 102) rfl ?_
          refine s_iload S912 (hb hby at_102) rfl (pc' := 104) rfl ?_
          refine s_bipush S912 (hb hby at_104) (v := (16 : Int32)) rfl (pc' := 106) rfl ?_
          refine s_iushr S912 (hb hby at_106) (z := ((ch.toUInt32 >>> ((16 : Int32) &&& 31).toUInt32).toInt32)) rfl (pc' := 107) rfl ?_
          refine s_iload S912 (hb hby at_107) rfl (pc' := 109) rfl ?_
          refine s_bipush S912 (hb hby at_109) (v := (8 : Int32)) rfl (pc' := 111) rfl ?_
          refine s_iushr S912 (hb hby at_111) (z := ((ln_.toUInt32 >>> ((8 : Int32) &&& 31).toUInt32).toInt32)) rfl (pc' := 112) rfl ?_
          show Go p e below _ (T912.setTop (mkF m 112 #[.val (.int k_), .val (.int pa), .val (.int pi), .val (.int of), .val (.int ch), .val (.int ln_), .val (.int f0_), .val (.int f1_), .val (.int f2_), .val (.int f3_), .val (.ref b906)] [(.int ((ln_.toUInt32 >>> ((8 : Int32) &&& 31).toUInt32).toInt32)), (.int ((ch.toUInt32 >>> ((16 : Int32) &&& 31).toUInt32).toInt32)), (.int pi), (.int pa), (.int of), (.int f2_), (.ref b906)]))
          refine g_static S912 (rmLA2 X of pa pi ((ch.toUInt32 >>> ((16 : Int32) &&& 31).toUInt32).toInt32) ((ln_.toUInt32 >>> ((8 : Int32) &&& 31).toUInt32).toInt32) S912.old A2 hf2_ l2 (by omega) hb2) (sf1 A2.2.2.2.2.2.1.2.2.2.2.lt sg2) (w34 hw) (w35 hw) (w36 hw) (w37 hw) (by decide) (hb hby at_112) (by rw [hml]; rfl) [(.ref b906), (.int f2_), (.int of), (.int pa), (.int pi), (.int ((ch.toUInt32 >>> ((16 : Int32) &&& 31).toUInt32).toInt32)), (.int ((ln_.toUInt32 >>> ((8 : Int32) &&& 31).toUInt32).toInt32))] (lenOf pd25 rfl) rfl rfl (Nat.le_of_ble_eq_true rfl) (Nat.le_of_ble_eq_true rfl) (Nat.le_of_ble_eq_true rfl) (Nat.le_of_ble_eq_true rfl) ?_
          intro v913 T913 V913 h913 S913 C913 q913
          obtain ⟨rfl, u3, ku3, d3, e3, sc3, bs3, A3, hd3, l3, m3, hb3⟩ := q913
          have sg3 := C913.safe A2.2.2.2.2.2.1.2.2.2.2.lt sg2
          replace m3 : sc3.toInt ≤ 12 := by omega
          have z2 : True := trivial
          show Go p e below _ (T913.setTop (mkF m 115 #[.val (.int k_), .val (.int pa), .val (.int pi), .val (.int of), .val (.int ch), .val (.int ln_), .val (.int f0_), .val (.int f1_), .val (.int f2_), .val (.int f3_), .val (.ref b906)] []))
          refine s_iload S913 (hb hby at_115) rfl (pc' := 117) rfl ?_
          refine g_if S913 (hb hby at_117) (by decide) (pcT := 125) (by decide) (fun q => ?_) (fun q => ?_)
          · have hc117_914 : f3_ = (0 : Int32) := icT_eq q
            show Go p e below _ (T913.setTop (mkF m 125 #[.val (.int k_), .val (.int pa), .val (.int pi), .val (.int of), .val (.int ch), .val (.int ln_), .val (.int f0_), .val (.int f1_), .val (.int f2_), .val (.int f3_), .val (.ref b906)] []))
            obtain ⟨E9, -, Fb9, Fn9, V9, -⟩ := A3
            refine s_aload S913 (hb hby at_125) rfl rfl (pc' := 127) rfl ?_
            refine s_iconst S913 (hb hby at_127) (v := (0 : Int32)) rfl (pc' := 128) rfl ?_
            show Go p e below _ (T913.setTop (mkF m 128 #[.val (.int k_), .val (.int pa), .val (.int pi), .val (.int of), .val (.int ch), .val (.int ln_), .val (.int f0_), .val (.int f1_), .val (.int f2_), .val (.int f3_), .val (.ref b906)] [(.int (0 : Int32)), (.ref b906)]))
            refine g_virtual S913 (rmIC00 X S913.old E9 Fb9 V9) (fun _ q => nomatch q) (w149 hw) (w150 hw) (w152 hw) (w151 hw) (w2 hw) (w153 hw) (by decide) (fun _ h => notFace_of_selects h) (hb hby at_128) (by rw [hml]; rfl) b906 E9 [(.int (0 : Int32))] (lenOf pd26 rfl) rfl rfl (Nat.le_of_ble_eq_true rfl) (Nat.le_of_ble_eq_true rfl) (Nat.le_of_ble_eq_true rfl) (Nat.le_of_ble_eq_true rfl) ?_
            intro v916 T916 V916 h916 S916 C916 q916
            obtain ⟨g915, rfl, hg915, rfl⟩ := q916
            obtain rfl : f0_ = g915 := own_same hd1 hg915
            show Go p e below _ (T916.setTop (mkF m 131 #[.val (.int k_), .val (.int pa), .val (.int pi), .val (.int of), .val (.int ch), .val (.int ln_), .val (.int f0_), .val (.int f1_), .val (.int f2_), .val (.int f3_), .val (.ref b906)] [(.int f0_)]))
            refine s_iload S916 (hb hby at_131) rfl (pc' := 133) rfl ?_
            refine s_icmpN S916 (hb hby at_133) (by simp [if_icmp.holds]) (pc' := 136) rfl ?_
            refine s_aload S916 (hb hby at_136) rfl rfl (pc' := 138) rfl ?_
            refine s_iconst S916 (hb hby at_138) (v := (1 : Int32)) rfl (pc' := 139) rfl ?_
            show Go p e below _ (T916.setTop (mkF m 139 #[.val (.int k_), .val (.int pa), .val (.int pi), .val (.int of), .val (.int ch), .val (.int ln_), .val (.int f0_), .val (.int f1_), .val (.int f2_), .val (.int f3_), .val (.ref b906)] [(.int (1 : Int32)), (.ref b906)]))
            refine g_virtual S916 (rmIC10 X S916.old E9 Fb9 V9) (fun _ q => nomatch q) (w149 hw) (w150 hw) (w152 hw) (w151 hw) (w2 hw) (w153 hw) (by decide) (fun _ h => notFace_of_selects h) (hb hby at_139) (by rw [hml]; rfl) b906 E9 [(.int (1 : Int32))] (lenOf pd26 rfl) rfl rfl (Nat.le_of_ble_eq_true rfl) (Nat.le_of_ble_eq_true rfl) (Nat.le_of_ble_eq_true rfl) (Nat.le_of_ble_eq_true rfl) ?_
            intro v918 T918 V918 h918 S918 C918 q918
            obtain ⟨g917, rfl, hg917, rfl⟩ := q918
            obtain rfl : f1_ = g917 := own_same hd2 hg917
            show Go p e below _ (T918.setTop (mkF m 142 #[.val (.int k_), .val (.int pa), .val (.int pi), .val (.int of), .val (.int ch), .val (.int ln_), .val (.int f0_), .val (.int f1_), .val (.int f2_), .val (.int f3_), .val (.ref b906)] [(.int f1_)]))
            refine s_iload S918 (hb hby at_142) rfl (pc' := 144) rfl ?_
            refine s_icmpN S918 (hb hby at_144) (by simp [if_icmp.holds]) (pc' := 147) rfl ?_
            refine s_aload S918 (hb hby at_147) rfl rfl (pc' := 149) rfl ?_
            refine s_iconst S918 (hb hby at_149) (v := (2 : Int32)) rfl (pc' := 150) rfl ?_
            show Go p e below _ (T918.setTop (mkF m 150 #[.val (.int k_), .val (.int pa), .val (.int pi), .val (.int of), .val (.int ch), .val (.int ln_), .val (.int f0_), .val (.int f1_), .val (.int f2_), .val (.int f3_), .val (.ref b906)] [(.int (2 : Int32)), (.ref b906)]))
            refine g_virtual S918 (rmIC20 X S918.old E9 Fb9 V9) (fun _ q => nomatch q) (w149 hw) (w150 hw) (w152 hw) (w151 hw) (w2 hw) (w153 hw) (by decide) (fun _ h => notFace_of_selects h) (hb hby at_150) (by rw [hml]; rfl) b906 E9 [(.int (2 : Int32))] (lenOf pd26 rfl) rfl rfl (Nat.le_of_ble_eq_true rfl) (Nat.le_of_ble_eq_true rfl) (Nat.le_of_ble_eq_true rfl) (Nat.le_of_ble_eq_true rfl) ?_
            intro v920 T920 V920 h920 S920 C920 q920
            obtain ⟨g919, rfl, hg919, rfl⟩ := q920
            obtain rfl : f2_ = g919 := own_same hd3 hg919
            show Go p e below _ (T920.setTop (mkF m 153 #[.val (.int k_), .val (.int pa), .val (.int pi), .val (.int of), .val (.int ch), .val (.int ln_), .val (.int f0_), .val (.int f1_), .val (.int f2_), .val (.int f3_), .val (.ref b906)] [(.int f2_)]))
            refine s_iload S920 (hb hby at_153) rfl (pc' := 155) rfl ?_
            refine s_icmpN S920 (hb hby at_155) (by simp [if_icmp.holds]) (pc' := 158) rfl ?_
            refine s_iconst S920 (hb hby at_158) (v := (1 : Int32)) rfl (pc' := 159) rfl ?_
            refine s_goto S920 (hb hby at_159) (by decide) (pcT := 163) (by decide) ?_
            exact g_iretN S920 (hb hby at_163) hret (by simp) ⟨rfl, trivial⟩
          · have hc117_914 : ¬ f3_ = (0 : Int32) := icF_eq q
            show Go p e below _ (T913.setTop (mkF m 120 #[.val (.int k_), .val (.int pa), .val (.int pi), .val (.int of), .val (.int ch), .val (.int ln_), .val (.int f0_), .val (.int f1_), .val (.int f2_), .val (.int f3_), .val (.ref b906)] []))
            refine s_aload S913 (hb hby at_120) rfl rfl (pc' := 122) rfl ?_
            show Go p e below _ (T913.setTop (mkF m 122 #[.val (.int k_), .val (.int pa), .val (.int pi), .val (.int of), .val (.int ch), .val (.int ln_), .val (.int f0_), .val (.int f1_), .val (.int f2_), .val (.int f3_), .val (.ref b906)] [(.ref b906)]))
            refine g_virtual S913 (rmCL3 X S913.old A3 l3 (by omega)) (fun _ q => nomatch q) (w189 hw) (w190 hw) (w192 hw) (w191 hw) (w2 hw) (w193 hw) (by decide) (fun _ h => notFace_of_selects h) (hb hby at_122) (by rw [hml]; rfl) b906 A3.1 [] (lenOf pd2 rfl) rfl rfl (Nat.le_of_ble_eq_true rfl) (Nat.le_of_ble_eq_true rfl) (Nat.le_of_ble_eq_true rfl) (Nat.le_of_ble_eq_true rfl) ?_
            intro v921 T921 V921 h921 S921 C921 q921
            obtain ⟨rfl, u9, ku9, E9, Fb9, Fn9, V9⟩ := q921
            show Go p e below _ (T921.setTop (mkF m 125 #[.val (.int k_), .val (.int pa), .val (.int pi), .val (.int of), .val (.int ch), .val (.int ln_), .val (.int f0_), .val (.int f1_), .val (.int f2_), .val (.int f3_), .val (.ref b906)] []))
            refine s_aload S921 (hb hby at_125) rfl rfl (pc' := 127) rfl ?_
            refine s_iconst S921 (hb hby at_127) (v := (0 : Int32)) rfl (pc' := 128) rfl ?_
            show Go p e below _ (T921.setTop (mkF m 128 #[.val (.int k_), .val (.int pa), .val (.int pi), .val (.int of), .val (.int ch), .val (.int ln_), .val (.int f0_), .val (.int f1_), .val (.int f2_), .val (.int f3_), .val (.ref b906)] [(.int (0 : Int32)), (.ref b906)]))
            refine g_virtual S921 (rmIC01 X S921.old E9 Fb9 V9) (fun _ q => nomatch q) (w149 hw) (w150 hw) (w152 hw) (w151 hw) (w2 hw) (w153 hw) (by decide) (fun _ h => notFace_of_selects h) (hb hby at_128) (by rw [hml]; rfl) b906 E9 [(.int (0 : Int32))] (lenOf pd26 rfl) rfl rfl (Nat.le_of_ble_eq_true rfl) (Nat.le_of_ble_eq_true rfl) (Nat.le_of_ble_eq_true rfl) (Nat.le_of_ble_eq_true rfl) ?_
            intro v923 T923 V923 h923 S923 C923 q923
            obtain ⟨g922, rfl, hg922, rfl⟩ := q923
            obtain rfl : f0_ = g922 := own_same hd1 hg922
            show Go p e below _ (T923.setTop (mkF m 131 #[.val (.int k_), .val (.int pa), .val (.int pi), .val (.int of), .val (.int ch), .val (.int ln_), .val (.int f0_), .val (.int f1_), .val (.int f2_), .val (.int f3_), .val (.ref b906)] [(.int f0_)]))
            refine s_iload S923 (hb hby at_131) rfl (pc' := 133) rfl ?_
            refine s_icmpN S923 (hb hby at_133) (by simp [if_icmp.holds]) (pc' := 136) rfl ?_
            refine s_aload S923 (hb hby at_136) rfl rfl (pc' := 138) rfl ?_
            refine s_iconst S923 (hb hby at_138) (v := (1 : Int32)) rfl (pc' := 139) rfl ?_
            show Go p e below _ (T923.setTop (mkF m 139 #[.val (.int k_), .val (.int pa), .val (.int pi), .val (.int of), .val (.int ch), .val (.int ln_), .val (.int f0_), .val (.int f1_), .val (.int f2_), .val (.int f3_), .val (.ref b906)] [(.int (1 : Int32)), (.ref b906)]))
            refine g_virtual S923 (rmIC11 X S923.old E9 Fb9 V9) (fun _ q => nomatch q) (w149 hw) (w150 hw) (w152 hw) (w151 hw) (w2 hw) (w153 hw) (by decide) (fun _ h => notFace_of_selects h) (hb hby at_139) (by rw [hml]; rfl) b906 E9 [(.int (1 : Int32))] (lenOf pd26 rfl) rfl rfl (Nat.le_of_ble_eq_true rfl) (Nat.le_of_ble_eq_true rfl) (Nat.le_of_ble_eq_true rfl) (Nat.le_of_ble_eq_true rfl) ?_
            intro v925 T925 V925 h925 S925 C925 q925
            obtain ⟨g924, rfl, hg924, rfl⟩ := q925
            obtain rfl : f1_ = g924 := own_same hd2 hg924
            show Go p e below _ (T925.setTop (mkF m 142 #[.val (.int k_), .val (.int pa), .val (.int pi), .val (.int of), .val (.int ch), .val (.int ln_), .val (.int f0_), .val (.int f1_), .val (.int f2_), .val (.int f3_), .val (.ref b906)] [(.int f1_)]))
            refine s_iload S925 (hb hby at_142) rfl (pc' := 144) rfl ?_
            refine s_icmpN S925 (hb hby at_144) (by simp [if_icmp.holds]) (pc' := 147) rfl ?_
            refine s_aload S925 (hb hby at_147) rfl rfl (pc' := 149) rfl ?_
            refine s_iconst S925 (hb hby at_149) (v := (2 : Int32)) rfl (pc' := 150) rfl ?_
            show Go p e below _ (T925.setTop (mkF m 150 #[.val (.int k_), .val (.int pa), .val (.int pi), .val (.int of), .val (.int ch), .val (.int ln_), .val (.int f0_), .val (.int f1_), .val (.int f2_), .val (.int f3_), .val (.ref b906)] [(.int (2 : Int32)), (.ref b906)]))
            refine g_virtual S925 (rmIC21 X S925.old E9 Fb9 V9) (fun _ q => nomatch q) (w149 hw) (w150 hw) (w152 hw) (w151 hw) (w2 hw) (w153 hw) (by decide) (fun _ h => notFace_of_selects h) (hb hby at_150) (by rw [hml]; rfl) b906 E9 [(.int (2 : Int32))] (lenOf pd26 rfl) rfl rfl (Nat.le_of_ble_eq_true rfl) (Nat.le_of_ble_eq_true rfl) (Nat.le_of_ble_eq_true rfl) (Nat.le_of_ble_eq_true rfl) ?_
            intro v927 T927 V927 h927 S927 C927 q927
            obtain ⟨g926, rfl, hg926, rfl⟩ := q927
            obtain rfl : f2_ = g926 := own_same hd3 hg926
            show Go p e below _ (T927.setTop (mkF m 153 #[.val (.int k_), .val (.int pa), .val (.int pi), .val (.int of), .val (.int ch), .val (.int ln_), .val (.int f0_), .val (.int f1_), .val (.int f2_), .val (.int f3_), .val (.ref b906)] [(.int f2_)]))
            refine s_iload S927 (hb hby at_153) rfl (pc' := 155) rfl ?_
            refine s_icmpN S927 (hb hby at_155) (by simp [if_icmp.holds]) (pc' := 158) rfl ?_
            refine s_iconst S927 (hb hby at_158) (v := (1 : Int32)) rfl (pc' := 159) rfl ?_
            refine s_goto S927 (hb hby at_159) (by decide) (pcT := 163) (by decide) ?_
            exact g_iretN S927 (hb hby at_163) hret (by simp) ⟨rfl, trivial⟩
        refine s_iloadN S0 (hb hby at_39) rfl (pc' := 40) rfl ?_
        refine s_bipush S0 (hb hby at_40) (v := (8 : Int32)) rfl (pc' := 42) rfl ?_
        refine s_iand S0 (hb hby at_42) (z := (k_ &&& (8 : Int32))) rfl (pc' := 43) rfl ?_
        refine g_if S0 (hb hby at_43) (by decide) (pcT := 50) (by decide) (fun q => ?_) (fun q => ?_)
        · have hc43_928 : (k_ &&& (8 : Int32)) = (0 : Int32) := icT_eq q
          show Go p e below _ (T0.setTop (mkF m 50 #[.val (.int k_), .val (.int pa), .val (.int pi), .val (.int of), .val (.int ch), .val (.int ln_), .val (.int f0_), .val (.int f1_), .val (.int f2_), .unset, .unset] []))
          refine s_iconst S0 (hb hby at_50) (v := (0 : Int32)) rfl (pc' := 51) rfl ?_
          exact K905 _ (by simp)
        · have hc43_928 : ¬ (k_ &&& (8 : Int32)) = (0 : Int32) := icF_eq q
          show Go p e below _ (T0.setTop (mkF m 46 #[.val (.int k_), .val (.int pa), .val (.int pi), .val (.int of), .val (.int ch), .val (.int ln_), .val (.int f0_), .val (.int f1_), .val (.int f2_), .unset, .unset] []))
          refine s_iconst S0 (hb hby at_46) (v := (1 : Int32)) rfl (pc' := 47) rfl ?_
          refine s_goto S0 (hb hby at_47) (by decide) (pcT := 51) (by decide) ?_
          exact K905 _ (by simp)
      refine s_iloadN S0 (hb hby at_26) rfl (pc' := 27) rfl ?_
      refine s_iconst S0 (hb hby at_27) (v := (4 : Int32)) rfl (pc' := 28) rfl ?_
      refine s_iand S0 (hb hby at_28) (z := (k_ &&& (4 : Int32))) rfl (pc' := 29) rfl ?_
      refine g_if S0 (hb hby at_29) (by decide) (pcT := 36) (by decide) (fun q => ?_) (fun q => ?_)
      · have hc29_929 : (k_ &&& (4 : Int32)) = (0 : Int32) := icT_eq q
        show Go p e below _ (T0.setTop (mkF m 36 #[.val (.int k_), .val (.int pa), .val (.int pi), .val (.int of), .val (.int ch), .val (.int ln_), .val (.int f0_), .val (.int f1_), .unset, .unset, .unset] []))
        refine s_iconst S0 (hb hby at_36) (v := (0 : Int32)) rfl (pc' := 37) rfl ?_
        exact K904 _ (by simp)
      · have hc29_929 : ¬ (k_ &&& (4 : Int32)) = (0 : Int32) := icF_eq q
        show Go p e below _ (T0.setTop (mkF m 32 #[.val (.int k_), .val (.int pa), .val (.int pi), .val (.int of), .val (.int ch), .val (.int ln_), .val (.int f0_), .val (.int f1_), .unset, .unset, .unset] []))
        refine s_iconst S0 (hb hby at_32) (v := (1 : Int32)) rfl (pc' := 33) rfl ?_
        refine s_goto S0 (hb hby at_33) (by decide) (pcT := 37) (by decide) ?_
        exact K904 _ (by simp)
    refine s_iloadN S0 (hb hby at_13) rfl (pc' := 14) rfl ?_
    refine s_iconst S0 (hb hby at_14) (v := (2 : Int32)) rfl (pc' := 15) rfl ?_
    refine s_iand S0 (hb hby at_15) (z := (k_ &&& (2 : Int32))) rfl (pc' := 16) rfl ?_
    refine g_if S0 (hb hby at_16) (by decide) (pcT := 23) (by decide) (fun q => ?_) (fun q => ?_)
    · have hc16_930 : (k_ &&& (2 : Int32)) = (0 : Int32) := icT_eq q
      show Go p e below _ (T0.setTop (mkF m 23 #[.val (.int k_), .val (.int pa), .val (.int pi), .val (.int of), .val (.int ch), .val (.int ln_), .val (.int f0_), .unset, .unset, .unset, .unset] []))
      refine s_iconst S0 (hb hby at_23) (v := (0 : Int32)) rfl (pc' := 24) rfl ?_
      exact K903 _ (by simp)
    · have hc16_930 : ¬ (k_ &&& (2 : Int32)) = (0 : Int32) := icF_eq q
      show Go p e below _ (T0.setTop (mkF m 19 #[.val (.int k_), .val (.int pa), .val (.int pi), .val (.int of), .val (.int ch), .val (.int ln_), .val (.int f0_), .unset, .unset, .unset, .unset] []))
      refine s_iconst S0 (hb hby at_19) (v := (1 : Int32)) rfl (pc' := 20) rfl ?_
      refine s_goto S0 (hb hby at_20) (by decide) (pcT := 24) (by decide) ?_
      exact K903 _ (by simp)
  refine s_iloadN S0 (hb hby at_0) rfl (pc' := 1) rfl ?_
  refine s_iconst S0 (hb hby at_1) (v := (1 : Int32)) rfl (pc' := 2) rfl ?_
  refine s_iand S0 (hb hby at_2) (z := (k_ &&& (1 : Int32))) rfl (pc' := 3) rfl ?_
  refine g_if S0 (hb hby at_3) (by decide) (pcT := 10) (by decide) (fun q => ?_) (fun q => ?_)
  · have hc3_931 : (k_ &&& (1 : Int32)) = (0 : Int32) := icT_eq q
    show Go p e below _ (T0.setTop (mkF m 10 #[.val (.int k_), .val (.int pa), .val (.int pi), .val (.int of), .val (.int ch), .val (.int ln_), .unset, .unset, .unset, .unset, .unset] []))
    refine s_iconst S0 (hb hby at_10) (v := (0 : Int32)) rfl (pc' := 11) rfl ?_
    exact K902 _ (by simp)
  · have hc3_931 : ¬ (k_ &&& (1 : Int32)) = (0 : Int32) := icF_eq q
    show Go p e below _ (T0.setTop (mkF m 6 #[.val (.int k_), .val (.int pa), .val (.int pi), .val (.int of), .val (.int ch), .val (.int ln_), .unset, .unset, .unset, .unset, .unset] []))
    refine s_iconst S0 (hb hby at_6) (v := (1 : Int32)) rfl (pc' := 7) rfl ?_
    refine s_goto S0 (hb hby at_7) (by decide) (pcT := 11) (by decide) ?_
    exact K902 _ (by simp)
set_option maxRecDepth 65536 in
set_option maxHeartbeats 40000000 in
theorem comes_1 {Post : Tables → Env → Array Value → State → Outcome → State → Prop} (hpost : ∀ tb e args s v u, (limb_1_1.after args s (.returned v) u = true ∧ limb_1_2.after args s (.returned v) u = true) → FramedW s (.returned v) u (Jvm.fieldLocs frame_1_writes args s ++ Jvm.arrayLocs frame_1_arrays args s ++ Jvm.staticLocs frame_1_statics s) 64 1472 → Post tb e args s (.returned v) u) :
    ArmFor flags0 classFile x code maxLocals ret World_1 tables_1 room_1 Calls_1 rest_1 Pre_1 Post := by
  intro l hfl _ _ p e ha hc hk s m args below hf hA hF happ hP
  obtain ⟨hcalls, hrest, hpre⟩ := hP
  obtain ⟨-, -, -, hnamed, -, -, -, hat⟩ := (Spec.applies_iff hf).mp happ
  obtain ⟨hg, hn⟩ := and_e (Cond.before_iff.mp (show (Jvm.Cond.and given_1 narrow_1).before args s = true from hpre))
  obtain ⟨hcount, hgiven⟩ := and_e hg
  obtain ⟨hg0, hr0⟩ := and_e hgiven
  obtain ⟨hg1, hr1⟩ := and_e hr0
  obtain ⟨hg2, hr2⟩ := and_e hr1
  obtain ⟨hg3, hr3⟩ := and_e hr2
  obtain ⟨hg4, hr4⟩ := and_e hr3
  obtain ⟨wa, wb, wc, wd, we, wf, rfl⟩ : ∃ wa wb wc wd we wf : Value, args = #[wa, wb, wc, wd, we, wf] := by
    have hs : args.size = 6 := by simpa [Cond.value, given_1] using hcount
    obtain ⟨L⟩ := args
    match L, hs with
    | [wa, wb, wc, wd, we, wf], _ => exact ⟨wa, wb, wc, wd, we, wf, rfl⟩
  have hw : HW _ s := fun d (hd : d ∈ tables_1) => atoms_spec (ws := Jvm.Cond.code x code maxLocals ret :: tables_1) hat d (List.mem_cons_of_mem _ hd)
  obtain ⟨hsets, hown0⟩ := atoms_of _ (rest_1_c_eq ▸ (show rest_1_c.before _ s = true from hrest))
  obtain ⟨i0, ei0⟩ := is_v hg0
  obtain rfl : wa = (.int i0) := Option.some.inj ei0
  obtain ⟨i1, ei1⟩ := is_v hg1
  obtain rfl : wb = (.int i1) := Option.some.inj ei1
  obtain ⟨i2, ei2⟩ := is_v hg2
  obtain rfl : wc = (.int i2) := Option.some.inj ei2
  obtain ⟨i3, ei3⟩ := is_v hg3
  obtain rfl : wd = (.int i3) := Option.some.inj ei3
  obtain ⟨i4, ei4⟩ := is_v hg4
  obtain rfl : we = (.int i4) := Option.some.inj ei4
  obtain ⟨i5, ei5⟩ := is_v hr4
  obtain rfl : wf = (.int i5) := Option.some.inj ei5
  obtain ⟨z1, ez1⟩ := is_v (Cond.before_iff.mp (hsets _ (List.mem_of_getElem? (i := 1) rfl)))
  have Sz1 : Sta s s.heap "java/lang/String" "COMPACT_STRINGS" "Z" (.int z1) := Sta.start ez1 (Or.inl (hsets _ (List.mem_of_getElem? (i := 0) rfl)))
  obtain ⟨v2, ev2, rv2⟩ := isR_v (Cond.before_iff.mp (hsets _ (List.mem_of_getElem? (i := 8) rfl)))
  have Sv2 : Sta s s.heap "jdk/internal/util/Preconditions" "SIOOBE_FORMATTER" "Ljava/util/function/BiFunction;" v2 := Sta.start ev2 (Or.inl (hsets _ (List.mem_of_getElem? (i := 7) rfl)))
  have cz1 : ¬ (z1 = (0 : Int32)) := gotF (Cond.eq_ints ez1 (Term.int_eval (0))) (not_v (Cond.before_iff.mp (hsets _ (List.mem_of_getElem? (i := 2) rfl))))
  have hEW : EW s _ EL1 := (EW.cons (hw _ (List.mem_of_getElem? (i := 67) rfl)) (by decide +kernel) EW.nil)
  have hCH : CHv s EL1 s.vm s.heap := CHv.start hEW (fun q hq => hcalls.1 q ((by decide : ∀ q ∈ EL1, q ∈ consts_1) q hq)) (hsets _ (List.mem_of_getElem? (i := 2) rfl)) (w24 hw) (w42 hw)
  have hfit : Fit s := fun {y c} hc i hi => by
    obtain ⟨ha, rfl⟩ := Array.getElem?_eq_some_iff.mp hc
    have q := List.all_eq_true.mp ((Array.all_eq_true_iff_forall_mem.mp hF) _ (Array.getElem_mem ha)) i (List.mem_range.mpr hi)
    simpa [Array.getElem?_eq_getElem hi] using q
  obtain ⟨v3, ev3, rv3⟩ := static_fit hfit (w171 hw) (ty := .object "java/util/function/BiFunction") (by decide)
  have Sv3 : Sta s s.heap "jdk/internal/util/Preconditions" "IOOBE_FORMATTER" "Ljava/util/function/BiFunction;" v3 := Sta.start ev3 (Or.inr ⟨(w170 hw), w171 hw⟩)
  have X : Ctx s _ := ⟨hw, hEW, ⟨z1, Sz1, cz1⟩, ⟨v2, Sv2, rv2⟩, v3, Sv3, fit_R rv3 rfl⟩
  obtain ⟨n, o, h1, h2, h3, v, L, rfl, ⟨⟨rfl, -⟩, N, -⟩, -, hq⟩ := rmL (l := l) X i0 i1 i2 i3 i4 i5 (Old.start s) tables_1 p e ha hc hk s m _ below hf ((Spec.applies_iff_loose hf).mp happ).1 ⟨rfl, State.Warmed39.refl s, rfl, hCH, fun _ q => nomatch q⟩ trivial
  refine ⟨n, _, h1, h2, h3, hpost _ _ _ _ _ _ ⟨Cond.after_iff.mpr rfl, Cond.after_iff.mpr (eq_i res_at (Term.int_eval (1)) rfl)⟩ ⟨hq.1, hq.2.1, hq.2.2.1, (hq.2.2.2.sift fun y hy => Or.inr (N y hy)).mono (by decide) (by decide)⟩⟩
theorem main_1_1 : Claimed_1_1 := comes_1 fun _ _ _ _ _ _ h hF => ⟨h.1, hF⟩
theorem main_1_2 : Claimed_1_2 := comes_1 fun _ _ _ _ _ _ h hF => ⟨h.2, hF⟩
end Jvm.Pilot.@@N@@
namespace Jvm.Pilot.@@N@@
open Jvm Jvm.ClassFile Sem Op Lib Jvm.Free Jvm.Stand Jvm.Pilot.@@N@@.Jvm.D
/-! MADE BY PROGRAM (witnessworld.py) out of the Statement's table words and the real class files: 26 classes; the members and pool entries that the words name. The judged class is class 1, her method 3. -/
namespace start1
open Jvm.ClassFile
def u (s : String) : CpInfo := .utf8 (stringToUtf16 s)
/-- a pool by its gaps: so many unusable entries, then the entry; so many at the end -/
def gap : Nat → List CpInfo → List CpInfo
  | 0, r => r
  | n + 1, r => .unusable :: gap n r
def poolList (es : List (Nat × CpInfo)) (last : Nat) : List CpInfo := es.foldr (fun e r => gap e.1 (e.2 :: r)) (gap last [])
def pool (es : List (Nat × CpInfo)) (last : Nat) : Array CpInfo := ⟨poolList es last⟩
def fileOf (pool : Array CpInfo) (this : Nat) (attrs : Array Attribute := #[]) (ms : Array MethodInfo := #[]) (fl : Nat := 33) (sup : Nat := 0) (ifs : Array Nat := #[]) (fds : Array FieldInfo := #[]) : ClassFile where
  minorVersion := 0
  majorVersion := 65
  constantPool := pool
  accessFlags := fl
  thisClass := this
  superClass := sup
  interfaces := ifs
  fields := fds
  methods := ms
  attributes := attrs
def plain (name : String) (sup : Option ClassId) : Class where
  name := name
  kind := .ordinary
  loader := none
  accessFlags := 33
  super := sup
  interfaces := #[]
  cf := none
  fields := #[]
  methods := #[]
  instanceTypes := #[]
  staticTypes := #[]
  resolved := #[]
  callSites := []
  init := .initialized
  statics := none
  mirror := none

def pool0 : Array CpInfo := pool [(5, u "<init>"), (0, u "()V"), (1, .class_ 10), (1, u "java/lang/Object")] 113

def k0c0 : Code := { maxStack := 0, maxLocals := 1, code := object_method_1_code, exceptionTable := #[], attributes := #[] }
def k0m0 : Method := { name := "<init>", desc := "()V", sig := { parameters := [], returnType := none }, accessFlags := 1, code := some k0c0 }
/-- java/lang/Object -/
def k0 : Class := { plain "java/lang/Object" none with
  accessFlags := 33
  interfaces := #[]
  cf := some (fileOf pool0 8 #[] #[{ accessFlags := 1, nameIndex := 5, descriptorIndex := 6, attributes := #[] }] 33 0 #[] #[])
  fields := #[]
  methods := #[k0m0]
  instanceTypes := #[]
  staticTypes := #[]
  resolved := Array.replicate 124 none
  statics := none }

def pool1 : Array CpInfo := pool [(2, .class_ 4), (0, .nameAndType 5 6), (0, u "java/lang/Object"), (0, u "<init>"), (0, u "()V"), (0, .string 8), (0, u ""), (0, .methodref 10 11), (0, .class_ 12), (0, .nameAndType 13 14), (0, u "java/lang/String"), (0, u "valueOf"), (0, u "(C)Ljava/lang/String;"), (0, .methodref 10 16), (0, .nameAndType 5 17), (0, u "([C)V"), (0, .methodref 19 20), (0, .class_ 21), (0, .nameAndType 22 23), (0, u "java/lang/Math"), (0, u "min"), (0, u "(II)I"), (0, .methodref 25 26), (0, .class_ 27), (0, .nameAndType 28 29), (0, u "com/example/nodewarden/nodewarden/core/Asides"), (0, u "addComment"), (0, u "(III[CII)V"), (0, .methodref 31 32), (0, .class_ 33), (0, .nameAndType 34 35), (0, u "com/example/nodewarden/nodewarden/core/AsidesIsCommentPinLaw"), (0, u "str"), (0, u "(II)Ljava/lang/String;"), (0, .methodref 25 37), (0, .nameAndType 38 39), (0, u "addInstruction"), (0, u "(IIILjava/lang/String;Ljava/lang/String;)V"), (0, .methodref 25 3), (0, .methodref 31 42), (0, .nameAndType 43 44), (0, u "add"), (0, u "(Lcom/example/nodewarden/nodewarden/core/Asides;ZIIIII)V"), (0, .methodref 25 46), (0, .nameAndType 47 6), (0, u "close"), (0, .methodref 25 49), (0, .nameAndType 50 51), (0, u "isComment"), (0, u "(I)Z"), (3, u "law"), (0, u "(IIIIII)Z")] 2

def k1m0 : Method := { name := "<init>", desc := "()V", sig := { parameters := [], returnType := none }, accessFlags := 2, code := none }
def k1c1 : Code := { maxStack := 6, maxLocals := 5, code := method_2_code, exceptionTable := #[], attributes := #[] }
def k1m1 : Method := { name := "str", desc := "(II)Ljava/lang/String;", sig := { parameters := [.int, .int], returnType := some (.object "java/lang/String") }, accessFlags := 10, code := some k1c1 }
def k1c2 : Code := { maxStack := 8, maxLocals := 10, code := method_3_code, exceptionTable := #[], attributes := #[] }
def k1m2 : Method := { name := "add", desc := "(Lcom/example/nodewarden/nodewarden/core/Asides;ZIIIII)V", sig := { parameters := [(.object "com/example/nodewarden/nodewarden/core/Asides"), .boolean, .int, .int, .int, .int, .int], returnType := none }, accessFlags := 10, code := some k1c2 }
def k1c3 : Code := { maxStack := 8, maxLocals := 11, code := code, exceptionTable := #[], attributes := #[] }
def k1m3 : Method := { name := "law", desc := "(IIIIII)Z", sig := { parameters := [.int, .int, .int, .int, .int, .int], returnType := some .boolean }, accessFlags := 9, code := some k1c3 }
/-- com/example/nodewarden/nodewarden/core/AsidesIsCommentPinLaw -/
def k1 : Class := { plain "com/example/nodewarden/nodewarden/core/AsidesIsCommentPinLaw" (some 0) with
  accessFlags := 49
  interfaces := #[]
  cf := some (fileOf pool1 31 #[] #[{ accessFlags := 2, nameIndex := 5, descriptorIndex := 6, attributes := #[] }, { accessFlags := 10, nameIndex := 34, descriptorIndex := 35, attributes := #[] }, { accessFlags := 10, nameIndex := 43, descriptorIndex := 44, attributes := #[] }, { accessFlags := 9, nameIndex := 55, descriptorIndex := 56, attributes := #[] }] 49 2 #[] #[])
  fields := #[]
  methods := #[k1m0, k1m1, k1m2, k1m3]
  instanceTypes := #[]
  staticTypes := #[]
  resolved := Array.replicate 59 none
  statics := none }

def pool2 : Array CpInfo := pool [(1, .methodref 2 3), (0, .class_ 4), (0, .nameAndType 5 6), (0, u "java/lang/Object"), (0, u "<init>"), (0, u "()V"), (0, .class_ 8), (0, u "java/lang/StringBuilder"), (0, .methodref 7 3), (0, .fieldref 11 12), (0, .class_ 13), (0, .nameAndType 14 15), (0, u "com/example/nodewarden/nodewarden/core/Asides"), (0, u "text"), (0, u "Ljava/lang/StringBuilder;"), (0, .fieldref 11 17), (0, .nameAndType 18 19), (0, u "table"), (0, u "[I"), (0, .methodref 7 21), (0, .nameAndType 22 23), (0, u "append"), (0, u "([CII)Ljava/lang/StringBuilder;"), (0, .methodref 11 25), (0, .nameAndType 26 27), (0, u "add"), (0, u "(IIII)V"), (0, .methodref 7 29), (0, .nameAndType 22 30), (0, u "(Ljava/lang/String;)Ljava/lang/StringBuilder;"), (0, .methodref 7 32), (0, .nameAndType 33 34), (0, u "length"), (0, u "()I"), (0, .methodref 7 36), (0, .nameAndType 37 6), (0, u "trimToSize"), (0, .fieldref 11 39), (0, .nameAndType 40 41), (0, u "count"), (0, u "I"), (0, .methodref 43 44), (0, .class_ 45), (0, .nameAndType 46 47), (0, u "java/util/Arrays"), (0, u "copyOf"), (0, u "([II)[I"), (8, .methodref 57 58), (0, .class_ 59), (0, .nameAndType 60 61), (0, u "java/lang/Math"), (0, u "max"), (0, u "(II)I"), (3, u "NONE"), (0, u "Lcom/example/nodewarden/nodewarden/core/Asides;"), (0, u "DOCUMENT"), (2, u "BEFORE_DOCTYPE"), (1, u "BEFORE_ROOT"), (1, u "AFTER_ROOT"), (1, u "FIELDS"), (1, u "PARENT"), (0, u "PIECE"), (0, u "OFFSET"), (0, u "DATA"), (1, u "END"), (3, u "addComment"), (0, u "(III[CII)V"), (0, u "addInstruction"), (0, u "(IIILjava/lang/String;Ljava/lang/String;)V"), (0, u "close"), (6, u "isComment"), (0, u "(I)Z")] 7

def k2c0 : Code := { maxStack := 3, maxLocals := 1, code := prog_3_method_1_code, exceptionTable := #[], attributes := #[] }
def k2m0 : Method := { name := "<init>", desc := "()V", sig := { parameters := [], returnType := none }, accessFlags := 0, code := some k2c0 }
def k2c1 : Code := { maxStack := 5, maxLocals := 7, code := prog_3_method_2_code, exceptionTable := #[], attributes := #[] }
def k2m1 : Method := { name := "addComment", desc := "(III[CII)V", sig := { parameters := [.int, .int, .int, (.array .char), .int, .int], returnType := none }, accessFlags := 0, code := some k2c1 }
def k2c2 : Code := { maxStack := 5, maxLocals := 7, code := prog_3_method_3_code, exceptionTable := #[], attributes := #[] }
def k2m2 : Method := { name := "addInstruction", desc := "(IIILjava/lang/String;Ljava/lang/String;)V", sig := { parameters := [.int, .int, .int, (.object "java/lang/String"), (.object "java/lang/String")], returnType := none }, accessFlags := 0, code := some k2c2 }
def k2c3 : Code := { maxStack := 4, maxLocals := 1, code := prog_3_method_4_code, exceptionTable := #[], attributes := #[] }
def k2m3 : Method := { name := "close", desc := "()V", sig := { parameters := [], returnType := none }, accessFlags := 0, code := some k2c3 }
def k2c4 : Code := { maxStack := 3, maxLocals := 2, code := prog_3_method_8_code, exceptionTable := #[], attributes := #[] }
def k2m4 : Method := { name := "isComment", desc := "(I)Z", sig := { parameters := [.int], returnType := some .boolean }, accessFlags := 0, code := some k2c4 }
def k2c5 : Code := { maxStack := 5, maxLocals := 6, code := prog_3_method_13_code, exceptionTable := #[], attributes := #[] }
def k2m5 : Method := { name := "add", desc := "(IIII)V", sig := { parameters := [.int, .int, .int, .int], returnType := none }, accessFlags := 2, code := some k2c5 }
/-- com/example/nodewarden/nodewarden/core/Asides -/
def k2 : Class := { plain "com/example/nodewarden/nodewarden/core/Asides" (some 0) with
  accessFlags := 32
  interfaces := #[]
  cf := some (fileOf pool2 11 #[] #[{ accessFlags := 0, nameIndex := 5, descriptorIndex := 6, attributes := #[] }, { accessFlags := 0, nameIndex := 87, descriptorIndex := 88, attributes := #[] }, { accessFlags := 0, nameIndex := 89, descriptorIndex := 90, attributes := #[] }, { accessFlags := 0, nameIndex := 91, descriptorIndex := 6, attributes := #[] }, { accessFlags := 0, nameIndex := 98, descriptorIndex := 99, attributes := #[] }, { accessFlags := 2, nameIndex := 26, descriptorIndex := 27, attributes := #[] }] 32 2 #[] #[{ accessFlags := 24, nameIndex := 67, descriptorIndex := 41, attributes := #[] }, { accessFlags := 24, nameIndex := 70, descriptorIndex := 41, attributes := #[] }, { accessFlags := 24, nameIndex := 72, descriptorIndex := 41, attributes := #[] }, { accessFlags := 24, nameIndex := 74, descriptorIndex := 41, attributes := #[] }, { accessFlags := 24, nameIndex := 65, descriptorIndex := 66, attributes := #[] }, { accessFlags := 26, nameIndex := 76, descriptorIndex := 41, attributes := #[] }, { accessFlags := 26, nameIndex := 78, descriptorIndex := 41, attributes := #[] }, { accessFlags := 26, nameIndex := 79, descriptorIndex := 41, attributes := #[] }, { accessFlags := 26, nameIndex := 80, descriptorIndex := 41, attributes := #[] }, { accessFlags := 26, nameIndex := 81, descriptorIndex := 41, attributes := #[] }, { accessFlags := 26, nameIndex := 83, descriptorIndex := 41, attributes := #[] }, { accessFlags := 18, nameIndex := 14, descriptorIndex := 15, attributes := #[] }, { accessFlags := 2, nameIndex := 18, descriptorIndex := 19, attributes := #[] }, { accessFlags := 2, nameIndex := 40, descriptorIndex := 41, attributes := #[] }])
  fields := #[{ name := "DOCUMENT", type := .int, accessFlags := 24, slot := 0, constantValue := 0 }, { name := "BEFORE_DOCTYPE", type := .int, accessFlags := 24, slot := 1, constantValue := 0 }, { name := "BEFORE_ROOT", type := .int, accessFlags := 24, slot := 2, constantValue := 0 }, { name := "AFTER_ROOT", type := .int, accessFlags := 24, slot := 3, constantValue := 0 }, { name := "NONE", type := (.object "com/example/nodewarden/nodewarden/core/Asides"), accessFlags := 24, slot := 4, constantValue := 0 }, { name := "FIELDS", type := .int, accessFlags := 26, slot := 5, constantValue := 0 }, { name := "PARENT", type := .int, accessFlags := 26, slot := 6, constantValue := 0 }, { name := "PIECE", type := .int, accessFlags := 26, slot := 7, constantValue := 0 }, { name := "OFFSET", type := .int, accessFlags := 26, slot := 8, constantValue := 0 }, { name := "DATA", type := .int, accessFlags := 26, slot := 9, constantValue := 0 }, { name := "END", type := .int, accessFlags := 26, slot := 10, constantValue := 0 }, { name := "text", type := (.object "java/lang/StringBuilder"), accessFlags := 18, slot := 0, constantValue := 0 }, { name := "table", type := (.array .int), accessFlags := 2, slot := 1, constantValue := 0 }, { name := "count", type := .int, accessFlags := 2, slot := 2, constantValue := 0 }]
  methods := #[k2m0, k2m1, k2m2, k2m3, k2m4, k2m5]
  instanceTypes := #[(.object "java/lang/StringBuilder"), (.array .int), .int]
  staticTypes := #[.int, .int, .int, .int, (.object "com/example/nodewarden/nodewarden/core/Asides"), .int, .int, .int, .int, .int, .int]
  resolved := Array.replicate 107 none
  statics := none }

def pool3 : Array CpInfo := pool [(1, .class_ 2), (0, u "java/lang/Appendable"), (0, .class_ 4), (0, u "java/lang/Object")] 9

/-- java/lang/Appendable -/
def k3 : Class := { plain "java/lang/Appendable" (some 0) with
  accessFlags := 1537
  interfaces := #[]
  cf := some (fileOf pool3 1 #[] #[] 1537 3 #[] #[])
  fields := #[]
  methods := #[]
  instanceTypes := #[]
  staticTypes := #[]
  resolved := Array.replicate 14 none
  statics := none }

def pool4 : Array CpInfo := pool [(2, .class_ 4), (1, u "java/lang/CharSequence"), (42, .class_ 48), (0, u "java/lang/CharSequence$1CodePointIterator"), (10, .class_ 60), (0, u "java/lang/CharSequence$1CharIterator"), (5, .class_ 67), (0, u "java/lang/Object")] 63

/-- java/lang/CharSequence -/
def k4 : Class := { plain "java/lang/CharSequence" (some 0) with
  accessFlags := 1537
  interfaces := #[]
  cf := some (fileOf pool4 2 #[.nestMembers #[47, 59]] #[] 1537 66 #[] #[])
  fields := #[]
  methods := #[]
  instanceTypes := #[]
  staticTypes := #[]
  resolved := Array.replicate 131 none
  statics := none }

def pool5 : Array CpInfo := pool [(1, .class_ 2), (0, u "java/lang/String"), (0, .methodref 4 5), (0, .class_ 6), (0, .nameAndType 7 8), (0, u "java/lang/Object"), (0, u "<init>"), (0, u "()V"), (1, .class_ 12), (1, u "java/lang/AbstractStringBuilder"), (0, u "EMPTYVALUE"), (0, u "[B"), (0, .fieldref 10 16), (0, .nameAndType 17 14), (0, u "value"), (0, .fieldref 1 19), (0, .nameAndType 20 21), (0, u "COMPACT_STRINGS"), (0, u "Z"), (0, .fieldref 10 23), (0, .nameAndType 24 25), (0, u "coder"), (0, u "B"), (6, .methodref 1 33), (0, .nameAndType 34 35), (0, u "length"), (0, u "()I"), (4, .methodref 1 41), (0, .nameAndType 24 42), (0, u "()B"), (2, u "append"), (0, u "(Ljava/lang/String;)Ljava/lang/AbstractStringBuilder;"), (1, .class_ 49), (0, u "java/lang/CharSequence"), (19, u "(Ljava/lang/String;)V"), (5, u "maybeLatin1"), (3, .fieldref 10 80), (0, .nameAndType 81 82), (0, u "count"), (0, u "I"), (0, .methodref 10 84), (0, .nameAndType 85 86), (0, u "isLatin1"), (0, u "()Z"), (1, .class_ 90), (1, u "java/lang/StringLatin1"), (9, .methodref 10 101), (0, .nameAndType 102 103), (0, u "ensureCapacityInternal"), (0, u "(I)V"), (4, .methodref 109 110), (0, .class_ 111), (0, .nameAndType 112 113), (0, u "java/util/Arrays"), (0, u "copyOf"), (0, u "([BI)[B"), (47, .methodref 162 163), (0, .class_ 164), (0, .nameAndType 165 166), (0, u "jdk/internal/util/Preconditions"), (0, u "checkFromToIndex"), (0, u "(IIILjava/util/function/BiFunction;)I"), (15, u "Ljava/util/function/BiFunction;"), (0, .fieldref 162 184), (0, .nameAndType 185 182), (0, u "IOOBE_FORMATTER"), (5, .methodref 88 192), (0, .nameAndType 193 194), (0, u "canEncode"), (0, u "(C)Z"), (13, .methodref 10 209), (0, .nameAndType 210 211), (0, u "putStringAt"), (0, u "(ILjava/lang/String;)V"), (5, u "inflateIfNeededFor"), (2, .nameAndType 221 222), (0, u "getBytes"), (0, u "([BIB)V"), (11, u "appendChars"), (4, .methodref 10 240), (0, .nameAndType 234 241), (0, u "([CII)V"), (155, .methodref 10 398), (0, .nameAndType 217 69), (0, .methodref 1 220), (44, .class_ 445), (0, u "java/lang/Appendable"), (29, u "trimToSize"), (30, u "([CII)Ljava/lang/AbstractStringBuilder;")] 102

def k5m0 : Method := { name := "<init>", desc := "()V", sig := { parameters := [], returnType := none }, accessFlags := 0, code := none }
def k5c1 : Code := { maxStack := 2, maxLocals := 2, code := jdk_68_method_2_code, exceptionTable := #[], attributes := #[] }
def k5m1 : Method := { name := "<init>", desc := "(I)V", sig := { parameters := [.int], returnType := none }, accessFlags := 0, code := some k5c1 }
def k5c2 : Code := { maxStack := 1, maxLocals := 1, code := jdk_68_method_6_code, exceptionTable := #[], attributes := #[] }
def k5m2 : Method := { name := "length", desc := "()I", sig := { parameters := [], returnType := some .int }, accessFlags := 1, code := some k5c2 }
def k5c3 : Code := { maxStack := 4, maxLocals := 3, code := jdk_68_method_9_code, exceptionTable := #[], attributes := #[] }
def k5m3 : Method := { name := "ensureCapacityInternal", desc := "(I)V", sig := { parameters := [.int], returnType := none }, accessFlags := 2, code := some k5c3 }
def k5c4 : Code := { maxStack := 3, maxLocals := 2, code := jdk_68_method_12_code, exceptionTable := #[], attributes := #[] }
def k5m4 : Method := { name := "trimToSize", desc := "()V", sig := { parameters := [], returnType := none }, accessFlags := 1, code := some k5c4 }
def k5c5 : Code := { maxStack := 3, maxLocals := 3, code := jdk_68_method_22_code, exceptionTable := #[], attributes := #[] }
def k5m5 : Method := { name := "append", desc := "(Ljava/lang/String;)Ljava/lang/AbstractStringBuilder;", sig := { parameters := [(.object "java/lang/String")], returnType := some (.object "java/lang/AbstractStringBuilder") }, accessFlags := 1, code := some k5c5 }
def k5c6 : Code := { maxStack := 4, maxLocals := 5, code := jdk_68_method_29_code, exceptionTable := #[], attributes := #[] }
def k5m6 : Method := { name := "append", desc := "([CII)Ljava/lang/AbstractStringBuilder;", sig := { parameters := [(.array .char), .int, .int], returnType := some (.object "java/lang/AbstractStringBuilder") }, accessFlags := 1, code := some k5c6 }
def k5c7 : Code := { maxStack := 1, maxLocals := 1, code := jdk_68_method_68_code, exceptionTable := #[], attributes := #[] }
def k5m7 : Method := { name := "isLatin1", desc := "()Z", sig := { parameters := [], returnType := some .boolean }, accessFlags := 16, code := some k5c7 }
def k5c8 : Code := { maxStack := 2, maxLocals := 2, code := jdk_68_method_71_code, exceptionTable := #[], attributes := #[] }
def k5m8 : Method := { name := "inflateIfNeededFor", desc := "(Ljava/lang/String;)V", sig := { parameters := [(.object "java/lang/String")], returnType := none }, accessFlags := 2, code := some k5c8 }
def k5c9 : Code := { maxStack := 4, maxLocals := 3, code := jdk_68_method_73_code, exceptionTable := #[], attributes := #[] }
def k5m9 : Method := { name := "putStringAt", desc := "(ILjava/lang/String;)V", sig := { parameters := [.int, (.object "java/lang/String")], returnType := none }, accessFlags := 2, code := some k5c9 }
def k5c10 : Code := { maxStack := 5, maxLocals := 9, code := jdk_68_method_74_code, exceptionTable := #[], attributes := #[] }
def k5m10 : Method := { name := "appendChars", desc := "([CII)V", sig := { parameters := [(.array .char), .int, .int], returnType := none }, accessFlags := 18, code := some k5c10 }
/-- java/lang/AbstractStringBuilder -/
def k5 : Class := { plain "java/lang/AbstractStringBuilder" (some 0) with
  accessFlags := 1056
  interfaces := #[3, 4]
  cf := some (fileOf pool5 10 #[] #[{ accessFlags := 0, nameIndex := 7, descriptorIndex := 8, attributes := #[] }, { accessFlags := 0, nameIndex := 7, descriptorIndex := 103, attributes := #[] }, { accessFlags := 1, nameIndex := 34, descriptorIndex := 35, attributes := #[] }, { accessFlags := 2, nameIndex := 102, descriptorIndex := 103, attributes := #[] }, { accessFlags := 1, nameIndex := 475, descriptorIndex := 8, attributes := #[] }, { accessFlags := 1, nameIndex := 45, descriptorIndex := 46, attributes := #[] }, { accessFlags := 1, nameIndex := 45, descriptorIndex := 506, attributes := #[] }, { accessFlags := 16, nameIndex := 85, descriptorIndex := 86, attributes := #[] }, { accessFlags := 2, nameIndex := 217, descriptorIndex := 69, attributes := #[] }, { accessFlags := 2, nameIndex := 210, descriptorIndex := 211, attributes := #[] }, { accessFlags := 18, nameIndex := 234, descriptorIndex := 241, attributes := #[] }] 1056 4 #[444, 48] #[{ accessFlags := 0, nameIndex := 17, descriptorIndex := 14, attributes := #[] }, { accessFlags := 0, nameIndex := 24, descriptorIndex := 25, attributes := #[] }, { accessFlags := 0, nameIndex := 75, descriptorIndex := 21, attributes := #[] }, { accessFlags := 0, nameIndex := 81, descriptorIndex := 82, attributes := #[] }, { accessFlags := 26, nameIndex := 13, descriptorIndex := 14, attributes := #[] }])
  fields := #[{ name := "value", type := (.array .byte), accessFlags := 0, slot := 0, constantValue := 0 }, { name := "coder", type := .byte, accessFlags := 0, slot := 1, constantValue := 0 }, { name := "maybeLatin1", type := .boolean, accessFlags := 0, slot := 2, constantValue := 0 }, { name := "count", type := .int, accessFlags := 0, slot := 3, constantValue := 0 }, { name := "EMPTYVALUE", type := (.array .byte), accessFlags := 26, slot := 0, constantValue := 0 }]
  methods := #[k5m0, k5m1, k5m2, k5m3, k5m4, k5m5, k5m6, k5m7, k5m8, k5m9, k5m10]
  instanceTypes := #[(.array .byte), .byte, .boolean, .int]
  staticTypes := #[(.array .byte)]
  resolved := Array.replicate 609 none
  statics := none }

def pool6 : Array CpInfo := pool [(1, .class_ 2), (0, u "java/io/Serializable"), (0, .class_ 4), (0, u "java/lang/Object")] 2

/-- java/io/Serializable -/
def k6 : Class := { plain "java/io/Serializable" (some 0) with
  accessFlags := 1537
  interfaces := #[]
  cf := some (fileOf pool6 1 #[] #[] 1537 3 #[] #[])
  fields := #[]
  methods := #[]
  instanceTypes := #[]
  staticTypes := #[]
  resolved := Array.replicate 7 none
  statics := none }

def pool7 : Array CpInfo := pool [(1, .class_ 2), (0, u "java/lang/Comparable"), (0, .class_ 4), (0, u "java/lang/Object")] 7

/-- java/lang/Comparable -/
def k7 : Class := { plain "java/lang/Comparable" (some 0) with
  accessFlags := 1537
  interfaces := #[]
  cf := some (fileOf pool7 1 #[] #[] 1537 3 #[] #[])
  fields := #[]
  methods := #[]
  instanceTypes := #[]
  staticTypes := #[]
  resolved := Array.replicate 12 none
  statics := none }

def pool8 : Array CpInfo := pool [(1, .methodref 2 3), (0, .class_ 4), (0, .nameAndType 5 6), (0, u "java/lang/AbstractStringBuilder"), (0, u "<init>"), (0, u "(I)V"), (17, .class_ 26), (1, u "java/lang/StringBuilder"), (0, u "append"), (0, u "(Ljava/lang/String;)Ljava/lang/StringBuilder;"), (0, .methodref 2 30), (0, .nameAndType 27 31), (0, u "(Ljava/lang/String;)Ljava/lang/AbstractStringBuilder;"), (12, .methodref 2 45), (0, .nameAndType 27 46), (0, u "([CII)Ljava/lang/AbstractStringBuilder;"), (98, u "()V"), (10, u "()I"), (135, u "([CII)Ljava/lang/StringBuilder;"), (43, .methodref 2 337), (0, .nameAndType 338 145), (0, u "trimToSize"), (4, .methodref 2 344), (0, .nameAndType 345 156), (0, u "length"), (3, .class_ 350), (0, u "java/lang/Appendable"), (0, .class_ 352), (0, u "java/io/Serializable"), (0, .class_ 354), (0, u "java/lang/Comparable"), (0, .class_ 356), (0, u "java/lang/CharSequence"), (0, u "serialVersionUID"), (0, u "J")] 63

def k8c0 : Code := { maxStack := 2, maxLocals := 1, code := jdk_67_method_1_code, exceptionTable := #[], attributes := #[] }
def k8m0 : Method := { name := "<init>", desc := "()V", sig := { parameters := [], returnType := none }, accessFlags := 1, code := some k8c0 }
def k8c1 : Code := { maxStack := 2, maxLocals := 2, code := jdk_67_method_7_code, exceptionTable := #[], attributes := #[] }
def k8m1 : Method := { name := "append", desc := "(Ljava/lang/String;)Ljava/lang/StringBuilder;", sig := { parameters := [(.object "java/lang/String")], returnType := some (.object "java/lang/StringBuilder") }, accessFlags := 1, code := some k8c1 }
def k8c2 : Code := { maxStack := 4, maxLocals := 4, code := jdk_67_method_12_code, exceptionTable := #[], attributes := #[] }
def k8m2 : Method := { name := "append", desc := "([CII)Ljava/lang/StringBuilder;", sig := { parameters := [(.array .char), .int, .int], returnType := some (.object "java/lang/StringBuilder") }, accessFlags := 1, code := some k8c2 }
def k8c3 : Code := { maxStack := 1, maxLocals := 1, code := jdk_67_method_90_code, exceptionTable := #[], attributes := #[] }
def k8m3 : Method := { name := "trimToSize", desc := "()V", sig := { parameters := [], returnType := none }, accessFlags := 4161, code := some k8c3 }
def k8c4 : Code := { maxStack := 1, maxLocals := 1, code := jdk_67_method_93_code, exceptionTable := #[], attributes := #[] }
def k8m4 : Method := { name := "length", desc := "()I", sig := { parameters := [], returnType := some .int }, accessFlags := 4161, code := some k8c4 }
/-- java/lang/StringBuilder -/
def k8 : Class := { plain "java/lang/StringBuilder" (some 5) with
  accessFlags := 49
  interfaces := #[3, 6, 7, 4]
  cf := some (fileOf pool8 24 #[] #[{ accessFlags := 1, nameIndex := 5, descriptorIndex := 145, attributes := #[] }, { accessFlags := 1, nameIndex := 27, descriptorIndex := 28, attributes := #[] }, { accessFlags := 1, nameIndex := 27, descriptorIndex := 292, attributes := #[] }, { accessFlags := 4161, nameIndex := 338, descriptorIndex := 145, attributes := #[] }, { accessFlags := 4161, nameIndex := 345, descriptorIndex := 156, attributes := #[] }] 49 2 #[349, 351, 353, 355] #[{ accessFlags := 24, nameIndex := 357, descriptorIndex := 358, attributes := #[] }])
  fields := #[{ name := "serialVersionUID", type := .long, accessFlags := 24, slot := 0, constantValue := 0 }]
  methods := #[k8m0, k8m1, k8m2, k8m3, k8m4]
  instanceTypes := #[(.array .byte), .byte, .boolean, .int]
  staticTypes := #[.long]
  resolved := Array.replicate 422 none
  statics := none }

def pool9 : Array CpInfo := pool [(1, .class_ 2), (0, u "java/lang/constant/Constable"), (0, .class_ 4), (0, u "java/lang/Object")] 6

/-- java/lang/constant/Constable -/
def k9 : Class := { plain "java/lang/constant/Constable" (some 0) with
  accessFlags := 1537
  interfaces := #[]
  cf := some (fileOf pool9 1 #[] #[] 1537 3 #[] #[])
  fields := #[]
  methods := #[]
  instanceTypes := #[]
  staticTypes := #[]
  resolved := Array.replicate 11 none
  statics := none }

def pool10 : Array CpInfo := pool [(1, .class_ 2), (0, u "java/lang/constant/ConstantDesc"), (0, .class_ 4), (0, u "java/lang/Object")] 32

/-- java/lang/constant/ConstantDesc -/
def k10 : Class := { plain "java/lang/constant/ConstantDesc" (some 0) with
  accessFlags := 1537
  interfaces := #[]
  cf := some (fileOf pool10 1 #[] #[] 1537 3 #[] #[])
  fields := #[]
  methods := #[]
  instanceTypes := #[]
  staticTypes := #[]
  resolved := Array.replicate 37 none
  statics := none }

def pool11 : Array CpInfo := pool [(1, .methodref 2 3), (0, .class_ 4), (0, .nameAndType 5 6), (0, u "java/lang/Object"), (0, u "<init>"), (0, u "()V"), (2, .fieldref 10 11), (0, .class_ 12), (0, .nameAndType 13 14), (0, u "java/lang/String"), (0, u "value"), (0, u "[B"), (0, .fieldref 10 16), (0, .nameAndType 17 18), (0, u "coder"), (0, u "B"), (2, u "hash"), (0, u "I"), (2, u "hashIsZero"), (0, u "Z"), (0, .methodref 10 28), (0, .nameAndType 5 29), (0, u "([CIILjava/lang/Void;)V"), (8, .fieldref 10 39), (0, .nameAndType 40 26), (0, u "COMPACT_STRINGS"), (1, .class_ 44), (1, u "java/lang/StringUTF16"), (0, u "compress"), (1, .methodref 42 48), (0, .nameAndType 49 50), (0, u "coderFromArrayLen"), (0, u "([BI)B"), (2, u "toBytes"), (53, .class_ 109), (1, u "java/lang/StringLatin1"), (67, .methodref 42 178), (0, .nameAndType 45 179), (0, u "([CII)[B"), (13, .class_ 195), (1, u "java/lang/System"), (13, .methodref 10 210), (0, .nameAndType 5 211), (0, u "([BB)V"), (0, .methodref 193 213), (0, .nameAndType 214 215), (0, u "arraycopy"), (0, u "(Ljava/lang/Object;ILjava/lang/Object;II)V"), (118, u "()I"), (0, .methodref 10 336), (0, .nameAndType 17 337), (0, u "()B"), (31, u "(C)Z"), (137, u "length"), (24, u "getBytes"), (42, .class_ 576), (0, u "java/lang/CharSequence"), (22, u "CASE_INSENSITIVE_ORDER"), (0, u "Ljava/util/Comparator;"), (181, u "valueOf"), (0, u "(C)Ljava/lang/String;"), (37, u "([BIB)V"), (188, u "([C)V"), (4, .methodref 107 1016), (0, .nameAndType 1017 369), (0, u "canEncode"), (0, .methodref 107 1019), (0, .nameAndType 53 1020), (0, u "(C)[B"), (80, u "serialPersistentFields"), (0, u "[Ljava/io/ObjectStreamField;"), (0, .class_ 1104), (0, u "java/lang/String$CaseInsensitiveComparator"), (1, .class_ 1107), (0, u "java/io/Serializable"), (0, .class_ 1109), (0, u "java/lang/Comparable"), (0, .class_ 1111), (0, u "java/lang/constant/Constable"), (0, .class_ 1113), (0, u "java/lang/constant/ConstantDesc"), (2, u "serialVersionUID"), (0, u "J"), (3, u "REPL"), (0, u "C"), (2, u "LATIN1"), (1, u "UTF16")] 323

def k11m0 : Method := { name := "<init>", desc := "()V", sig := { parameters := [], returnType := none }, accessFlags := 1, code := none }
def k11c1 : Code := { maxStack := 5, maxLocals := 2, code := jdk_42_method_3_code, exceptionTable := #[], attributes := #[] }
def k11m1 : Method := { name := "<init>", desc := "([C)V", sig := { parameters := [(.array .char)], returnType := none }, accessFlags := 1, code := some k11c1 }
def k11c2 : Code := { maxStack := 2, maxLocals := 1, code := jdk_42_method_54_code, exceptionTable := #[], attributes := #[] }
def k11m2 : Method := { name := "length", desc := "()I", sig := { parameters := [], returnType := some .int }, accessFlags := 1, code := some k11c2 }
def k11c3 : Code := { maxStack := 4, maxLocals := 1, code := jdk_42_method_139_code, exceptionTable := #[], attributes := #[] }
def k11m3 : Method := { name := "valueOf", desc := "(C)Ljava/lang/String;", sig := { parameters := [.char], returnType := some (.object "java/lang/String") }, accessFlags := 9, code := some k11c3 }
def k11c4 : Code := { maxStack := 5, maxLocals := 4, code := jdk_42_method_147_code, exceptionTable := #[], attributes := #[] }
def k11m4 : Method := { name := "getBytes", desc := "([BIB)V", sig := { parameters := [(.array .byte), .int, .byte], returnType := none }, accessFlags := 0, code := some k11c4 }
def k11c5 : Code := { maxStack := 4, maxLocals := 6, code := jdk_42_method_149_code, exceptionTable := #[], attributes := #[] }
def k11m5 : Method := { name := "<init>", desc := "([CIILjava/lang/Void;)V", sig := { parameters := [(.array .char), .int, .int, (.object "java/lang/Void")], returnType := none }, accessFlags := 2, code := some k11c5 }
def k11c6 : Code := { maxStack := 2, maxLocals := 3, code := jdk_42_method_151_code, exceptionTable := #[], attributes := #[] }
def k11m6 : Method := { name := "<init>", desc := "([BB)V", sig := { parameters := [(.array .byte), .byte], returnType := none }, accessFlags := 0, code := some k11c6 }
def k11c7 : Code := { maxStack := 1, maxLocals := 1, code := jdk_42_method_152_code, exceptionTable := #[], attributes := #[] }
def k11m7 : Method := { name := "coder", desc := "()B", sig := { parameters := [], returnType := some .byte }, accessFlags := 0, code := some k11c7 }
/-- java/lang/String -/
def k11 : Class := { plain "java/lang/String" (some 0) with
  accessFlags := 49
  interfaces := #[6, 7, 4, 9, 10]
  cf := some (fileOf pool11 10 #[.nestMembers #[1103]] #[{ accessFlags := 1, nameIndex := 5, descriptorIndex := 6, attributes := #[] }, { accessFlags := 1, nameIndex := 5, descriptorIndex := 1010, attributes := #[] }, { accessFlags := 1, nameIndex := 507, descriptorIndex := 334, attributes := #[] }, { accessFlags := 9, nameIndex := 782, descriptorIndex := 783, attributes := #[] }, { accessFlags := 0, nameIndex := 532, descriptorIndex := 821, attributes := #[] }, { accessFlags := 2, nameIndex := 5, descriptorIndex := 29, attributes := #[] }, { accessFlags := 0, nameIndex := 5, descriptorIndex := 211, attributes := #[] }, { accessFlags := 0, nameIndex := 17, descriptorIndex := 337, attributes := #[] }] 49 2 #[1106, 1108, 575, 1110, 1112] #[{ accessFlags := 18, nameIndex := 13, descriptorIndex := 14, attributes := #[] }, { accessFlags := 18, nameIndex := 17, descriptorIndex := 18, attributes := #[] }, { accessFlags := 2, nameIndex := 21, descriptorIndex := 22, attributes := #[] }, { accessFlags := 2, nameIndex := 25, descriptorIndex := 26, attributes := #[] }, { accessFlags := 26, nameIndex := 1116, descriptorIndex := 1117, attributes := #[] }, { accessFlags := 24, nameIndex := 40, descriptorIndex := 26, attributes := #[] }, { accessFlags := 26, nameIndex := 1101, descriptorIndex := 1102, attributes := #[] }, { accessFlags := 26, nameIndex := 1121, descriptorIndex := 1122, attributes := #[] }, { accessFlags := 25, nameIndex := 599, descriptorIndex := 600, attributes := #[] }, { accessFlags := 24, nameIndex := 1125, descriptorIndex := 18, attributes := #[] }, { accessFlags := 24, nameIndex := 1127, descriptorIndex := 18, attributes := #[] }])
  fields := #[{ name := "value", type := (.array .byte), accessFlags := 18, slot := 0, constantValue := 0 }, { name := "coder", type := .byte, accessFlags := 18, slot := 1, constantValue := 0 }, { name := "hash", type := .int, accessFlags := 2, slot := 2, constantValue := 0 }, { name := "hashIsZero", type := .boolean, accessFlags := 2, slot := 3, constantValue := 0 }, { name := "serialVersionUID", type := .long, accessFlags := 26, slot := 0, constantValue := 0 }, { name := "COMPACT_STRINGS", type := .boolean, accessFlags := 24, slot := 1, constantValue := 0 }, { name := "serialPersistentFields", type := (.array (.object "java/io/ObjectStreamField")), accessFlags := 26, slot := 2, constantValue := 0 }, { name := "REPL", type := .char, accessFlags := 26, slot := 3, constantValue := 0 }, { name := "CASE_INSENSITIVE_ORDER", type := (.object "java/util/Comparator"), accessFlags := 25, slot := 4, constantValue := 0 }, { name := "LATIN1", type := .byte, accessFlags := 24, slot := 5, constantValue := 0 }, { name := "UTF16", type := .byte, accessFlags := 24, slot := 6, constantValue := 0 }]
  methods := #[k11m0, k11m1, k11m2, k11m3, k11m4, k11m5, k11m6, k11m7]
  instanceTypes := #[(.array .byte), .byte, .int, .boolean]
  staticTypes := #[.long, .boolean, (.array (.object "java/io/ObjectStreamField")), .char, (.object "java/util/Comparator"), .byte, .byte]
  resolved := Array.replicate 1451 none
  statics := some 0 }

def pool12 : Array CpInfo := pool [(6, .class_ 8), (1, u "java/lang/Object"), (0, u "<init>"), (0, u "()V"), (1, .class_ 14), (1, u "java/lang/StringUTF16"), (31, u "$assertionsDisabled"), (0, u "Z"), (13, u "HI_BYTE_SHIFT"), (0, u "I"), (2, u "LO_BYTE_SHIFT"), (49, .methodref 12 116), (0, .nameAndType 117 118), (0, u "compress"), (0, u "([CI[BII)I"), (3, u "([CII)[B"), (138, u "coderFromArrayLen"), (0, u "([BI)B"), (106, .class_ 371), (1, u "java/lang/StringUTF16$LinesSpliterator"), (58, u "MAX_LENGTH"), (196, .class_ 628), (0, u "java/lang/StringUTF16$CodePointsSpliterator"), (0, .class_ 630), (0, u "java/lang/StringUTF16$CharsSpliterator")] 4

def k12m0 : Method := { name := "<init>", desc := "()V", sig := { parameters := [], returnType := none }, accessFlags := 0, code := none }
def k12c1 : Code := { maxStack := 2, maxLocals := 2, code := jdk_52_method_15_code, exceptionTable := #[], attributes := #[] }
def k12m1 : Method := { name := "coderFromArrayLen", desc := "([BI)B", sig := { parameters := [(.array .byte), .int], returnType := some .byte }, accessFlags := 8, code := some k12c1 }
def k12c2 : Code := { maxStack := 5, maxLocals := 6, code := jdk_52_method_16_code, exceptionTable := #[], attributes := #[] }
def k12m2 : Method := { name := "compress", desc := "([CII)[B", sig := { parameters := [(.array .char), .int, .int], returnType := some (.array .byte) }, accessFlags := 9, code := some k12c2 }
def k12c3 : Code := { maxStack := 3, maxLocals := 7, code := jdk_52_method_21_code, exceptionTable := #[], attributes := #[] }
def k12m3 : Method := { name := "compress", desc := "([CI[BII)I", sig := { parameters := [(.array .char), .int, (.array .byte), .int, .int], returnType := some .int }, accessFlags := 9, code := some k12c3 }
/-- java/lang/StringUTF16 -/
def k12 : Class := { plain "java/lang/StringUTF16" (some 0) with
  accessFlags := 48
  interfaces := #[]
  cf := some (fileOf pool12 12 #[.nestMembers #[627, 629, 369]] #[{ accessFlags := 0, nameIndex := 9, descriptorIndex := 10, attributes := #[] }, { accessFlags := 8, nameIndex := 261, descriptorIndex := 262, attributes := #[] }, { accessFlags := 9, nameIndex := 117, descriptorIndex := 122, attributes := #[] }, { accessFlags := 9, nameIndex := 117, descriptorIndex := 118, attributes := #[] }] 48 6 #[] #[{ accessFlags := 26, nameIndex := 61, descriptorIndex := 62, attributes := #[] }, { accessFlags := 26, nameIndex := 65, descriptorIndex := 62, attributes := #[] }, { accessFlags := 24, nameIndex := 430, descriptorIndex := 62, attributes := #[] }, { accessFlags := 4120, nameIndex := 46, descriptorIndex := 47, attributes := #[] }])
  fields := #[{ name := "HI_BYTE_SHIFT", type := .int, accessFlags := 26, slot := 0, constantValue := 0 }, { name := "LO_BYTE_SHIFT", type := .int, accessFlags := 26, slot := 1, constantValue := 0 }, { name := "MAX_LENGTH", type := .int, accessFlags := 24, slot := 2, constantValue := 0 }, { name := "$assertionsDisabled", type := .boolean, accessFlags := 4120, slot := 3, constantValue := 0 }]
  methods := #[k12m0, k12m1, k12m2, k12m3]
  instanceTypes := #[]
  staticTypes := #[.int, .int, .int, .boolean]
  resolved := Array.replicate 635 none
  statics := none }

def pool13 : Array CpInfo := pool [(2, .class_ 4), (1, u "java/lang/Object"), (0, u "<init>"), (0, u "()V"), (1, .class_ 10), (1, u "java/lang/System"), (0, u "allowSecurityManager"), (0, u "I"), (16, u "cons"), (0, u "Ljava/io/Console;"), (77, .class_ 110), (1, u "java/lang/System$CallersHolder"), (43, u "initialErrStream"), (0, u "Ljava/io/PrintStream;"), (19, u "security"), (0, u "Ljava/lang/SecurityManager;"), (31, .class_ 209), (0, u "java/lang/System$1"), (7, u "props"), (0, u "Ljava/util/Properties;"), (2, u "lineSeparator"), (0, u "Ljava/lang/String;"), (96, .class_ 321), (1, u "java/lang/System$LoggerFinder"), (5, .class_ 328), (0, u "java/lang/System$Logger"), (67, u "err"), (2, u "out"), (91, u "notSupportedJnuEncoding"), (15, u "in"), (17, u "initialIn"), (0, u "Ljava/io/InputStream;"), (35, u "bootLayer"), (0, u "Ljava/lang/ModuleLayer;"), (99, .class_ 664), (0, u "java/lang/System$2"), (9, u "NEVER"), (2, u "MAYBE"), (49, u "arraycopy"), (0, u "(Ljava/lang/Object;ILjava/lang/Object;II)V"), (72, .class_ 802), (0, u "java/lang/System$Logger$Level")] 31

def k13m0 : Method := { name := "<init>", desc := "()V", sig := { parameters := [], returnType := none }, accessFlags := 2, code := none }
def k13m1 : Method := { name := "arraycopy", desc := "(Ljava/lang/Object;ILjava/lang/Object;II)V", sig := { parameters := [(.object "java/lang/Object"), .int, (.object "java/lang/Object"), .int, .int], returnType := none }, accessFlags := 265, code := none }
/-- java/lang/System -/
def k13 : Class := { plain "java/lang/System" (some 0) with
  accessFlags := 49
  interfaces := #[]
  cf := some (fileOf pool13 8 #[.nestMembers #[319, 327, 801, 108, 663, 208]] #[{ accessFlags := 2, nameIndex := 5, descriptorIndex := 6, attributes := #[] }, { accessFlags := 265, nameIndex := 727, descriptorIndex := 728, attributes := #[] }] 49 2 #[] #[{ accessFlags := 25, nameIndex := 507, descriptorIndex := 526, attributes := #[] }, { accessFlags := 25, nameIndex := 399, descriptorIndex := 155, attributes := #[] }, { accessFlags := 25, nameIndex := 396, descriptorIndex := 155, attributes := #[] }, { accessFlags := 10, nameIndex := 525, descriptorIndex := 526, attributes := #[] }, { accessFlags := 26, nameIndex := 674, descriptorIndex := 12, attributes := #[] }, { accessFlags := 26, nameIndex := 677, descriptorIndex := 12, attributes := #[] }, { accessFlags := 10, nameIndex := 11, descriptorIndex := 12, attributes := #[] }, { accessFlags := 74, nameIndex := 175, descriptorIndex := 176, attributes := #[] }, { accessFlags := 10, nameIndex := 491, descriptorIndex := 222, attributes := #[] }, { accessFlags := 74, nameIndex := 29, descriptorIndex := 30, attributes := #[] }, { accessFlags := 74, nameIndex := 154, descriptorIndex := 155, attributes := #[] }, { accessFlags := 10, nameIndex := 217, descriptorIndex := 218, attributes := #[] }, { accessFlags := 10, nameIndex := 221, descriptorIndex := 222, attributes := #[] }, { accessFlags := 8, nameIndex := 562, descriptorIndex := 563, attributes := #[] }])
  fields := #[{ name := "in", type := (.object "java/io/InputStream"), accessFlags := 25, slot := 0, constantValue := 0 }, { name := "out", type := (.object "java/io/PrintStream"), accessFlags := 25, slot := 1, constantValue := 0 }, { name := "err", type := (.object "java/io/PrintStream"), accessFlags := 25, slot := 2, constantValue := 0 }, { name := "initialIn", type := (.object "java/io/InputStream"), accessFlags := 10, slot := 3, constantValue := 0 }, { name := "NEVER", type := .int, accessFlags := 26, slot := 4, constantValue := 0 }, { name := "MAYBE", type := .int, accessFlags := 26, slot := 5, constantValue := 0 }, { name := "allowSecurityManager", type := .int, accessFlags := 10, slot := 6, constantValue := 0 }, { name := "security", type := (.object "java/lang/SecurityManager"), accessFlags := 74, slot := 7, constantValue := 0 }, { name := "notSupportedJnuEncoding", type := (.object "java/lang/String"), accessFlags := 10, slot := 8, constantValue := 0 }, { name := "cons", type := (.object "java/io/Console"), accessFlags := 74, slot := 9, constantValue := 0 }, { name := "initialErrStream", type := (.object "java/io/PrintStream"), accessFlags := 74, slot := 10, constantValue := 0 }, { name := "props", type := (.object "java/util/Properties"), accessFlags := 10, slot := 11, constantValue := 0 }, { name := "lineSeparator", type := (.object "java/lang/String"), accessFlags := 10, slot := 12, constantValue := 0 }, { name := "bootLayer", type := (.object "java/lang/ModuleLayer"), accessFlags := 8, slot := 13, constantValue := 0 }]
  methods := #[k13m0, k13m1]
  instanceTypes := #[]
  staticTypes := #[(.object "java/io/InputStream"), (.object "java/io/PrintStream"), (.object "java/io/PrintStream"), (.object "java/io/InputStream"), .int, .int, .int, (.object "java/lang/SecurityManager"), (.object "java/lang/String"), (.object "java/io/Console"), (.object "java/io/PrintStream"), (.object "java/util/Properties"), (.object "java/lang/String"), (.object "java/lang/ModuleLayer")]
  resolved := Array.replicate 834 none
  statics := none }

def pool14 : Array CpInfo := pool [(1, .class_ 2), (0, u "java/lang/Math"), (1, .class_ 6), (1, u "java/lang/Object"), (0, u "<init>"), (0, u "()V"), (89, .class_ 100), (1, u "java/lang/Math$RandomNumberGeneratorHolder"), (71, u "negativeZeroFloatBits"), (0, u "J"), (2, u "negativeZeroDoubleBits"), (21, u "max"), (2, u "min"), (43, u "$assertionsDisabled"), (0, u "Z"), (88, u "(II)I"), (2, u "twoToTheDoubleScaleDown"), (0, u "D"), (4, u "twoToTheDoubleScaleUp"), (9, u "E"), (3, u "PI"), (2, u "TAU"), (2, u "DEGREES_TO_RADIANS"), (0, u "RADIANS_TO_DEGREES")] 94

def k14m0 : Method := { name := "<init>", desc := "()V", sig := { parameters := [], returnType := none }, accessFlags := 2, code := none }
def k14c1 : Code := { maxStack := 2, maxLocals := 2, code := jdk_29_method_65_code, exceptionTable := #[], attributes := #[] }
def k14m1 : Method := { name := "max", desc := "(II)I", sig := { parameters := [.int, .int], returnType := some .int }, accessFlags := 9, code := some k14c1 }
def k14c2 : Code := { maxStack := 2, maxLocals := 2, code := jdk_29_method_69_code, exceptionTable := #[], attributes := #[] }
def k14m2 : Method := { name := "min", desc := "(II)I", sig := { parameters := [.int, .int], returnType := some .int }, accessFlags := 9, code := some k14c2 }
/-- java/lang/Math -/
def k14 : Class := { plain "java/lang/Math" (some 0) with
  accessFlags := 49
  interfaces := #[]
  cf := some (fileOf pool14 1 #[.nestMembers #[98]] #[{ accessFlags := 2, nameIndex := 7, descriptorIndex := 8, attributes := #[] }, { accessFlags := 9, nameIndex := 198, descriptorIndex := 335, attributes := #[] }, { accessFlags := 9, nameIndex := 201, descriptorIndex := 335, attributes := #[] }] 49 4 #[] #[{ accessFlags := 25, nameIndex := 354, descriptorIndex := 339, attributes := #[] }, { accessFlags := 25, nameIndex := 358, descriptorIndex := 339, attributes := #[] }, { accessFlags := 25, nameIndex := 361, descriptorIndex := 339, attributes := #[] }, { accessFlags := 26, nameIndex := 364, descriptorIndex := 339, attributes := #[] }, { accessFlags := 26, nameIndex := 365, descriptorIndex := 339, attributes := #[] }, { accessFlags := 26, nameIndex := 172, descriptorIndex := 173, attributes := #[] }, { accessFlags := 26, nameIndex := 176, descriptorIndex := 173, attributes := #[] }, { accessFlags := 8, nameIndex := 344, descriptorIndex := 339, attributes := #[] }, { accessFlags := 8, nameIndex := 338, descriptorIndex := 339, attributes := #[] }, { accessFlags := 4120, nameIndex := 245, descriptorIndex := 246, attributes := #[] }])
  fields := #[{ name := "E", type := .double, accessFlags := 25, slot := 0, constantValue := 0 }, { name := "PI", type := .double, accessFlags := 25, slot := 1, constantValue := 0 }, { name := "TAU", type := .double, accessFlags := 25, slot := 2, constantValue := 0 }, { name := "DEGREES_TO_RADIANS", type := .double, accessFlags := 26, slot := 3, constantValue := 0 }, { name := "RADIANS_TO_DEGREES", type := .double, accessFlags := 26, slot := 4, constantValue := 0 }, { name := "negativeZeroFloatBits", type := .long, accessFlags := 26, slot := 5, constantValue := 0 }, { name := "negativeZeroDoubleBits", type := .long, accessFlags := 26, slot := 6, constantValue := 0 }, { name := "twoToTheDoubleScaleUp", type := .double, accessFlags := 8, slot := 7, constantValue := 0 }, { name := "twoToTheDoubleScaleDown", type := .double, accessFlags := 8, slot := 8, constantValue := 0 }, { name := "$assertionsDisabled", type := .boolean, accessFlags := 4120, slot := 9, constantValue := 0 }]
  methods := #[k14m0, k14m1, k14m2]
  instanceTypes := #[]
  staticTypes := #[.double, .double, .double, .double, .double, .long, .long, .double, .double, .boolean]
  resolved := Array.replicate 460 none
  statics := none }

def pool15 : Array CpInfo := pool [(2, .class_ 4), (1, u "java/lang/Object"), (0, u "<init>"), (0, u "()V"), (7, .class_ 16), (1, u "java/util/Arrays"), (57, .class_ 76), (1, u "java/util/Arrays$NaturalOrder"), (36, .class_ 115), (1, u "java/util/Arrays$LegacyMergeSort"), (1, u "Z"), (32, .methodref 151 152), (0, .class_ 153), (0, .nameAndType 154 155), (0, u "java/lang/System"), (0, u "arraycopy"), (0, u "(Ljava/lang/Object;ILjava/lang/Object;II)V"), (146, u "copyOf"), (1, .methodref 305 306), (0, .class_ 307), (0, .nameAndType 308 309), (0, u "java/lang/Math"), (0, u "min"), (0, u "(II)I"), (65, .class_ 376), (0, u "java/util/Arrays$ArrayList"), (68, u "$assertionsDisabled"), (269, u "MIN_ARRAY_SORT_GRAN"), (0, u "I"), (2, u "INSERTIONSORT_THRESHOLD"), (149, u "([BI)[B"), (1, u "([II)[I"), (103, .class_ 976), (0, u "java/util/Arrays$ArrayItr")] 52

def k15m0 : Method := { name := "<init>", desc := "()V", sig := { parameters := [], returnType := none }, accessFlags := 2, code := none }
def k15c1 : Code := { maxStack := 6, maxLocals := 3, code := jdk_65_method_121_code, exceptionTable := #[], attributes := #[] }
def k15m1 : Method := { name := "copyOf", desc := "([BI)[B", sig := { parameters := [(.array .byte), .int], returnType := some (.array .byte) }, accessFlags := 9, code := some k15c1 }
def k15c2 : Code := { maxStack := 6, maxLocals := 3, code := jdk_65_method_123_code, exceptionTable := #[], attributes := #[] }
def k15m2 : Method := { name := "copyOf", desc := "([II)[I", sig := { parameters := [(.array .int), .int], returnType := some (.array .int) }, accessFlags := 9, code := some k15c2 }
/-- java/util/Arrays -/
def k15 : Class := { plain "java/util/Arrays" (some 0) with
  accessFlags := 49
  interfaces := #[]
  cf := some (fileOf pool15 14 #[.nestMembers #[975, 375, 113, 74]] #[{ accessFlags := 2, nameIndex := 5, descriptorIndex := 6, attributes := #[] }, { accessFlags := 9, nameIndex := 302, descriptorIndex := 869, attributes := #[] }, { accessFlags := 9, nameIndex := 302, descriptorIndex := 871, attributes := #[] }] 49 2 #[] #[{ accessFlags := 26, nameIndex := 715, descriptorIndex := 716, attributes := #[] }, { accessFlags := 26, nameIndex := 719, descriptorIndex := 716, attributes := #[] }, { accessFlags := 4120, nameIndex := 445, descriptorIndex := 117, attributes := #[] }])
  fields := #[{ name := "MIN_ARRAY_SORT_GRAN", type := .int, accessFlags := 26, slot := 0, constantValue := 0 }, { name := "INSERTIONSORT_THRESHOLD", type := .int, accessFlags := 26, slot := 1, constantValue := 0 }, { name := "$assertionsDisabled", type := .boolean, accessFlags := 4120, slot := 2, constantValue := 0 }]
  methods := #[k15m0, k15m1, k15m2]
  instanceTypes := #[]
  staticTypes := #[.int, .int, .boolean]
  resolved := Array.replicate 1029 none
  statics := none }

def pool16 : Array CpInfo := pool [(2, .class_ 4), (1, u "java/lang/Object"), (0, u "<init>"), (0, u "()V"), (17, .class_ 26), (1, u "jdk/internal/util/Preconditions"), (20, u "checkFromToIndex"), (7, .class_ 56), (0, u "jdk/internal/util/Preconditions$4"), (57, .class_ 115), (0, u "jdk/internal/util/Preconditions$1"), (7, u "SIOOBE_FORMATTER"), (0, u "Ljava/util/function/BiFunction;"), (0, .class_ 126), (0, u "jdk/internal/util/Preconditions$2"), (3, u "AIOOBE_FORMATTER"), (0, .class_ 132), (0, u "jdk/internal/util/Preconditions$3"), (3, u "IOOBE_FORMATTER"), (46, u "(IIILjava/util/function/BiFunction;)I")] 10

def k16m0 : Method := { name := "<init>", desc := "()V", sig := { parameters := [], returnType := none }, accessFlags := 1, code := none }
def k16c1 : Code := { maxStack := 4, maxLocals := 4, code := jdk_41_method_12_code, exceptionTable := #[], attributes := #[] }
def k16m1 : Method := { name := "checkFromToIndex", desc := "(IIILjava/util/function/BiFunction;)I", sig := { parameters := [.int, .int, .int, (.object "java/util/function/BiFunction")], returnType := some .int }, accessFlags := 9, code := some k16c1 }
/-- jdk/internal/util/Preconditions -/
def k16 : Class := { plain "jdk/internal/util/Preconditions" (some 0) with
  accessFlags := 33
  interfaces := #[]
  cf := some (fileOf pool16 24 #[.nestMembers #[55, 131, 125, 114]] #[{ accessFlags := 1, nameIndex := 5, descriptorIndex := 6, attributes := #[] }, { accessFlags := 9, nameIndex := 47, descriptorIndex := 183, attributes := #[] }] 33 2 #[] #[{ accessFlags := 25, nameIndex := 123, descriptorIndex := 124, attributes := #[] }, { accessFlags := 25, nameIndex := 130, descriptorIndex := 124, attributes := #[] }, { accessFlags := 25, nameIndex := 136, descriptorIndex := 124, attributes := #[] }])
  fields := #[{ name := "SIOOBE_FORMATTER", type := (.object "java/util/function/BiFunction"), accessFlags := 25, slot := 0, constantValue := 0 }, { name := "AIOOBE_FORMATTER", type := (.object "java/util/function/BiFunction"), accessFlags := 25, slot := 1, constantValue := 0 }, { name := "IOOBE_FORMATTER", type := (.object "java/util/function/BiFunction"), accessFlags := 25, slot := 2, constantValue := 0 }]
  methods := #[k16m0, k16m1]
  instanceTypes := #[]
  staticTypes := #[(.object "java/util/function/BiFunction"), (.object "java/util/function/BiFunction"), (.object "java/util/function/BiFunction")]
  resolved := Array.replicate 194 none
  statics := some 1 }

def pool17 : Array CpInfo := pool [(4, .class_ 6), (1, u "java/lang/Object"), (0, u "<init>"), (0, u "()V"), (5, .class_ 16), (1, u "java/lang/StringLatin1"), (73, u "canEncode"), (14, u "(C)Z"), (15, u "$assertionsDisabled"), (0, u "Z"), (98, .class_ 223), (1, u "java/lang/StringLatin1$LinesSpliterator"), (156, u "toBytes"), (1, u "(C)[B"), (7, .class_ 391), (0, u "java/lang/StringLatin1$CharsSpliterator")] 3

def k17m0 : Method := { name := "<init>", desc := "()V", sig := { parameters := [], returnType := none }, accessFlags := 0, code := none }
def k17c1 : Code := { maxStack := 2, maxLocals := 1, code := jdk_43_method_3_code, exceptionTable := #[], attributes := #[] }
def k17m1 : Method := { name := "canEncode", desc := "(C)Z", sig := { parameters := [.char], returnType := some .boolean }, accessFlags := 9, code := some k17c1 }
def k17c2 : Code := { maxStack := 4, maxLocals := 1, code := jdk_43_method_46_code, exceptionTable := #[], attributes := #[] }
def k17m2 : Method := { name := "toBytes", desc := "(C)[B", sig := { parameters := [.char], returnType := some (.array .byte) }, accessFlags := 9, code := some k17c2 }
/-- java/lang/StringLatin1 -/
def k17 : Class := { plain "java/lang/StringLatin1" (some 0) with
  accessFlags := 48
  interfaces := #[]
  cf := some (fileOf pool17 14 #[.nestMembers #[390, 221]] #[{ accessFlags := 0, nameIndex := 7, descriptorIndex := 8, attributes := #[] }, { accessFlags := 9, nameIndex := 90, descriptorIndex := 105, attributes := #[] }, { accessFlags := 9, nameIndex := 380, descriptorIndex := 382, attributes := #[] }] 48 4 #[] #[{ accessFlags := 4120, nameIndex := 121, descriptorIndex := 122, attributes := #[] }])
  fields := #[{ name := "$assertionsDisabled", type := .boolean, accessFlags := 4120, slot := 0, constantValue := 0 }]
  methods := #[k17m0, k17m1, k17m2]
  instanceTypes := #[]
  staticTypes := #[.boolean]
  resolved := Array.replicate 395 none
  statics := none }

def pool18 : Array CpInfo := pool [(9, u "<init>"), (6, .class_ 18), (1, u "java/lang/Object"), (0, u "()V"), (1, .class_ 23), (1, u "jdk/internal/util/ArraysSupport"), (0, u "LOG2_ARRAY_LONG_INDEX_SCALE"), (0, u "I"), (2, u "U"), (0, u "Ljdk/internal/misc/Unsafe;"), (8, u "BIG_ENDIAN"), (0, u "Z"), (8, u "LOG2_BYTE_BIT_SIZE"), (4, u "LOG2_ARRAY_INT_INDEX_SCALE"), (54, u "JLA"), (0, u "Ljdk/internal/access/JavaLangAccess;"), (11, u "LOG2_ARRAY_BOOLEAN_INDEX_SCALE"), (9, u "LOG2_ARRAY_BYTE_INDEX_SCALE"), (5, u "LOG2_ARRAY_CHAR_INDEX_SCALE"), (5, u "LOG2_ARRAY_SHORT_INDEX_SCALE"), (18, u "LOG2_ARRAY_FLOAT_INDEX_SCALE"), (24, u "LOG2_ARRAY_DOUBLE_INDEX_SCALE"), (89, u "T_BOOLEAN"), (2, u "T_CHAR"), (1, u "T_FLOAT"), (1, u "T_DOUBLE"), (1, u "T_BYTE"), (1, u "T_SHORT"), (1, u "T_INT"), (1, u "T_LONG"), (1, u "SOFT_MAX_ARRAY_LENGTH")] 83

def k18m0 : Method := { name := "<init>", desc := "()V", sig := { parameters := [], returnType := none }, accessFlags := 2, code := none }
/-- jdk/internal/util/ArraysSupport -/
def k18 : Class := { plain "jdk/internal/util/ArraysSupport" (some 0) with
  accessFlags := 33
  interfaces := #[]
  cf := some (fileOf pool18 21 #[] #[{ accessFlags := 2, nameIndex := 9, descriptorIndex := 19, attributes := #[] }] 33 16 #[] #[{ accessFlags := 24, nameIndex := 28, descriptorIndex := 29, attributes := #[] }, { accessFlags := 26, nameIndex := 38, descriptorIndex := 39, attributes := #[] }, { accessFlags := 25, nameIndex := 121, descriptorIndex := 25, attributes := #[] }, { accessFlags := 25, nameIndex := 131, descriptorIndex := 25, attributes := #[] }, { accessFlags := 25, nameIndex := 137, descriptorIndex := 25, attributes := #[] }, { accessFlags := 25, nameIndex := 143, descriptorIndex := 25, attributes := #[] }, { accessFlags := 25, nameIndex := 53, descriptorIndex := 25, attributes := #[] }, { accessFlags := 25, nameIndex := 24, descriptorIndex := 25, attributes := #[] }, { accessFlags := 25, nameIndex := 162, descriptorIndex := 25, attributes := #[] }, { accessFlags := 25, nameIndex := 187, descriptorIndex := 25, attributes := #[] }, { accessFlags := 26, nameIndex := 48, descriptorIndex := 25, attributes := #[] }, { accessFlags := 25, nameIndex := 277, descriptorIndex := 25, attributes := #[] }, { accessFlags := 25, nameIndex := 280, descriptorIndex := 25, attributes := #[] }, { accessFlags := 25, nameIndex := 282, descriptorIndex := 25, attributes := #[] }, { accessFlags := 25, nameIndex := 284, descriptorIndex := 25, attributes := #[] }, { accessFlags := 25, nameIndex := 286, descriptorIndex := 25, attributes := #[] }, { accessFlags := 25, nameIndex := 288, descriptorIndex := 25, attributes := #[] }, { accessFlags := 25, nameIndex := 290, descriptorIndex := 25, attributes := #[] }, { accessFlags := 25, nameIndex := 292, descriptorIndex := 25, attributes := #[] }, { accessFlags := 26, nameIndex := 108, descriptorIndex := 109, attributes := #[] }, { accessFlags := 25, nameIndex := 294, descriptorIndex := 25, attributes := #[] }])
  fields := #[{ name := "U", type := (.object "jdk/internal/misc/Unsafe"), accessFlags := 24, slot := 0, constantValue := 0 }, { name := "BIG_ENDIAN", type := .boolean, accessFlags := 26, slot := 1, constantValue := 0 }, { name := "LOG2_ARRAY_BOOLEAN_INDEX_SCALE", type := .int, accessFlags := 25, slot := 2, constantValue := 0 }, { name := "LOG2_ARRAY_BYTE_INDEX_SCALE", type := .int, accessFlags := 25, slot := 3, constantValue := 0 }, { name := "LOG2_ARRAY_CHAR_INDEX_SCALE", type := .int, accessFlags := 25, slot := 4, constantValue := 0 }, { name := "LOG2_ARRAY_SHORT_INDEX_SCALE", type := .int, accessFlags := 25, slot := 5, constantValue := 0 }, { name := "LOG2_ARRAY_INT_INDEX_SCALE", type := .int, accessFlags := 25, slot := 6, constantValue := 0 }, { name := "LOG2_ARRAY_LONG_INDEX_SCALE", type := .int, accessFlags := 25, slot := 7, constantValue := 0 }, { name := "LOG2_ARRAY_FLOAT_INDEX_SCALE", type := .int, accessFlags := 25, slot := 8, constantValue := 0 }, { name := "LOG2_ARRAY_DOUBLE_INDEX_SCALE", type := .int, accessFlags := 25, slot := 9, constantValue := 0 }, { name := "LOG2_BYTE_BIT_SIZE", type := .int, accessFlags := 26, slot := 10, constantValue := 0 }, { name := "T_BOOLEAN", type := .int, accessFlags := 25, slot := 11, constantValue := 0 }, { name := "T_CHAR", type := .int, accessFlags := 25, slot := 12, constantValue := 0 }, { name := "T_FLOAT", type := .int, accessFlags := 25, slot := 13, constantValue := 0 }, { name := "T_DOUBLE", type := .int, accessFlags := 25, slot := 14, constantValue := 0 }, { name := "T_BYTE", type := .int, accessFlags := 25, slot := 15, constantValue := 0 }, { name := "T_SHORT", type := .int, accessFlags := 25, slot := 16, constantValue := 0 }, { name := "T_INT", type := .int, accessFlags := 25, slot := 17, constantValue := 0 }, { name := "T_LONG", type := .int, accessFlags := 25, slot := 18, constantValue := 0 }, { name := "JLA", type := (.object "jdk/internal/access/JavaLangAccess"), accessFlags := 26, slot := 19, constantValue := 0 }, { name := "SOFT_MAX_ARRAY_LENGTH", type := .int, accessFlags := 25, slot := 20, constantValue := 0 }]
  methods := #[k18m0]
  instanceTypes := #[]
  staticTypes := #[(.object "jdk/internal/misc/Unsafe"), .boolean, .int, .int, .int, .int, .int, .int, .int, .int, .int, .int, .int, .int, .int, .int, .int, .int, .int, (.object "jdk/internal/access/JavaLangAccess"), .int]
  resolved := Array.replicate 378 none
  statics := none }

def pool19 : Array CpInfo := pool [(1, u "java/lang/Cloneable"), (0, .class_ 1), (0, u "java/lang/Object"), (0, .class_ 3)] 3

/-- java/lang/Cloneable -/
def k19 : Class := { plain "java/lang/Cloneable" (some 0) with
  accessFlags := 1537
  interfaces := #[]
  cf := some (fileOf pool19 2 #[] #[] 1537 4 #[] #[])
  fields := #[]
  methods := #[]
  instanceTypes := #[]
  staticTypes := #[]
  resolved := Array.replicate 8 none
  statics := none }

/-- the primitive byte -/
def k20 : Class := { plain "byte" none with kind := .primitive 'B', accessFlags := 0x411 }
/-- [B -/
def k21 : Class := { plain "[B" (some 0) with kind := .array 20 .byte, interfaces := #[19, 6], accessFlags := 1041 }

/-- the primitive char -/
def k22 : Class := { plain "char" none with kind := .primitive 'C', accessFlags := 0x411 }
/-- [C -/
def k23 : Class := { plain "[C" (some 0) with kind := .array 22 .char, interfaces := #[19, 6], accessFlags := 1041 }

/-- the primitive int -/
def k24 : Class := { plain "int" none with kind := .primitive 'I', accessFlags := 0x411 }
/-- [I -/
def k25 : Class := { plain "[I" (some 0) with kind := .array 24 .int, interfaces := #[19, 6], accessFlags := 1041 }

def heap : Heap := #[{ cls := 11, slots := #[.long 0, .int 1, .null, .int 0, .null, .int 0, .int 0], vm := .statics 11 },
  { cls := 16, slots := #[.null, .null, .null], vm := .statics 16 }]
def classes : Array Class := #[k0, k1, k2, k3, k4, k5, k6, k7, k8, k9, k10, k11, k12, k13, k14, k15, k16, k17, k18, k19, k20, k21, k22, k23, k24, k25]
def interned : List (Array UInt16 × Addr) := []
def slotsUsed : Nat := 10
def theMethod : MethodId := ⟨1, 3⟩
def args0 : Array Value := #[.int 0, .int 0, .int 0, .int 0, .int 0, .int 0]
def aboutOver (below : List Frame) : State where
  vm := { classes := classes, interned := interned.toArray }
  heap := heap
  slotsUsed := slotsUsed
  threads := #[{ frames := .invoking theMethod args0 :: below }]
def below0 : List Frame := [.native { method := ⟨0, 0⟩, args := #[] }]
def about1 : State := aboutOver below0
def p0 : Program := .bare "" "" ""
def e0 : Env := launch0.env 0 0 0
theorem w_frames : about1.frames = Frame.invoking theMethod args0 :: below0 := rfl
set_option maxRecDepth 65536 in
theorem w_args : argsFit about1.vm theMethod args0 = true := by decide +kernel
set_option maxRecDepth 65536 in
theorem w_heap : heapFits about1 = true := by decide +kernel
set_option maxRecDepth 65536 in
theorem w_runnable : about1.curStatus? = some .runnable := by decide +kernel
set_option maxRecDepth 65536 in
theorem w_alone : about1.alone = true := by decide +kernel
set_option maxRecDepth 65536 in
theorem w_named : about1.methodNamed? x = some theMethod := by decide +kernel
set_option maxRecDepth 65536 in
theorem w_hears : about1.hears theMethod below0 = true := by decide +kernel
set_option maxRecDepth 65536 in
theorem w_ripe : about1.ripe theMethod args0 below0 = true := by decide +kernel
theorem w_running : about1.status = .running := rfl
set_option maxRecDepth 65536 in
theorem w_room : about1.hasRoom e0.platform room_1 = true :=
  launch0.hasRoom_least _ room_1 (by decide +kernel) (by decide +kernel) (by decide +kernel) (by decide +kernel) (by decide +kernel) (by decide +kernel)
theorem allAtoms_all (ts : List Jvm.Cond) (a : Array Jvm.Value) (st : Jvm.State) : (allAtoms ts).before a st = ts.all (fun c => c.before a st) := by
  induction ts with
  | nil => rfl
  | cons c t ih =>
    show (Jvm.Cond.and c (allAtoms t)).before a st = _
    rw [Jvm.Cond.before_and, ih, List.all_cons]
def words1 : List Jvm.Cond := Jvm.Cond.code x code maxLocals ret :: tables_1
/-- a 'code' word, met by the world's own term for the bytes: nothing is compared byte by byte -/
theorem code_word {y : MethodName} {bytes : ByteArray} {mx : Nat} {rt : Option FieldType} {a : Array Value} {s : State} {m : MethodId} {meth : Method} {c : Code} (h1 : s.methodNamed? y = some m) (h2 : s.vm.method? m = some meth) (h3 : meth.code = some c) (h4 : c.code = bytes)
    (h5 : (c.maxLocals == mx && c.exceptionTable.isEmpty && decide (c.maxStack ≤ mostOperands) && decide (meth.sig.returnType = rt) && !meth.locks && decide (parseMethodDescriptor y.desc = some meth.sig)) = true) : (Jvm.Cond.code y bytes mx rt).before a s = true := by
  simp only [Bool.and_eq_true, beq_iff_eq, Bool.not_eq_true', decide_eq_true_eq] at h5
  obtain ⟨⟨⟨⟨⟨g1, g2⟩, g3⟩, g4⟩, g5⟩, g6⟩ := h5
  simp [Cond.before, Cond.holds, Cond.value, h1, h2, h3, h4, g1, g2, g3, g4, g5, g6]
def isCode : Jvm.Cond → Bool
  | .code _ _ _ _ => true
  | _ => false
theorem all_split {L : List Jvm.Cond} {P : Jvm.Cond → Bool} (h1 : L.all (fun c => isCode c || P c) = true) (h2 : ∀ c ∈ L.filter isCode, P c = true) : L.all P = true := by
  refine List.all_eq_true.mpr fun c hc => ?_
  have h := List.all_eq_true.mp h1 c hc
  rcases Bool.eq_false_or_eq_true (isCode c) with hi | hi
  · exact h2 c (List.mem_filter.mpr ⟨hc, hi⟩)
  · simpa [hi] using h
set_option maxRecDepth 65536 in
theorem w_c0 : (Jvm.Cond.code x code maxLocals ret).before args0 about1 = true := code_word (m := ⟨1, 3⟩) (meth := k1m3) (c := k1c3) (by decide +kernel) rfl rfl rfl (by decide +kernel)
set_option maxRecDepth 65536 in
theorem w_c1 : (Jvm.Cond.code ({ cls := "com/example/nodewarden/nodewarden/core/Asides", name := "<init>", desc := "()V" } : Jvm.MethodName) prog_3_method_1_code (1 : Nat) (Option.none : Option Jvm.ClassFile.FieldType)).before args0 about1 = true := code_word (m := ⟨2, 0⟩) (meth := k2m0) (c := k2c0) (by decide +kernel) rfl rfl rfl (by decide +kernel)
set_option maxRecDepth 65536 in
theorem w_c2 : (Jvm.Cond.code ({ cls := "java/lang/Object", name := "<init>", desc := "()V" } : Jvm.MethodName) object_method_1_code (1 : Nat) (Option.none : Option Jvm.ClassFile.FieldType)).before args0 about1 = true := code_word (m := ⟨0, 0⟩) (meth := k0m0) (c := k0c0) (by decide +kernel) rfl rfl rfl (by decide +kernel)
set_option maxRecDepth 65536 in
theorem w_c3 : (Jvm.Cond.code ({ cls := "java/lang/StringBuilder", name := "<init>", desc := "()V" } : Jvm.MethodName) jdk_67_method_1_code (1 : Nat) (Option.none : Option Jvm.ClassFile.FieldType)).before args0 about1 = true := code_word (m := ⟨8, 0⟩) (meth := k8m0) (c := k8c0) (by decide +kernel) rfl rfl rfl (by decide +kernel)
set_option maxRecDepth 65536 in
theorem w_c4 : (Jvm.Cond.code ({ cls := "java/lang/AbstractStringBuilder", name := "<init>", desc := "(I)V" } : Jvm.MethodName) jdk_68_method_2_code (2 : Nat) (Option.none : Option Jvm.ClassFile.FieldType)).before args0 about1 = true := code_word (m := ⟨5, 1⟩) (meth := k5m1) (c := k5c1) (by decide +kernel) rfl rfl rfl (by decide +kernel)
set_option maxRecDepth 65536 in
theorem w_c5 : (Jvm.Cond.code ({ cls := "com/example/nodewarden/nodewarden/core/AsidesIsCommentPinLaw", name := "add", desc := "(Lcom/example/nodewarden/nodewarden/core/Asides;ZIIIII)V" } : Jvm.MethodName) method_3_code (10 : Nat) (Option.none : Option Jvm.ClassFile.FieldType)).before args0 about1 = true := code_word (m := ⟨1, 2⟩) (meth := k1m2) (c := k1c2) (by decide +kernel) rfl rfl rfl (by decide +kernel)
set_option maxRecDepth 65536 in
theorem w_c6 : (Jvm.Cond.code ({ cls := "com/example/nodewarden/nodewarden/core/AsidesIsCommentPinLaw", name := "str", desc := "(II)Ljava/lang/String;" } : Jvm.MethodName) method_2_code (5 : Nat) (Option.some (Jvm.ClassFile.FieldType.object "java/lang/String"))).before args0 about1 = true := code_word (m := ⟨1, 1⟩) (meth := k1m1) (c := k1c1) (by decide +kernel) rfl rfl rfl (by decide +kernel)
set_option maxRecDepth 65536 in
theorem w_c7 : (Jvm.Cond.code ({ cls := "java/lang/String", name := "<init>", desc := "([C)V" } : Jvm.MethodName) jdk_42_method_3_code (2 : Nat) (Option.none : Option Jvm.ClassFile.FieldType)).before args0 about1 = true := code_word (m := ⟨11, 1⟩) (meth := k11m1) (c := k11c1) (by decide +kernel) rfl rfl rfl (by decide +kernel)
set_option maxRecDepth 65536 in
theorem w_c8 : (Jvm.Cond.code ({ cls := "java/lang/String", name := "<init>", desc := "([CIILjava/lang/Void;)V" } : Jvm.MethodName) jdk_42_method_149_code (6 : Nat) (Option.none : Option Jvm.ClassFile.FieldType)).before args0 about1 = true := code_word (m := ⟨11, 5⟩) (meth := k11m5) (c := k11c5) (by decide +kernel) rfl rfl rfl (by decide +kernel)
set_option maxRecDepth 65536 in
theorem w_c9 : (Jvm.Cond.code ({ cls := "java/lang/StringUTF16", name := "compress", desc := "([CII)[B" } : Jvm.MethodName) jdk_52_method_16_code (6 : Nat) (Option.some (Jvm.ClassFile.FieldType.array Jvm.ClassFile.FieldType.byte))).before args0 about1 = true := code_word (m := ⟨12, 2⟩) (meth := k12m2) (c := k12c2) (by decide +kernel) rfl rfl rfl (by decide +kernel)
set_option maxRecDepth 65536 in
theorem w_c10 : (Jvm.Cond.code ({ cls := "java/lang/StringUTF16", name := "compress", desc := "([CI[BII)I" } : Jvm.MethodName) jdk_52_method_21_code (7 : Nat) (Option.some Jvm.ClassFile.FieldType.int)).before args0 about1 = true := code_word (m := ⟨12, 3⟩) (meth := k12m3) (c := k12c3) (by decide +kernel) rfl rfl rfl (by decide +kernel)
set_option maxRecDepth 65536 in
theorem w_c11 : (Jvm.Cond.code ({ cls := "java/lang/StringUTF16", name := "coderFromArrayLen", desc := "([BI)B" } : Jvm.MethodName) jdk_52_method_15_code (2 : Nat) (Option.some Jvm.ClassFile.FieldType.byte)).before args0 about1 = true := code_word (m := ⟨12, 1⟩) (meth := k12m1) (c := k12c1) (by decide +kernel) rfl rfl rfl (by decide +kernel)
set_option maxRecDepth 65536 in
theorem w_c12 : (Jvm.Cond.code ({ cls := "com/example/nodewarden/nodewarden/core/Asides", name := "addInstruction", desc := "(IIILjava/lang/String;Ljava/lang/String;)V" } : Jvm.MethodName) prog_3_method_3_code (7 : Nat) (Option.none : Option Jvm.ClassFile.FieldType)).before args0 about1 = true := code_word (m := ⟨2, 2⟩) (meth := k2m2) (c := k2c2) (by decide +kernel) rfl rfl rfl (by decide +kernel)
set_option maxRecDepth 65536 in
theorem w_c13 : (Jvm.Cond.code ({ cls := "java/lang/StringBuilder", name := "append", desc := "(Ljava/lang/String;)Ljava/lang/StringBuilder;" } : Jvm.MethodName) jdk_67_method_7_code (2 : Nat) (Option.some (Jvm.ClassFile.FieldType.object "java/lang/StringBuilder"))).before args0 about1 = true := code_word (m := ⟨8, 1⟩) (meth := k8m1) (c := k8c1) (by decide +kernel) rfl rfl rfl (by decide +kernel)
set_option maxRecDepth 65536 in
theorem w_c14 : (Jvm.Cond.code ({ cls := "java/lang/AbstractStringBuilder", name := "append", desc := "(Ljava/lang/String;)Ljava/lang/AbstractStringBuilder;" } : Jvm.MethodName) jdk_68_method_22_code (3 : Nat) (Option.some (Jvm.ClassFile.FieldType.object "java/lang/AbstractStringBuilder"))).before args0 about1 = true := code_word (m := ⟨5, 5⟩) (meth := k5m5) (c := k5c5) (by decide +kernel) rfl rfl rfl (by decide +kernel)
set_option maxRecDepth 65536 in
theorem w_c15 : (Jvm.Cond.code ({ cls := "java/lang/String", name := "length", desc := "()I" } : Jvm.MethodName) jdk_42_method_54_code (1 : Nat) (Option.some Jvm.ClassFile.FieldType.int)).before args0 about1 = true := code_word (m := ⟨11, 2⟩) (meth := k11m2) (c := k11c2) (by decide +kernel) rfl rfl rfl (by decide +kernel)
set_option maxRecDepth 65536 in
theorem w_c16 : (Jvm.Cond.code ({ cls := "java/lang/String", name := "coder", desc := "()B" } : Jvm.MethodName) jdk_42_method_152_code (1 : Nat) (Option.some Jvm.ClassFile.FieldType.byte)).before args0 about1 = true := code_word (m := ⟨11, 7⟩) (meth := k11m7) (c := k11c7) (by decide +kernel) rfl rfl rfl (by decide +kernel)
set_option maxRecDepth 65536 in
theorem w_c17 : (Jvm.Cond.code ({ cls := "java/lang/AbstractStringBuilder", name := "ensureCapacityInternal", desc := "(I)V" } : Jvm.MethodName) jdk_68_method_9_code (3 : Nat) (Option.none : Option Jvm.ClassFile.FieldType)).before args0 about1 = true := code_word (m := ⟨5, 3⟩) (meth := k5m3) (c := k5c3) (by decide +kernel) rfl rfl rfl (by decide +kernel)
set_option maxRecDepth 65536 in
theorem w_c18 : (Jvm.Cond.code ({ cls := "java/lang/AbstractStringBuilder", name := "putStringAt", desc := "(ILjava/lang/String;)V" } : Jvm.MethodName) jdk_68_method_73_code (3 : Nat) (Option.none : Option Jvm.ClassFile.FieldType)).before args0 about1 = true := code_word (m := ⟨5, 9⟩) (meth := k5m9) (c := k5c9) (by decide +kernel) rfl rfl rfl (by decide +kernel)
set_option maxRecDepth 65536 in
theorem w_c19 : (Jvm.Cond.code ({ cls := "java/lang/AbstractStringBuilder", name := "inflateIfNeededFor", desc := "(Ljava/lang/String;)V" } : Jvm.MethodName) jdk_68_method_71_code (2 : Nat) (Option.none : Option Jvm.ClassFile.FieldType)).before args0 about1 = true := code_word (m := ⟨5, 8⟩) (meth := k5m8) (c := k5c8) (by decide +kernel) rfl rfl rfl (by decide +kernel)
set_option maxRecDepth 65536 in
theorem w_c20 : (Jvm.Cond.code ({ cls := "java/lang/String", name := "getBytes", desc := "([BIB)V" } : Jvm.MethodName) jdk_42_method_147_code (4 : Nat) (Option.none : Option Jvm.ClassFile.FieldType)).before args0 about1 = true := code_word (m := ⟨11, 4⟩) (meth := k11m4) (c := k11c4) (by decide +kernel) rfl rfl rfl (by decide +kernel)
set_option maxRecDepth 65536 in
theorem w_c21 : (Jvm.Cond.code ({ cls := "java/lang/StringBuilder", name := "length", desc := "()I" } : Jvm.MethodName) jdk_67_method_93_code (1 : Nat) (Option.some Jvm.ClassFile.FieldType.int)).before args0 about1 = true := code_word (m := ⟨8, 4⟩) (meth := k8m4) (c := k8c4) (by decide +kernel) rfl rfl rfl (by decide +kernel)
set_option maxRecDepth 65536 in
theorem w_c22 : (Jvm.Cond.code ({ cls := "java/lang/AbstractStringBuilder", name := "length", desc := "()I" } : Jvm.MethodName) jdk_68_method_6_code (1 : Nat) (Option.some Jvm.ClassFile.FieldType.int)).before args0 about1 = true := code_word (m := ⟨5, 2⟩) (meth := k5m2) (c := k5c2) (by decide +kernel) rfl rfl rfl (by decide +kernel)
set_option maxRecDepth 65536 in
theorem w_c23 : (Jvm.Cond.code ({ cls := "com/example/nodewarden/nodewarden/core/Asides", name := "add", desc := "(IIII)V" } : Jvm.MethodName) prog_3_method_13_code (6 : Nat) (Option.none : Option Jvm.ClassFile.FieldType)).before args0 about1 = true := code_word (m := ⟨2, 5⟩) (meth := k2m5) (c := k2c5) (by decide +kernel) rfl rfl rfl (by decide +kernel)
set_option maxRecDepth 65536 in
theorem w_c24 : (Jvm.Cond.code ({ cls := "java/lang/Math", name := "max", desc := "(II)I" } : Jvm.MethodName) jdk_29_method_65_code (2 : Nat) (Option.some Jvm.ClassFile.FieldType.int)).before args0 about1 = true := code_word (m := ⟨14, 1⟩) (meth := k14m1) (c := k14c1) (by decide +kernel) rfl rfl rfl (by decide +kernel)
set_option maxRecDepth 65536 in
theorem w_c25 : (Jvm.Cond.code ({ cls := "java/util/Arrays", name := "copyOf", desc := "([II)[I" } : Jvm.MethodName) jdk_65_method_123_code (3 : Nat) (Option.some (Jvm.ClassFile.FieldType.array Jvm.ClassFile.FieldType.int))).before args0 about1 = true := code_word (m := ⟨15, 2⟩) (meth := k15m2) (c := k15c2) (by decide +kernel) rfl rfl rfl (by decide +kernel)
set_option maxRecDepth 65536 in
theorem w_c26 : (Jvm.Cond.code ({ cls := "java/lang/Math", name := "min", desc := "(II)I" } : Jvm.MethodName) jdk_29_method_69_code (2 : Nat) (Option.some Jvm.ClassFile.FieldType.int)).before args0 about1 = true := code_word (m := ⟨14, 2⟩) (meth := k14m2) (c := k14c2) (by decide +kernel) rfl rfl rfl (by decide +kernel)
set_option maxRecDepth 65536 in
theorem w_c27 : (Jvm.Cond.code ({ cls := "com/example/nodewarden/nodewarden/core/Asides", name := "isComment", desc := "(I)Z" } : Jvm.MethodName) prog_3_method_8_code (2 : Nat) (Option.some Jvm.ClassFile.FieldType.boolean)).before args0 about1 = true := code_word (m := ⟨2, 4⟩) (meth := k2m4) (c := k2c4) (by decide +kernel) rfl rfl rfl (by decide +kernel)
set_option maxRecDepth 65536 in
theorem w_c28 : (Jvm.Cond.code ({ cls := "com/example/nodewarden/nodewarden/core/Asides", name := "addComment", desc := "(III[CII)V" } : Jvm.MethodName) prog_3_method_2_code (7 : Nat) (Option.none : Option Jvm.ClassFile.FieldType)).before args0 about1 = true := code_word (m := ⟨2, 1⟩) (meth := k2m1) (c := k2c1) (by decide +kernel) rfl rfl rfl (by decide +kernel)
set_option maxRecDepth 65536 in
theorem w_c29 : (Jvm.Cond.code ({ cls := "java/lang/StringBuilder", name := "append", desc := "([CII)Ljava/lang/StringBuilder;" } : Jvm.MethodName) jdk_67_method_12_code (4 : Nat) (Option.some (Jvm.ClassFile.FieldType.object "java/lang/StringBuilder"))).before args0 about1 = true := code_word (m := ⟨8, 2⟩) (meth := k8m2) (c := k8c2) (by decide +kernel) rfl rfl rfl (by decide +kernel)
set_option maxRecDepth 65536 in
theorem w_c30 : (Jvm.Cond.code ({ cls := "java/lang/AbstractStringBuilder", name := "append", desc := "([CII)Ljava/lang/AbstractStringBuilder;" } : Jvm.MethodName) jdk_68_method_29_code (5 : Nat) (Option.some (Jvm.ClassFile.FieldType.object "java/lang/AbstractStringBuilder"))).before args0 about1 = true := code_word (m := ⟨5, 6⟩) (meth := k5m6) (c := k5c6) (by decide +kernel) rfl rfl rfl (by decide +kernel)
set_option maxRecDepth 65536 in
theorem w_c31 : (Jvm.Cond.code ({ cls := "jdk/internal/util/Preconditions", name := "checkFromToIndex", desc := "(IIILjava/util/function/BiFunction;)I" } : Jvm.MethodName) jdk_41_method_12_code (4 : Nat) (Option.some Jvm.ClassFile.FieldType.int)).before args0 about1 = true := code_word (m := ⟨16, 1⟩) (meth := k16m1) (c := k16c1) (by decide +kernel) rfl rfl rfl (by decide +kernel)
set_option maxRecDepth 65536 in
theorem w_c32 : (Jvm.Cond.code ({ cls := "java/lang/AbstractStringBuilder", name := "appendChars", desc := "([CII)V" } : Jvm.MethodName) jdk_68_method_74_code (9 : Nat) (Option.none : Option Jvm.ClassFile.FieldType)).before args0 about1 = true := code_word (m := ⟨5, 10⟩) (meth := k5m10) (c := k5c10) (by decide +kernel) rfl rfl rfl (by decide +kernel)
set_option maxRecDepth 65536 in
theorem w_c33 : (Jvm.Cond.code ({ cls := "java/lang/AbstractStringBuilder", name := "isLatin1", desc := "()Z" } : Jvm.MethodName) jdk_68_method_68_code (1 : Nat) (Option.some Jvm.ClassFile.FieldType.boolean)).before args0 about1 = true := code_word (m := ⟨5, 7⟩) (meth := k5m7) (c := k5c7) (by decide +kernel) rfl rfl rfl (by decide +kernel)
set_option maxRecDepth 65536 in
theorem w_c34 : (Jvm.Cond.code ({ cls := "java/lang/StringLatin1", name := "canEncode", desc := "(C)Z" } : Jvm.MethodName) jdk_43_method_3_code (1 : Nat) (Option.some Jvm.ClassFile.FieldType.boolean)).before args0 about1 = true := code_word (m := ⟨17, 1⟩) (meth := k17m1) (c := k17c1) (by decide +kernel) rfl rfl rfl (by decide +kernel)
set_option maxRecDepth 65536 in
theorem w_c35 : (Jvm.Cond.code ({ cls := "com/example/nodewarden/nodewarden/core/Asides", name := "close", desc := "()V" } : Jvm.MethodName) prog_3_method_4_code (1 : Nat) (Option.none : Option Jvm.ClassFile.FieldType)).before args0 about1 = true := code_word (m := ⟨2, 3⟩) (meth := k2m3) (c := k2c3) (by decide +kernel) rfl rfl rfl (by decide +kernel)
set_option maxRecDepth 65536 in
theorem w_c36 : (Jvm.Cond.code ({ cls := "java/lang/StringBuilder", name := "trimToSize", desc := "()V" } : Jvm.MethodName) jdk_67_method_90_code (1 : Nat) (Option.none : Option Jvm.ClassFile.FieldType)).before args0 about1 = true := code_word (m := ⟨8, 3⟩) (meth := k8m3) (c := k8c3) (by decide +kernel) rfl rfl rfl (by decide +kernel)
set_option maxRecDepth 65536 in
theorem w_c37 : (Jvm.Cond.code ({ cls := "java/lang/AbstractStringBuilder", name := "trimToSize", desc := "()V" } : Jvm.MethodName) jdk_68_method_12_code (2 : Nat) (Option.none : Option Jvm.ClassFile.FieldType)).before args0 about1 = true := code_word (m := ⟨5, 4⟩) (meth := k5m4) (c := k5c4) (by decide +kernel) rfl rfl rfl (by decide +kernel)
set_option maxRecDepth 65536 in
theorem w_c38 : (Jvm.Cond.code ({ cls := "java/util/Arrays", name := "copyOf", desc := "([BI)[B" } : Jvm.MethodName) jdk_65_method_121_code (3 : Nat) (Option.some (Jvm.ClassFile.FieldType.array Jvm.ClassFile.FieldType.byte))).before args0 about1 = true := code_word (m := ⟨15, 1⟩) (meth := k15m1) (c := k15c1) (by decide +kernel) rfl rfl rfl (by decide +kernel)
set_option maxRecDepth 65536 in
theorem w_c39 : (Jvm.Cond.code ({ cls := "java/lang/String", name := "valueOf", desc := "(C)Ljava/lang/String;" } : Jvm.MethodName) jdk_42_method_139_code (1 : Nat) (Option.some (Jvm.ClassFile.FieldType.object "java/lang/String"))).before args0 about1 = true := code_word (m := ⟨11, 3⟩) (meth := k11m3) (c := k11c3) (by decide +kernel) rfl rfl rfl (by decide +kernel)
set_option maxRecDepth 65536 in
theorem w_c40 : (Jvm.Cond.code ({ cls := "java/lang/StringLatin1", name := "toBytes", desc := "(C)[B" } : Jvm.MethodName) jdk_43_method_46_code (1 : Nat) (Option.some (Jvm.ClassFile.FieldType.array Jvm.ClassFile.FieldType.byte))).before args0 about1 = true := code_word (m := ⟨17, 2⟩) (meth := k17m2) (c := k17c2) (by decide +kernel) rfl rfl rfl (by decide +kernel)
set_option maxRecDepth 65536 in
theorem w_c41 : (Jvm.Cond.code ({ cls := "java/lang/String", name := "<init>", desc := "([BB)V" } : Jvm.MethodName) jdk_42_method_151_code (3 : Nat) (Option.none : Option Jvm.ClassFile.FieldType)).before args0 about1 = true := code_word (m := ⟨11, 6⟩) (meth := k11m6) (c := k11c6) (by decide +kernel) rfl rfl rfl (by decide +kernel)
def codes1 : List Jvm.Cond := [Jvm.Cond.code x code maxLocals ret, Jvm.Cond.code ({ cls := "com/example/nodewarden/nodewarden/core/Asides", name := "<init>", desc := "()V" } : Jvm.MethodName) prog_3_method_1_code (1 : Nat) (Option.none : Option Jvm.ClassFile.FieldType), Jvm.Cond.code ({ cls := "java/lang/Object", name := "<init>", desc := "()V" } : Jvm.MethodName) object_method_1_code (1 : Nat) (Option.none : Option Jvm.ClassFile.FieldType), Jvm.Cond.code ({ cls := "java/lang/StringBuilder", name := "<init>", desc := "()V" } : Jvm.MethodName) jdk_67_method_1_code (1 : Nat) (Option.none : Option Jvm.ClassFile.FieldType), Jvm.Cond.code ({ cls := "java/lang/AbstractStringBuilder", name := "<init>", desc := "(I)V" } : Jvm.MethodName) jdk_68_method_2_code (2 : Nat) (Option.none : Option Jvm.ClassFile.FieldType), Jvm.Cond.code ({ cls := "com/example/nodewarden/nodewarden/core/AsidesIsCommentPinLaw", name := "add", desc := "(Lcom/example/nodewarden/nodewarden/core/Asides;ZIIIII)V" } : Jvm.MethodName) method_3_code (10 : Nat) (Option.none : Option Jvm.ClassFile.FieldType), Jvm.Cond.code ({ cls := "com/example/nodewarden/nodewarden/core/AsidesIsCommentPinLaw", name := "str", desc := "(II)Ljava/lang/String;" } : Jvm.MethodName) method_2_code (5 : Nat) (Option.some (Jvm.ClassFile.FieldType.object "java/lang/String")), Jvm.Cond.code ({ cls := "java/lang/String", name := "<init>", desc := "([C)V" } : Jvm.MethodName) jdk_42_method_3_code (2 : Nat) (Option.none : Option Jvm.ClassFile.FieldType), Jvm.Cond.code ({ cls := "java/lang/String", name := "<init>", desc := "([CIILjava/lang/Void;)V" } : Jvm.MethodName) jdk_42_method_149_code (6 : Nat) (Option.none : Option Jvm.ClassFile.FieldType), Jvm.Cond.code ({ cls := "java/lang/StringUTF16", name := "compress", desc := "([CII)[B" } : Jvm.MethodName) jdk_52_method_16_code (6 : Nat) (Option.some (Jvm.ClassFile.FieldType.array Jvm.ClassFile.FieldType.byte)), Jvm.Cond.code ({ cls := "java/lang/StringUTF16", name := "compress", desc := "([CI[BII)I" } : Jvm.MethodName) jdk_52_method_21_code (7 : Nat) (Option.some Jvm.ClassFile.FieldType.int), Jvm.Cond.code ({ cls := "java/lang/StringUTF16", name := "coderFromArrayLen", desc := "([BI)B" } : Jvm.MethodName) jdk_52_method_15_code (2 : Nat) (Option.some Jvm.ClassFile.FieldType.byte), Jvm.Cond.code ({ cls := "com/example/nodewarden/nodewarden/core/Asides", name := "addInstruction", desc := "(IIILjava/lang/String;Ljava/lang/String;)V" } : Jvm.MethodName) prog_3_method_3_code (7 : Nat) (Option.none : Option Jvm.ClassFile.FieldType), Jvm.Cond.code ({ cls := "java/lang/StringBuilder", name := "append", desc := "(Ljava/lang/String;)Ljava/lang/StringBuilder;" } : Jvm.MethodName) jdk_67_method_7_code (2 : Nat) (Option.some (Jvm.ClassFile.FieldType.object "java/lang/StringBuilder")), Jvm.Cond.code ({ cls := "java/lang/AbstractStringBuilder", name := "append", desc := "(Ljava/lang/String;)Ljava/lang/AbstractStringBuilder;" } : Jvm.MethodName) jdk_68_method_22_code (3 : Nat) (Option.some (Jvm.ClassFile.FieldType.object "java/lang/AbstractStringBuilder")), Jvm.Cond.code ({ cls := "java/lang/String", name := "length", desc := "()I" } : Jvm.MethodName) jdk_42_method_54_code (1 : Nat) (Option.some Jvm.ClassFile.FieldType.int), Jvm.Cond.code ({ cls := "java/lang/String", name := "coder", desc := "()B" } : Jvm.MethodName) jdk_42_method_152_code (1 : Nat) (Option.some Jvm.ClassFile.FieldType.byte), Jvm.Cond.code ({ cls := "java/lang/AbstractStringBuilder", name := "ensureCapacityInternal", desc := "(I)V" } : Jvm.MethodName) jdk_68_method_9_code (3 : Nat) (Option.none : Option Jvm.ClassFile.FieldType), Jvm.Cond.code ({ cls := "java/lang/AbstractStringBuilder", name := "putStringAt", desc := "(ILjava/lang/String;)V" } : Jvm.MethodName) jdk_68_method_73_code (3 : Nat) (Option.none : Option Jvm.ClassFile.FieldType), Jvm.Cond.code ({ cls := "java/lang/AbstractStringBuilder", name := "inflateIfNeededFor", desc := "(Ljava/lang/String;)V" } : Jvm.MethodName) jdk_68_method_71_code (2 : Nat) (Option.none : Option Jvm.ClassFile.FieldType), Jvm.Cond.code ({ cls := "java/lang/String", name := "getBytes", desc := "([BIB)V" } : Jvm.MethodName) jdk_42_method_147_code (4 : Nat) (Option.none : Option Jvm.ClassFile.FieldType), Jvm.Cond.code ({ cls := "java/lang/StringBuilder", name := "length", desc := "()I" } : Jvm.MethodName) jdk_67_method_93_code (1 : Nat) (Option.some Jvm.ClassFile.FieldType.int), Jvm.Cond.code ({ cls := "java/lang/AbstractStringBuilder", name := "length", desc := "()I" } : Jvm.MethodName) jdk_68_method_6_code (1 : Nat) (Option.some Jvm.ClassFile.FieldType.int), Jvm.Cond.code ({ cls := "com/example/nodewarden/nodewarden/core/Asides", name := "add", desc := "(IIII)V" } : Jvm.MethodName) prog_3_method_13_code (6 : Nat) (Option.none : Option Jvm.ClassFile.FieldType), Jvm.Cond.code ({ cls := "java/lang/Math", name := "max", desc := "(II)I" } : Jvm.MethodName) jdk_29_method_65_code (2 : Nat) (Option.some Jvm.ClassFile.FieldType.int), Jvm.Cond.code ({ cls := "java/util/Arrays", name := "copyOf", desc := "([II)[I" } : Jvm.MethodName) jdk_65_method_123_code (3 : Nat) (Option.some (Jvm.ClassFile.FieldType.array Jvm.ClassFile.FieldType.int)), Jvm.Cond.code ({ cls := "java/lang/Math", name := "min", desc := "(II)I" } : Jvm.MethodName) jdk_29_method_69_code (2 : Nat) (Option.some Jvm.ClassFile.FieldType.int), Jvm.Cond.code ({ cls := "com/example/nodewarden/nodewarden/core/Asides", name := "isComment", desc := "(I)Z" } : Jvm.MethodName) prog_3_method_8_code (2 : Nat) (Option.some Jvm.ClassFile.FieldType.boolean), Jvm.Cond.code ({ cls := "com/example/nodewarden/nodewarden/core/Asides", name := "addComment", desc := "(III[CII)V" } : Jvm.MethodName) prog_3_method_2_code (7 : Nat) (Option.none : Option Jvm.ClassFile.FieldType), Jvm.Cond.code ({ cls := "java/lang/StringBuilder", name := "append", desc := "([CII)Ljava/lang/StringBuilder;" } : Jvm.MethodName) jdk_67_method_12_code (4 : Nat) (Option.some (Jvm.ClassFile.FieldType.object "java/lang/StringBuilder")), Jvm.Cond.code ({ cls := "java/lang/AbstractStringBuilder", name := "append", desc := "([CII)Ljava/lang/AbstractStringBuilder;" } : Jvm.MethodName) jdk_68_method_29_code (5 : Nat) (Option.some (Jvm.ClassFile.FieldType.object "java/lang/AbstractStringBuilder")), Jvm.Cond.code ({ cls := "jdk/internal/util/Preconditions", name := "checkFromToIndex", desc := "(IIILjava/util/function/BiFunction;)I" } : Jvm.MethodName) jdk_41_method_12_code (4 : Nat) (Option.some Jvm.ClassFile.FieldType.int), Jvm.Cond.code ({ cls := "java/lang/AbstractStringBuilder", name := "appendChars", desc := "([CII)V" } : Jvm.MethodName) jdk_68_method_74_code (9 : Nat) (Option.none : Option Jvm.ClassFile.FieldType), Jvm.Cond.code ({ cls := "java/lang/AbstractStringBuilder", name := "isLatin1", desc := "()Z" } : Jvm.MethodName) jdk_68_method_68_code (1 : Nat) (Option.some Jvm.ClassFile.FieldType.boolean), Jvm.Cond.code ({ cls := "java/lang/StringLatin1", name := "canEncode", desc := "(C)Z" } : Jvm.MethodName) jdk_43_method_3_code (1 : Nat) (Option.some Jvm.ClassFile.FieldType.boolean), Jvm.Cond.code ({ cls := "com/example/nodewarden/nodewarden/core/Asides", name := "close", desc := "()V" } : Jvm.MethodName) prog_3_method_4_code (1 : Nat) (Option.none : Option Jvm.ClassFile.FieldType), Jvm.Cond.code ({ cls := "java/lang/StringBuilder", name := "trimToSize", desc := "()V" } : Jvm.MethodName) jdk_67_method_90_code (1 : Nat) (Option.none : Option Jvm.ClassFile.FieldType), Jvm.Cond.code ({ cls := "java/lang/AbstractStringBuilder", name := "trimToSize", desc := "()V" } : Jvm.MethodName) jdk_68_method_12_code (2 : Nat) (Option.none : Option Jvm.ClassFile.FieldType), Jvm.Cond.code ({ cls := "java/util/Arrays", name := "copyOf", desc := "([BI)[B" } : Jvm.MethodName) jdk_65_method_121_code (3 : Nat) (Option.some (Jvm.ClassFile.FieldType.array Jvm.ClassFile.FieldType.byte)), Jvm.Cond.code ({ cls := "java/lang/String", name := "valueOf", desc := "(C)Ljava/lang/String;" } : Jvm.MethodName) jdk_42_method_139_code (1 : Nat) (Option.some (Jvm.ClassFile.FieldType.object "java/lang/String")), Jvm.Cond.code ({ cls := "java/lang/StringLatin1", name := "toBytes", desc := "(C)[B" } : Jvm.MethodName) jdk_43_method_46_code (1 : Nat) (Option.some (Jvm.ClassFile.FieldType.array Jvm.ClassFile.FieldType.byte)), Jvm.Cond.code ({ cls := "java/lang/String", name := "<init>", desc := "([BB)V" } : Jvm.MethodName) jdk_42_method_151_code (3 : Nat) (Option.none : Option Jvm.ClassFile.FieldType)]
set_option maxRecDepth 65536 in
theorem codes_eq : words1.filter isCode = codes1 := rfl
theorem w_codes : ∀ c ∈ words1.filter isCode, c.before args0 about1 = true := by
  rw [codes_eq]
  intro c hc
  simp only [codes1, List.mem_cons, List.not_mem_nil, or_false] at hc
  rcases hc with rfl | rfl | rfl | rfl | rfl | rfl | rfl | rfl | rfl | rfl | rfl | rfl | rfl | rfl | rfl | rfl | rfl | rfl | rfl | rfl | rfl | rfl | rfl | rfl | rfl | rfl | rfl | rfl | rfl | rfl | rfl | rfl | rfl | rfl | rfl | rfl | rfl | rfl | rfl | rfl | rfl | rfl
  · exact w_c0
  · exact w_c1
  · exact w_c2
  · exact w_c3
  · exact w_c4
  · exact w_c5
  · exact w_c6
  · exact w_c7
  · exact w_c8
  · exact w_c9
  · exact w_c10
  · exact w_c11
  · exact w_c12
  · exact w_c13
  · exact w_c14
  · exact w_c15
  · exact w_c16
  · exact w_c17
  · exact w_c18
  · exact w_c19
  · exact w_c20
  · exact w_c21
  · exact w_c22
  · exact w_c23
  · exact w_c24
  · exact w_c25
  · exact w_c26
  · exact w_c27
  · exact w_c28
  · exact w_c29
  · exact w_c30
  · exact w_c31
  · exact w_c32
  · exact w_c33
  · exact w_c34
  · exact w_c35
  · exact w_c36
  · exact w_c37
  · exact w_c38
  · exact w_c39
  · exact w_c40
  · exact w_c41
set_option maxRecDepth 65536 in
theorem w_t1 : (words1.take 24).all (fun c => isCode c || c.before args0 about1) = true := by decide +kernel
set_option maxRecDepth 65536 in
theorem w_t2 : ((words1.drop 24).take 24).all (fun c => isCode c || c.before args0 about1) = true := by decide +kernel
set_option maxRecDepth 65536 in
theorem w_t3 : (((words1.drop 24).drop 24).take 24).all (fun c => isCode c || c.before args0 about1) = true := by decide +kernel
set_option maxRecDepth 65536 in
theorem w_t4 : ((((words1.drop 24).drop 24).drop 24).take 24).all (fun c => isCode c || c.before args0 about1) = true := by decide +kernel
set_option maxRecDepth 65536 in
theorem w_t5 : (((((words1.drop 24).drop 24).drop 24).drop 24).take 24).all (fun c => isCode c || c.before args0 about1) = true := by decide +kernel
set_option maxRecDepth 65536 in
theorem w_t6 : ((((((words1.drop 24).drop 24).drop 24).drop 24).drop 24).take 24).all (fun c => isCode c || c.before args0 about1) = true := by decide +kernel
set_option maxRecDepth 65536 in
theorem w_t7 : (((((((words1.drop 24).drop 24).drop 24).drop 24).drop 24).drop 24).take 24).all (fun c => isCode c || c.before args0 about1) = true := by decide +kernel
set_option maxRecDepth 65536 in
theorem w_t8 : ((((((((words1.drop 24).drop 24).drop 24).drop 24).drop 24).drop 24).drop 24).take 24).all (fun c => isCode c || c.before args0 about1) = true := by decide +kernel
set_option maxRecDepth 65536 in
theorem w_t9 : (((((((((words1.drop 24).drop 24).drop 24).drop 24).drop 24).drop 24).drop 24).drop 24).take 24).all (fun c => isCode c || c.before args0 about1) = true := by decide +kernel
set_option maxRecDepth 65536 in
theorem w_t10 : (((((((((words1.drop 24).drop 24).drop 24).drop 24).drop 24).drop 24).drop 24).drop 24).drop 24).all (fun c => isCode c || c.before args0 about1) = true := by decide +kernel
theorem w_tables : (allAtoms (Jvm.Cond.code x code maxLocals ret :: tables_1)).before args0 about1 = true := by
  rw [allAtoms_all]
  show words1.all (fun c => c.before args0 about1) = true
  refine all_split ?_ w_codes
  rw [← List.take_append_drop 24 words1, List.all_append, w_t1, ← List.take_append_drop 24 (words1.drop 24), List.all_append, w_t2, ← List.take_append_drop 24 ((words1.drop 24).drop 24), List.all_append, w_t3, ← List.take_append_drop 24 (((words1.drop 24).drop 24).drop 24), List.all_append, w_t4, ← List.take_append_drop 24 ((((words1.drop 24).drop 24).drop 24).drop 24), List.all_append, w_t5, ← List.take_append_drop 24 (((((words1.drop 24).drop 24).drop 24).drop 24).drop 24), List.all_append, w_t6, ← List.take_append_drop 24 ((((((words1.drop 24).drop 24).drop 24).drop 24).drop 24).drop 24), List.all_append, w_t7, ← List.take_append_drop 24 (((((((words1.drop 24).drop 24).drop 24).drop 24).drop 24).drop 24).drop 24), List.all_append, w_t8, ← List.take_append_drop 24 ((((((((words1.drop 24).drop 24).drop 24).drop 24).drop 24).drop 24).drop 24).drop 24), List.all_append, w_t9, w_t10]
  rfl
set_option maxRecDepth 65536 in
theorem w_rest : rest_1_c.before args0 about1 = true := by decide +kernel
set_option maxRecDepth 65536 in
theorem w_case : (Jvm.Cond.and given_1 narrow_1).before args0 about1 = true := by decide +kernel
set_option maxRecDepth 65536 in
theorem w_consts : constsHeld consts_1 about1 := Jvm.Lit.constsHeldB_iff.mp (by decide +kernel)
theorem w_applies : (headSpec (Jvm.Cond.code x code maxLocals ret :: tables_1) room_1).applies x e0.platform about1 = true :=
  (Spec.applies_iff w_frames).mpr ⟨w_running, w_runnable, w_alone, w_named, w_hears, w_ripe, w_room, w_tables⟩
theorem atStart : AtStart classFile x code maxLocals ret World_1 tables_1 room_1 Calls_1 rest_1 Pre_1 launch0 p0 e0 about1 theMethod args0 below0 :=
  ⟨lists_1, trivial, launch0.admits_env _ _ _, launch0.least_env, fairChoices_fair.cas, fairChoices_fair.clock, w_frames, w_args, w_heap, w_applies, ⟨w_consts, trivial⟩, w_rest, w_case⟩
end start1
theorem witness_1 : WitnessClaimed_1 := ⟨start1.p0, start1.e0, start1.about1, start1.theMethod, start1.args0, start1.below0, start1.atStart⟩
end Jvm.Pilot.@@N@@
