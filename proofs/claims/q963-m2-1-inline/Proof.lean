import JvmDerived
import JvmDerived.Pilot.@@N@@Statement
import JvmDerived.Pilot.@@N@@Code
set_option linter.unusedVariables false
set_option linter.unusedSimpArgs false
namespace Jvm.OwnKit
open Jvm Sem ClassFile Op Lib Jvm.Stand Jvm.Free Jvm.LawKit Jvm.RoadKit Bundle
/-- the rest of the walk comes to an end that Q allows -/
def Go (p : Program) (e : Env) (below : List Frame) (Q : Outcome → State → Prop) (t : State) : Prop :=
  ∃ s₂ o, Steps p.tables e below t s₂ ∧ s₂.status = .running ∧ Ended s₂ below o ∧ Q o s₂
theorem Go.of {p : Program} {e : Env} {below : List Frame} {Q : Outcome → State → Prop} {t t' : State} (h : ∀ target, Steps p.tables e below t' target → Steps p.tables e below t target) (g : Go p e below Q t') : Go p e below Q t := by
  obtain ⟨s₂, o, h1, r⟩ := g
  exact ⟨s₂, o, h _ h1, r⟩
theorem merge {p : Program} {e : Env} {below : List Frame} {Q : Outcome → State → Prop} {t t2 : State} (g : Go p e below Q t2 → Go p e below Q t) (h : Go p e below Q t2) : Go p e below Q t := g h
/-- where the walk stands: T the state, V the tables on which it leans, h the heap, k cells and n slots booked -/
def St (p : Program) (l : Launch) (e : Env) (R : Room) (s : State) (m : MethodId) (args : Array Value) (below : List Frame) (meth : Method) (c : Code) (Z : State) (a0 : Array Value) (EL : List (String × Nat)) (n0 : Nat) (own : String) (T : State) (V : Vm) (h : Heap) (k n : Nat) : Prop :=
  p.tables.exec = Jvm.exec ∧ T.heap = h ∧ Z.Warmed39 V ∧ V.findClass own = some m.cls ∧ Old Z n0 h ∧ EW Z a0 EL ∧ CHr Z EL s.vm s.heap V h ∧ meth.locks = false ∧
  ∃ locs k0, Stand p l e R (s.setVm V) m args below meth c T locs k n ∧ s.Since V k0 ∧ k0 ≤ h.size ∧ Fr n0 locs
/-- the end of a walk -/
def FiniV (Z : State) (EL : List (String × Nat)) (n0 : Nat) (s : State) (rm : Room) (Q : Option Value → Heap → Vm → Prop) (o : Outcome) (U : State) : Prop :=
  ∃ v L, o = .returned v ∧ (Q v U.heap U.vm ∧ Fr n0 L ∧ Old Z n0 U.heap) ∧ CHr Z EL s.vm s.heap U.vm U.heap ∧ ReturnedEndW s o U L rm.cells rm.slots
abbrev Fini (Z : State) (EL : List (String × Nat)) (n0 : Nat) (s : State) (rm : Room) (Q : Option Value → Heap → Prop) : Outcome → State → Prop := FiniV Z EL n0 s rm (fun v h _ => Q v h)
/-- a callee's contract: handed as' at the heap h it returns v at a heap h' with Q v h' (and the tables there) -/
def CtrV (l : Launch) (Z : State) (EL : List (String × Nat)) (n0 : Nat) (y : MethodName) (bytes : ByteArray) (maxL : Nat) (ret : Option FieldType) (rm : Room) (as' : Array Value) (h : Heap) (sfs : List Addr) (Q : Option Value → Heap → Vm → Prop) : Prop :=
  ∀ ws : List Cond, MetFree l y (head1 (Cond.code y bytes maxL ret :: ws) rm) (fun a U => a = as' ∧ Z.Warmed39 U.vm ∧ U.heap = h ∧ CHv Z EL U.vm h ∧ ∀ x ∈ sfs, Safe Z EL U.vm h x) (fun _ _ _ _ _ => True) (fun _ U o U' => FiniV Z EL n0 U rm Q o U')
abbrev Ctr (l : Launch) (Z : State) (EL : List (String × Nat)) (n0 : Nat) (y : MethodName) (bytes : ByteArray) (maxL : Nat) (ret : Option FieldType) (rm : Room) (as' : Array Value) (h : Heap) (sfs : List Addr) (Q : Option Value → Heap → Prop) : Prop := CtrV l Z EL n0 y bytes maxL ret rm as' h sfs (fun v h _ => Q v h)
theorem ext_refl (h : Heap) : Ext h h := ⟨Nat.le_refl _, fun _ _ q => q⟩
theorem ext_trans {h h' h2 : Heap} (E : Ext h h') (F : Ext h' h2) : Ext h h2 := ⟨Nat.le_trans E.1 F.1, fun a c q => F.2 a c (E.2 a c q)⟩
theorem ext_keep {h h' h2 : Heap} {ws : List Addr} (E : Ext h h') (K : Keep h' h2 ws) (q : ∀ x ∈ ws, h.size ≤ x) : Ext h h2 := ⟨Nat.le_trans E.1 K.1, fun a c r => K.2.1 a c (E.2 a c r) fun z => absurd (Array.getElem?_eq_some_iff.mp r).1 (Nat.not_lt.mpr (q a z))⟩
theorem ext_keep1 {h h' h2 : Heap} {a : Addr} (E : Ext h h') (K : Keep h' h2 [a]) (q : h.size ≤ a) : Ext h h2 := ext_keep E K (allS q all0)
/-- arrays of two kinds are two -/
theorem arv_kne {Z : State} {h : Heap} {a b : Addr} {k1 k2 : ClassId} {t1 t2 : FieldType} {z1 z2 : Int32} {v1 v2 : List Value} {d1 d2 : Value} (A : Arv Z h a k1 t1 z1 v1 d1) (B : Arv Z h b k2 t2 z2 v2 d2) (hn : t1 ≠ t2) : a ≠ b := fun e => by
  subst e
  obtain ⟨c1, ⟨a1, ⟨-, kA, hkA, compA, hkindA⟩, -⟩, -⟩ := A
  obtain ⟨c2, ⟨b1, ⟨-, kB, hkB, compB, hkindB⟩, -⟩, -⟩ := B
  cases a1.symm.trans b1
  cases hkA.symm.trans hkB
  have q := hkindA.symm.trans hkindB
  injection q with _ e
  exact hn e
theorem faS {P : Int32 → Prop} {y : Int32} {L : List Int32} (q : P y) (r : ∀ x ∈ L, P x) : ∀ x ∈ y :: L, P x := fun x z => (List.mem_cons.mp z).elim (fun u => u ▸ q) (r x)
theorem fa0 {P : Int32 → Prop} : ∀ x ∈ ([] : List Int32), P x := fun _ q => nomatch q
theorem sf1 {Z : State} {EL : List (String × Nat)} {V : Vm} {h : Heap} {x : Addr} (q : x < h.size) (r : Safe Z EL V h x) : ∀ y ∈ [x], y < h.size ∧ Safe Z EL V h y := fun y z => by cases List.mem_singleton.mp z; exact ⟨q, r⟩
theorem narC {x : Int32} (h : ¬ x < 0 ∧ ¬ (65535 : Int32) < x) : nar .char x = x := by
  obtain ⟨h1, h2⟩ := h
  have q := c_i2c x
  rw [Int32.lt_iff_toInt_lt] at h1 h2
  have e1 : (65535 : Int32).toInt = 65535 := rfl
  have e2 : (0 : Int32).toInt = 0 := rfl
  show x.toUInt32.toUInt16.toUInt32.toInt32 = x
  apply Int32.toInt_inj.mp
  omega
theorem narC8 {x : Int32} (h : ¬ x < 0 ∧ ¬ (255 : Int32) < x) : nar .char x = x := narC ⟨h.1, fun q => h.2 (by rw [Int32.lt_iff_toInt_lt] at q ⊢; have e1 : (65535 : Int32).toInt = 65535 := rfl; have e2 : (255 : Int32).toInt = 255 := rfl; omega)⟩
/-- x & 255 -/
theorem and255 (x : Int32) : ¬ (x &&& 255) < 0 ∧ ¬ (255 : Int32) < (x &&& 255) := by
  have q := c_mask x 255 8 (by decide) (by decide)
  have e1 : (255 : Int32).toInt = 255 := rfl
  have e2 : (0 : Int32).toInt = 0 := rfl
  rw [Int32.lt_iff_toInt_lt, Int32.lt_iff_toInt_lt]
  omega
theorem and255L (x : Int64) : ¬ (x &&& 255).toInt32 < 0 ∧ ¬ (255 : Int32) < (x &&& 255).toInt32 := by
  have q := c_maskL x 255 8 (by decide) (by decide)
  have r := c_l2i (x &&& 255)
  have s := rng32 (x &&& 255).toInt32
  have e1 : (255 : Int32).toInt = 255 := rfl
  have e2 : (0 : Int32).toInt = 0 := rfl
  rw [Int32.lt_iff_toInt_lt, Int32.lt_iff_toInt_lt]
  omega
/-- an object of a class right under the root is none of another class -/
theorem noSub1 {Z : State} {a0 : Array Value} {C O K : String} {n : Nat} (w : (Cond.superclass C O).before a0 Z = true) (wo : (Cond.noSuperclass O).before a0 Z = true) (wi : (Cond.instantiable K n).before a0 Z = true) (h1 : C ≠ K) (h2 : O ≠ K) : ∃ c t, Z.vm.findClass C = some c ∧ Z.vm.findClass K = some t ∧ Z.vm.assignable c t = false := by
  obtain ⟨t, kt, g1, g2, g3, g4, -⟩ := Cond.instantiable_spec wi
  obtain ⟨co, ko, o1, o2, o3, -, -⟩ := Cond.noSuperclass_spec wo
  have g5 : kt.isInterface = false := (Bool.or_eq_false_iff.mp g4).1
  have nO : NS Z O K := ⟨co, t, o1, g1, fun fuel => by
    cases fuel with
    | zero => rfl
    | succ f => simp [Vm.isSubclassAux, ids_ne o1 g1 h2, o2, o3]⟩
  obtain ⟨c, t', h0, g0, n3⟩ := NS.step w nO h1
  cases g1.symm.trans g0
  obtain ⟨p, k, kp, q1, q2, q3, q4, q5, -, q7⟩ := Cond.superclass_spec h0 w
  refine ⟨c, t, h0, g1, ?_⟩
  show Z.vm.assignableAux (255 + 1) c t = false
  simp [Vm.assignableAux, ids_ne h0 g1 h1, q2, g2, q5, g3, g5, Vm.isSubclass, n3]
/-- a class that is no interface -/
def NI (Z : State) (K : String) : Prop := ∃ c k, Z.vm.findClass K = some c ∧ Z.vm.classes[c]? = some k ∧ k.isInterface = false
theorem ni_inst {Z : State} {a0 : Array Value} {K : String} {n : Nat} (w : (Cond.instantiable K n).before a0 Z = true) : NI Z K := by
  obtain ⟨c, k, g1, g2, -, g4, -⟩ := Cond.instantiable_spec w
  exact ⟨c, k, g1, g2, (Bool.or_eq_false_iff.mp g4).1⟩
theorem ni_sel {Z : State} {a0 : Array Value} {C : String} {y z : MethodName} (w : (Cond.selects C y z).before a0 Z = true) {K : String} (e : z.cls = K) : NI Z K := by
  subst e
  obtain ⟨-, -, m, -, -, g3, -, mk, g5, g6⟩ := Cond.selects_spec w
  exact ⟨m.cls, mk, findClass_of_methodNamed g3, g5, g6⟩
theorem NI.mv {Z : State} {V : Vm} {K : String} (N : NI Z K) (hZ : Z.Warmed39 V) : ∃ c k, V.findClass K = some c ∧ V.classes[c]? = some k ∧ k.isInterface = false := by
  obtain ⟨c, k, g1, g2, g3⟩ := N
  obtain ⟨k', hk', ek⟩ := hZ.alike.2.2 _ _ g2
  exact ⟨c, k', by rw [hZ.alike.findClass]; exact g1, hk', by rw [ek]; exact g3⟩
theorem same_own {Z : State} {a0 : Array Value} {y : MethodName} (N : NI Z y.cls) (wi : (Cond.instanceMethod y).before a0 Z = true) (hy : y.cls ≠ "java/lang/invoke/MethodHandle" ∧ y.cls ≠ "java/lang/invoke/VarHandle") : (Cond.sameMethod y.cls y.cls y.name y.desc).before a0 Z = true := by
  obtain ⟨c, k, g1, g2, g3⟩ := N
  obtain ⟨m, meth, h1, -⟩ := Cond.instanceMethod_spec wi
  have h2 := State.methodFound?_of_named h1 hy
  simp [Cond.before, Cond.holds, Cond.value, g1, h1, h2, g2, g3]
theorem sel_own {Z : State} {a0 : Array Value} {V : Vm} (hZ : Z.Warmed39 V) {s : State} (e : s.vm = V) {args : Array Value} {y : MethodName} (N : NI Z y.cls) (wi : (Cond.instanceMethod y).before args s = true) (wp : s.PrivateAt y) (hy : y.cls ≠ "java/lang/invoke/MethodHandle" ∧ y.cls ≠ "java/lang/invoke/VarHandle") : (Cond.selects y.cls y y).before args s = true := by
  subst e
  obtain ⟨c, k, g1, g2, g3⟩ := N.mv hZ
  obtain ⟨m, meth, h1, h3, -⟩ := Cond.instanceMethod_spec wi
  have h2 := State.methodFound?_of_named h1 hy
  have h4 : selectMethod {} s.vm c m = .method m := selectMethod_private h3 (wp m meth h1 h3)
  have h5 := findClass_of_methodNamed h1
  cases g1.symm.trans h5
  simp [Cond.before, Cond.holds, Cond.value, g1, h1, h2, h4, g2, g3]
section Steps
variable {p : Program} {l : Launch} {e : Env} {R : Room} {s : State} {m : MethodId} {args : Array Value} {below : List Frame} {meth : Method} {c : Code} {Z : State} {a0 : Array Value} {EL : List (String × Nat)} {n0 : Nat} {own : String} {T : State} {V : Vm} {h : Heap} {k n : Nat} {Q : Outcome → State → Prop} {pc : Nat} {Ls : Array Slot} {rest : List Value}
theorem St.hx (S : St p l e R s m args below meth c Z a0 EL n0 own T V h k n) : p.tables.exec = Jvm.exec := S.1
theorem St.here (S : St p l e R s m args below meth c Z a0 EL n0 own T V h k n) : At T m c below := by
  obtain ⟨-, -, -, -, -, -, -, -, locs, k0, X, -⟩ := S; exact X.here
theorem St.old (S : St p l e R s m args below meth c Z a0 EL n0 own T V h k n) : Old Z n0 h := S.2.2.2.2.1
theorem St.chv (S : St p l e R s m args below meth c Z a0 EL n0 own T V h k n) : CHv Z EL V h := S.2.2.2.2.2.2.1.1
theorem St.warm (S : St p l e R s m args below meth c Z a0 EL n0 own T V h k n) : Z.Warmed39 V := S.2.2.1
theorem St.ew (S : St p l e R s m args below meth c Z a0 EL n0 own T V h k n) : EW Z a0 EL := S.2.2.2.2.2.1
theorem St.le (S : St p l e R s m args below meth c Z a0 EL n0 own T V h k n) : n0 ≤ h.size := S.old.1 ▸ S.old.2.1
theorem St.mono (S : St p l e R s m args below meth c Z a0 EL n0 own T V h k n) {k' n' : Nat} (hk' : k ≤ k') (hn' : n ≤ n') : St p l e R s m args below meth c Z a0 EL n0 own T V h k' n' := by
  obtain ⟨hx, eT, hZ, hown, hO, hE, hC, hlk, locs, k0, X, hS, hk, hF⟩ := S
  exact ⟨hx, eT, hZ, hown, hO, hE, hC, hlk, locs, k0, X.mono hk' hn', hS, hk, hF⟩
/-- a callee is entered -/
theorem CtrV.intro {y : MethodName} {bytes : ByteArray} {maxL : Nat} {ret : Option FieldType} {rm : Room} {as' : Array Value} {sfs : List Addr} {QQ : Option Value → Heap → Vm → Prop} (hp : plainFor y = true) (hO : Old Z n0 h) (hE : EW Z a0 EL)
    (body : ∀ (p : Program) (e : Env) (s : State) (m : MethodId) (below : List Frame) (meth : Method) (c : Code) (T : State) (V : Vm), St p l e rm s m as' below meth c Z a0 EL n0 y.cls T V h 0 0 → c.code = bytes → c.maxLocals = maxL → meth.sig.returnType = ret → meth.name = y.name → (∀ x ∈ sfs, Safe Z EL V h x) →
      Go p e below (FiniV Z EL n0 s rm QQ) (T.setTop (entryFrame m as' maxL))) :
    CtrV l Z EL n0 y bytes maxL ret rm as' h sfs QQ := by
  intro ws
  refine MetFree.of_bodySF hp hisR ?_
  intro p e s m args below meth c s₁ Bd hml0 hP hK
  obtain ⟨rfl, hZ, hh, hC, hsf⟩ := hP
  have X0 : Stand p l e rm s m args below meth c s₁ [] 0 0 := Stand.of_body Bd
  have e0 : s₁.heap = h := by rw [← hh, Bd.state]; rfl
  have hC0 : CHr Z EL s.vm s.heap s.vm h := by rw [hh]; exact CHr.refl hC
  exact body p e s m below meth c s₁ s.vm ⟨Bd.exec, e0, hZ, findClass_of_methodNamed Bd.named, hO, hE, hC0, Bd.notSynchronized, [], h.size, X0, (State.WarmedH.refl s).since _, Nat.le_refl _, Fr.nil n0⟩ Bd.bytes hml0 Bd.returns (name_of_methodNamed Bd.named Bd.method).1 hsf
theorem Ctr.intro {y : MethodName} {bytes : ByteArray} {maxL : Nat} {ret : Option FieldType} {rm : Room} {as' : Array Value} {sfs : List Addr} {QQ : Option Value → Heap → Prop} (hp : plainFor y = true) (hO : Old Z n0 h) (hE : EW Z a0 EL)
    (body : ∀ (p : Program) (e : Env) (s : State) (m : MethodId) (below : List Frame) (meth : Method) (c : Code) (T : State) (V : Vm), St p l e rm s m as' below meth c Z a0 EL n0 y.cls T V h 0 0 → c.code = bytes → c.maxLocals = maxL → meth.sig.returnType = ret → meth.name = y.name → (∀ x ∈ sfs, Safe Z EL V h x) →
      Go p e below (Fini Z EL n0 s rm QQ) (T.setTop (entryFrame m as' maxL))) :
    Ctr l Z EL n0 y bytes maxL ret rm as' h sfs QQ := CtrV.intro hp hO hE body
theorem St.endV {QQ : Option Value → Heap → Vm → Prop} (S : St p l e R s m args below meth c Z a0 EL n0 own T V h k n) {v : Option Value} (hv : meth.sig.returnType = none → v = none) (q : (∀ x, x < h.size → Safe Z EL V h x → Safe Z EL T.vm h x) → QQ v h T.vm) (hc : k ≤ R.cells) (hl : n ≤ R.slots) {t : State}
    (st : ∀ fs, (∀ (f : JFrame) (acts : List Action), f.method = m → f.locked = none → f.entered = [] → (doReturn e (T.setTop f) acts v).1 = T.setFrames fs) → Steps p.tables e below t (T.setFrames fs)) : Go p e below (FiniV Z EL n0 s R QQ) t := by
  obtain ⟨hx, eT, hZ, hown, hO, hE, hC, hlk, locs, k0, X, hS, hk, hF⟩ := S
  subst eT
  obtain ⟨fs, hr, hrun, hend, hw⟩ := X.leaveW hS hk hv hlk
  have qc := CHv.at X hZ hE hC.1
  refine ⟨_, _, st fs hr, hrun, hend, v, locs, rfl, ⟨q fun x hx sx => qc.safe hx sx, hF, hO⟩, (show CHr Z EL s.vm s.heap T.vm T.heap from hC.trans (CHv.at X hZ hE hC.1)), ?_⟩
  obtain ⟨w1, w2, w3, w4⟩ := hw
  exact ⟨w1, w2, w3, w4.mono hc hl⟩
theorem St.end_ {QQ : Option Value → Heap → Prop} (S : St p l e R s m args below meth c Z a0 EL n0 own T V h k n) {v : Option Value} (hv : meth.sig.returnType = none → v = none) (q : QQ v h) (hc : k ≤ R.cells) (hl : n ≤ R.slots) {t : State}
    (st : ∀ fs, (∀ (f : JFrame) (acts : List Action), f.method = m → f.locked = none → f.entered = [] → (doReturn e (T.setTop f) acts v).1 = T.setFrames fs) → Steps p.tables e below t (T.setFrames fs)) : Go p e below (Fini Z EL n0 s R QQ) t := S.endV (QQ := fun v h _ => QQ v h) hv (fun _ => q) hc hl st
theorem g_aretV {QQ : Option Value → Heap → Vm → Prop} {v : Value} (S : St p l e R s m args below meth c Z a0 EL n0 own T V h k n) (hd : decode c.code pc = .ok (.areturn, 1)) {t : FieldType} (hret : meth.sig.returnType = some t) (ht : t.isReference = true) (hn : narrow t v = v) (hv : v.isRef = true) (q : (∀ x, x < h.size → Safe Z EL V h x → Safe Z EL T.vm h x) → QQ (some v) h T.vm) (hc : k ≤ R.cells := by exact Nat.le_of_ble_eq_true rfl) (hl : n ≤ R.slots := by exact Nat.le_of_ble_eq_true rfl) : Go p e below (FiniV Z EL n0 s R QQ) (T.setTop (mkF m pc Ls (v :: rest))) := by
  refine S.endV (v := some v) (fun h => by rw [hret] at h; cases h) q hc hl fun fs hr => ?_
  obtain ⟨hx, eT, hZ, hown, hO, hE, hC, hlk, locs, k0, X, hS, hk, hF⟩ := S
  exact retOut X hx hret hn (Or.inr (Or.inr (Or.inr (Or.inr ⟨rfl, ht, hv⟩)))) hd hr
theorem g_retV {QQ : Option Value → Heap → Vm → Prop} (S : St p l e R s m args below meth c Z a0 EL n0 own T V h k n) (hd : decode c.code pc = .ok (.return_, 1)) (hret : meth.sig.returnType = none) (q : (∀ x, x < h.size → Safe Z EL V h x → Safe Z EL T.vm h x) → QQ none h T.vm) (hc : k ≤ R.cells := by exact Nat.le_of_ble_eq_true rfl) (hl : n ≤ R.slots := by exact Nat.le_of_ble_eq_true rfl) : Go p e below (FiniV Z EL n0 s R QQ) (T.setTop (mkF m pc Ls [])) := by
  refine S.endV (v := none) (fun _ => rfl) q hc hl fun fs hr => ?_
  obtain ⟨hx, eT, hZ, hown, hO, hE, hC, hlk, locs, k0, X, hS, hk, hF⟩ := S
  exact X.returnOut hx hret hd hr
theorem g_ret {QQ : Option Value → Heap → Prop} (S : St p l e R s m args below meth c Z a0 EL n0 own T V h k n) (hd : decode c.code pc = .ok (.return_, 1)) (hret : meth.sig.returnType = none) (q : QQ none h) (hc : k ≤ R.cells := by exact Nat.le_of_ble_eq_true rfl) (hl : n ≤ R.slots := by exact Nat.le_of_ble_eq_true rfl) : Go p e below (Fini Z EL n0 s R QQ) (T.setTop (mkF m pc Ls [])) := by
  refine S.end_ (v := none) (fun _ => rfl) q hc hl fun fs hr => ?_
  obtain ⟨hx, eT, hZ, hown, hO, hE, hC, hlk, locs, k0, X, hS, hk, hF⟩ := S
  exact X.returnOut hx hret hd hr
theorem g_iretN {QQ : Option Value → Heap → Prop} {z : Int32} (S : St p l e R s m args below meth c Z a0 EL n0 own T V h k n) (hd : decode c.code pc = .ok (.ireturn, 1)) {t : FieldType} (hret : meth.sig.returnType = some t) (ht : t = .boolean ∨ t = .byte ∨ t = .char ∨ t = .short) (q : QQ (some (.int (nar t z))) h) (hc : k ≤ R.cells := by exact Nat.le_of_ble_eq_true rfl) (hl : n ≤ R.slots := by exact Nat.le_of_ble_eq_true rfl) : Go p e below (Fini Z EL n0 s R QQ) (T.setTop (mkF m pc Ls (.int z :: rest))) := by
  refine S.end_ (v := some (.int (nar t z))) (fun h => by rw [hret] at h; cases h) q hc hl fun fs hr => ?_
  obtain ⟨hx, eT, hZ, hown, hO, hE, hC, hlk, locs, k0, X, hS, hk, hF⟩ := S
  exact retN X hx hret ht hd hr
theorem g_iret {QQ : Option Value → Heap → Prop} {z : Int32} (S : St p l e R s m args below meth c Z a0 EL n0 own T V h k n) (hd : decode c.code pc = .ok (.ireturn, 1)) (hret : meth.sig.returnType = some .int) (q : QQ (some (.int z)) h) (hc : k ≤ R.cells := by exact Nat.le_of_ble_eq_true rfl) (hl : n ≤ R.slots := by exact Nat.le_of_ble_eq_true rfl) : Go p e below (Fini Z EL n0 s R QQ) (T.setTop (mkF m pc Ls (.int z :: rest))) := by
  refine S.end_ (v := some (.int z)) (fun h => by rw [hret] at h; cases h) q hc hl fun fs hr => ?_
  obtain ⟨hx, eT, hZ, hown, hO, hE, hC, hlk, locs, k0, X, hS, hk, hF⟩ := S
  exact retOut X hx hret rfl (Or.inl ⟨rfl, Or.inl rfl, z, rfl⟩) hd hr
theorem g_lret {QQ : Option Value → Heap → Prop} {z : Int64} (S : St p l e R s m args below meth c Z a0 EL n0 own T V h k n) (hd : decode c.code pc = .ok (.lreturn, 1)) (hret : meth.sig.returnType = some .long) (q : QQ (some (.long z)) h) (hc : k ≤ R.cells := by exact Nat.le_of_ble_eq_true rfl) (hl : n ≤ R.slots := by exact Nat.le_of_ble_eq_true rfl) : Go p e below (Fini Z EL n0 s R QQ) (T.setTop (mkF m pc Ls (.long z :: rest))) := by
  refine S.end_ (v := some (.long z)) (fun h => by rw [hret] at h; cases h) q hc hl fun fs hr => ?_
  obtain ⟨hx, eT, hZ, hown, hO, hE, hC, hlk, locs, k0, X, hS, hk, hF⟩ := S
  exact retOut X hx hret rfl (Or.inr (Or.inl ⟨rfl, rfl, z, rfl⟩)) hd hr
theorem g_aret {QQ : Option Value → Heap → Prop} {v : Value} (S : St p l e R s m args below meth c Z a0 EL n0 own T V h k n) (hd : decode c.code pc = .ok (.areturn, 1)) {t : FieldType} (hret : meth.sig.returnType = some t) (ht : t.isReference = true) (hn : narrow t v = v) (hv : v.isRef = true) (q : QQ (some v) h) (hc : k ≤ R.cells := by exact Nat.le_of_ble_eq_true rfl) (hl : n ≤ R.slots := by exact Nat.le_of_ble_eq_true rfl) : Go p e below (Fini Z EL n0 s R QQ) (T.setTop (mkF m pc Ls (v :: rest))) := by
  refine S.end_ (v := some v) (fun h => by rw [hret] at h; cases h) q hc hl fun fs hr => ?_
  obtain ⟨hx, eT, hZ, hown, hO, hE, hC, hlk, locs, k0, X, hS, hk, hF⟩ := S
  exact retOut X hx hret hn (Or.inr (Or.inr (Or.inr (Or.inr ⟨rfl, ht, hv⟩)))) hd hr
theorem g_getF (S : St p l e R s m args below meth c Z a0 EL n0 own T V h k n) {R0 O nm d : String} {index : Nat} (w : (Cond.fieldLink own index R0 nm d).before a0 Z = true) (via : Via Z R0 O nm d) {a : Addr} {v : Value} (F : Fld Z h a O nm d v) (hd : decode c.code pc = .ok (.getfield index, 3))
    (go : ∀ T', St p l e R s m args below meth c Z a0 EL n0 own T' V h k n → Go p e below Q (T'.setTop (mkF m (pc + 3) Ls (v :: rest)))) : Go p e below Q (T.setTop (mkF m pc Ls (.ref a :: rest))) := by
  obtain ⟨hx, eT, hZ, hown, hO, hE, hC, hlk, locs, k0, X, hS, hk, hF⟩ := S
  obtain ⟨T', X', e', st⟩ := getF X hx hZ hown (host := "") (Or.inl w) via eT F (g := mkF m pc Ls (.ref a :: rest)) rfl rfl hd
  exact Go.of st (go T' ⟨hx, e', hZ, hown, hO, hE, hC, hlk, locs, k0, X', hS, hk, hF⟩)
theorem g_getS (S : St p l e R s m args below meth c Z a0 EL n0 own T V h k n) {R0 O nm d : String} {index : Nat} (w : (Cond.fieldLink own index R0 nm d).before a0 Z = true) (via : Via Z R0 O nm d) {v : Value} (F : Sta Z h O nm d v) (hd : decode c.code pc = .ok (.getstatic index, 3))
    (go : ∀ T', St p l e R s m args below meth c Z a0 EL n0 own T' V h k n → Go p e below Q (T'.setTop (mkF m (pc + 3) Ls (v :: rest)))) : Go p e below Q (T.setTop (mkF m pc Ls rest)) := by
  obtain ⟨hx, eT, hZ, hown, hO, hE, hC, hlk, locs, k0, X, hS, hk, hF⟩ := S
  obtain ⟨T', X', e', st⟩ := getS X hx hZ hown (host := "") w via eT F (g := mkF m pc Ls rest) rfl hd
  exact Go.of st (go T' ⟨hx, e', hZ, hown, hO, hE, hC, hlk, locs, k0, X', hS, hk, hF⟩)
theorem g_cast (S : St p l e R s m args below meth c Z a0 EL n0 own T V h k n) {K : String} {index : Nat} (w : (Cond.classLink own index K).before a0 Z = true) {a : Addr} (F : Ins Z h a K true) (hd : decode c.code pc = .ok (.checkcast index, 3))
    (go : ∀ T', St p l e R s m args below meth c Z a0 EL n0 own T' V h k n → Go p e below Q (T'.setTop (mkF m (pc + 3) Ls (.ref a :: rest)))) : Go p e below Q (T.setTop (mkF m pc Ls (.ref a :: rest))) := by
  obtain ⟨hx, eT, hZ, hown, hO, hE, hC, hlk, locs, k0, X, hS, hk, hF⟩ := S
  obtain ⟨T', X', e', st⟩ := castY X hx hZ hown w eT F (g := mkF m pc Ls (.ref a :: rest)) rfl rfl hd
  exact Go.of st (go T' ⟨hx, e', hZ, hown, hO, hE, hC, hlk, locs, k0, X', hS, hk, hF⟩)
theorem g_inst (S : St p l e R s m args below meth c Z a0 EL n0 own T V h k n) {K : String} {index : Nat} (w : (Cond.classLink own index K).before a0 Z = true) {a : Addr} (F : Ins Z h a K true) (hd : decode c.code pc = .ok (.instanceof index, 3))
    (go : ∀ T', St p l e R s m args below meth c Z a0 EL n0 own T' V h k n → Go p e below Q (T'.setTop (mkF m (pc + 3) Ls (.int 1 :: rest)))) : Go p e below Q (T.setTop (mkF m pc Ls (.ref a :: rest))) := by
  obtain ⟨hx, eT, hZ, hown, hO, hE, hC, hlk, locs, k0, X, hS, hk, hF⟩ := S
  obtain ⟨T', X', e', st⟩ := instY X hx hZ hown w eT F (g := mkF m pc Ls (.ref a :: rest)) rfl rfl hd
  exact Go.of st (go T' ⟨hx, e', hZ, hown, hO, hE, hC, hlk, locs, k0, X', hS, hk, hF⟩)
theorem g_new (S : St p l e R s m args below meth c Z a0 EL n0 own T V h k n) {C : String} {index sz : Nat} (w : (Cond.classLink own index C).before a0 Z = true) (wi : (Cond.instantiable C sz).before a0 Z = true) (wz : (Cond.initialized C).before a0 Z = true) (hd : decode c.code pc = .ok (.new index, 3)) (hc : k + 1 ≤ R.cells) (hl : n + sz ≤ R.slots)
    (go : ∀ T' h' a, St p l e R s m args below meth c Z a0 EL n0 own T' V h' (k + 1) (n + sz) → Ext h h' → h.size ≤ a → a < h'.size → n0 ≤ a → Safe Z EL V h' a → Exa Z h' a C → (∀ {O nm d : String} {ty : FieldType}, Laid Z a0 C O nm d → parseFieldDescriptor d = some ty → Fld Z h' a O nm d (defaultValue ty)) →
      Go p e below Q (T'.setTop (mkF m (pc + 3) Ls (.ref a :: rest)))) : Go p e below Q (T.setTop (mkF m pc Ls rest)) := by
  have hle := S.le
  obtain ⟨hx, eT, hZ, hown, hO, hE, hC, hlk, locs, k0, X, hS, hk, hF⟩ := S
  obtain ⟨T', h', X', e', E, A, D, -, st⟩ := newO X hx hZ hown w wi wz eT (g := mkF m pc Ls rest) rfl hd hc hl
  exact Go.of st (go T' h' h.size ⟨hx, e', hZ, hown, hO.ext E, hE, hC.trans (CHr.ext E hC.1), hlk, locs, k0, X', hS, Nat.le_trans hk E.1, hF⟩ E (Nat.le_refl _) A.lt hle ((Safe.new (Nat.le_refl _)).ext E hC.1) A D)
theorem g_newarr (S : St p l e R s m args below meth c Z a0 EL n0 own T V h k n) {aty : ArrayType} (w : (Cond.arrayClass (newarray.typeOf aty)).before a0 Z = true) (hd : decode c.code pc = .ok (.newarray aty, 2)) {z : Int32} (hz : ¬ z < 0) {cap : Nat} (hcap : z.toNatClampNeg ≤ cap) (hb : cap * 8 ≤ 536870912) (hc : k + 1 ≤ R.cells) (hl : n + cap ≤ R.slots)
    (go : ∀ T' h' a kc, St p l e R s m args below meth c Z a0 EL n0 own T' V h' (k + 1) (n + cap) → Ext h h' → h.size ≤ a → a < h'.size → n0 ≤ a → Safe Z EL V h' a → (∀ j, Arv Z h' a kc (newarray.typeOf aty) z (List.replicate j (defaultValue (newarray.typeOf aty))) (defaultValue (newarray.typeOf aty))) →
      Go p e below Q (T'.setTop (mkF m (pc + 2) Ls (.ref a :: rest)))) : Go p e below Q (T.setTop (mkF m pc Ls (.int z :: rest))) := by
  have hle := S.le
  obtain ⟨hx, eT, hZ, hown, hO, hE, hC, hlk, locs, k0, X, hS, hk, hF⟩ := S
  obtain ⟨T', h', kc, X', e', E, A, st⟩ := newP X hx hZ w eT (g := mkF m pc Ls (.int z :: rest)) rfl hd rfl hz hcap hb hc hl
  exact Go.of st (go T' h' h.size kc ⟨hx, e', hZ, hown, hO.ext E, hE, hC.trans (CHr.ext E hC.1), hlk, locs, k0, X', hS, Nat.le_trans hk E.1, hF⟩ E (Nat.le_refl _) A.lt hle ((Safe.new (Nat.le_refl _)).ext E hC.1) fun j => (Arv.new A hz).pad (pad_rep [] _ j))
/-- newarray, with its class's name -/
theorem g_newarrE (S : St p l e R s m args below meth c Z a0 EL n0 own T V h k n) {aty : ArrayType} (w : (Cond.arrayClass (newarray.typeOf aty)).before a0 Z = true) (hd : decode c.code pc = .ok (.newarray aty, 2)) {z : Int32} (hz : ¬ z < 0) {cap : Nat} (hcap : z.toNatClampNeg ≤ cap) (hb : cap * 8 ≤ 536870912) (hc : k + 1 ≤ R.cells) (hl : n + cap ≤ R.slots) {ad : String} (had : "[" ++ (newarray.typeOf aty).toString = ad)
    (go : ∀ T' h' a kc, St p l e R s m args below meth c Z a0 EL n0 own T' V h' (k + 1) (n + cap) → Ext h h' → h.size ≤ a → a < h'.size → n0 ≤ a → Safe Z EL V h' a → (∀ j, Arv Z h' a kc (newarray.typeOf aty) z (List.replicate j (defaultValue (newarray.typeOf aty))) (defaultValue (newarray.typeOf aty))) → Exa Z h' a ad →
      Go p e below Q (T'.setTop (mkF m (pc + 2) Ls (.ref a :: rest)))) : Go p e below Q (T.setTop (mkF m pc Ls (.int z :: rest))) := by
  have hle := S.le
  obtain ⟨hx, eT, hZ, hown, hO, hE, hC, hlk, locs, k0, X, hS, hk, hF⟩ := S
  obtain ⟨T', h', kc, X', e', E, A, EA, st⟩ := newPE X hx hZ w eT (g := mkF m pc Ls (.int z :: rest)) rfl hd rfl hz hcap hb hc hl had
  exact Go.of st (go T' h' h.size kc ⟨hx, e', hZ, hown, hO.ext E, hE, hC.trans (CHr.ext E hC.1), hlk, locs, k0, X', hS, Nat.le_trans hk E.1, hF⟩ E (Nat.le_refl _) A.lt hle ((Safe.new (Nat.le_refl _)).ext E hC.1) (fun j => (Arv.new A hz).pad (pad_rep [] _ j)) EA)
/-- clone() of an array -/
theorem g_clone (S : St p l e R s m args below meth c Z a0 EL n0 own T V h k n) {ad : String} {index : Nat} (w1 : (Cond.methodLink own index ⟨ad, "clone", "()Ljava/lang/Object;"⟩).before a0 Z = true) (w2 : (Cond.sameMethod ad "java/lang/Object" "clone" "()Ljava/lang/Object;").before a0 Z = true) (w3 : (Cond.native ⟨"java/lang/Object", "clone", "()Ljava/lang/Object;"⟩).before a0 Z = true)
    (w4 : (Cond.instanceMethod ⟨"java/lang/Object", "clone", "()Ljava/lang/Object;"⟩).before a0 Z = true) (w5 : (Cond.selects ad ⟨ad, "clone", "()Ljava/lang/Object;"⟩ ⟨"java/lang/Object", "clone", "()Ljava/lang/Object;"⟩).before a0 Z = true) (w6 : (Cond.castable ad "java/lang/Cloneable").before a0 Z = true)
    {a : Addr} {kc : ClassId} {ty : FieldType} {z : Int32} {vs : List Value} {dv : Value} (F : Arv Z h a kc ty z vs dv) (E : Exa Z h a ad) (hsz : Ls.size = c.maxLocals) (hd : decode c.code pc = .ok (.invokevirtual index, 3)) (hf : 1 ≤ R.frames) (hl : (rest.map fun v => v.category).sum + 14 ≤ R.locals) {cap : Nat} (hcap : z.toNatClampNeg ≤ cap) (hc : k + 1 ≤ R.cells) (hsl : n + cap ≤ R.slots)
    (go : ∀ T' h' b, St p l e R s m args below meth c Z a0 EL n0 own T' V h' (k + 1) (n + cap) → Ext h h' → h.size ≤ b → n0 ≤ b → Arv Z h' b kc ty z vs dv → Exa Z h' b ad → Go p e below Q (T'.setTop (mkF m (pc + 3) Ls (.ref b :: rest)))) : Go p e below Q (T.setTop (mkF m pc Ls (.ref a :: rest))) := by
  have hle := S.le
  obtain ⟨hx, eT, hZ, hown, hO, hE, hC, hlk, locs, k0, X, hS, hk, hF⟩ := S
  obtain ⟨T', h', X', e', ex, A', E', st⟩ := cloneH X hx (s := s.setVm V) hZ hown w1 w2 w3 w4 w5 w6 eT F.arh E (g := mkF m pc Ls (.ref a :: rest)) rfl hsz rfl hd hf (W := (rest.map fun v => v.category).sum) (by show 2 * 0 + _ ≤ _; omega) hl hcap hc hsl
  exact Go.of st (go T' h' h.size ⟨hx, e', hZ, hown, hO.ext ex, hE, hC.trans (CHr.ext ex hC.1), hlk, locs, k0, X', hS, Nat.le_trans hk ex.1, hF⟩ ex (Nat.le_refl _) hle A' E')
theorem g_castore (S : St p l e R s m args below meth c Z a0 EL n0 own T V h k n) {a : Addr} {kc : ClassId} {z : Int32} {vs : List Value} {dv : Value} (A : Arv Z h a kc .char z vs dv) {j x : Int32} (hj : ¬ j < 0 ∧ j < z) (i : Nat) (hi : j.toNatClampNeg = i) (hlt : i < vs.length) (na : n0 ≤ a) (hd : decode c.code pc = .ok (.castore, 1))
    (go : ∀ T' h', St p l e R s m args below meth c Z a0 EL n0 own T' V h' k n → Keep h h' [a] → Arv Z h' a kc .char z (vs.set i (.int (nar .char x))) dv → Go p e below Q (T'.setTop (mkF m (pc + 1) Ls rest))) : Go p e below Q (T.setTop (mkF m pc Ls (.int x :: .int j :: .ref a :: rest))) := by
  obtain ⟨hx, eT, hZ, hown, hO, hE, hC, hlk, locs, k0, X, hS, hk, hF⟩ := S
  have sf : Safe Z EL V h a := Safe.arv hZ.alike A (by decide)
  obtain ⟨cl, Ar, q1, q2, q3, q4, q5⟩ := A
  obtain ⟨T', h', X', e', W, st⟩ := stC X hx hZ eT Ar (j := j) (x := x) (inb_of q2 hj) (g := mkF m pc Ls (.int x :: .int j :: .ref a :: rest)) rfl rfl hd
  have K := Keep.of_wr W
  exact Go.of st (go T' h' ⟨hx, e', hZ, hown, hO.wr W na, hE, hC.trans (CHr.wr W sf hC.1), hlk, _, k0, X', hS, Nat.le_trans hk K.1, Fr.snoc X' hF na⟩ K (Arv.set Ar q1 q2 q3 q4 q5 (fits_nar_char x) W i hi hlt))
theorem g_putF (S : St p l e R s m args below meth c Z a0 EL n0 own T V h k n) {R0 O nm d C : String} {index kk : Nat} {ty : FieldType} (w : (Cond.fieldLink own index R0 nm d).before a0 Z = true) (via : Via Z R0 O nm d) {a : Addr} {v v' old : Value} (F : Fld Z h a O nm d old) (E : Exa Z h a C)
    (L : (Cond.lays C O nm d).before a0 Z = true ∨ ((Cond.laysFinal C O nm d).before a0 Z = true ∧ own = O ∧ meth.name = "<init>")) (wi : (Cond.instantiable C kk).before a0 Z = true) (hty : parseFieldDescriptor d = some ty) (hn : narrow ty v = v') (hf : fits ty v' = true) (na : n0 ≤ a) (sf : Safe Z EL V h a) (hd : decode c.code pc = .ok (.putfield index, 3))
    (go : ∀ T' h', St p l e R s m args below meth c Z a0 EL n0 own T' V h' k n → Keep h h' [a] → Wr h h' a (Jvm.RoadKit.slotOf Z O nm d) v' → Exa Z h' a C → Fld Z h' a O nm d v' → Safe Z EL V h' a → Go p e below Q (T'.setTop (mkF m (pc + 3) Ls rest))) : Go p e below Q (T.setTop (mkF m pc Ls (v :: .ref a :: rest))) := by
  obtain ⟨hx, eT, hZ, hown, hO, hE, hC, hlk, locs, k0, X, hS, hk, hF⟩ := S
  obtain ⟨T', h', X', e', W, st⟩ := putFN X hx hZ hown w via eT F E L wi hty hn hf (g := mkF m pc Ls (v :: .ref a :: rest)) rfl rfl hd
  have K := Keep.of_wr W
  exact Go.of st (go T' h' ⟨hx, e', hZ, hown, hO.wr W na, hE, hC.trans (CHr.wr W sf hC.1), hlk, _, k0, X', hS, Nat.le_trans hk K.1, Fr.snoc X' hF na⟩ K W (E.wr W) (F.same W) (Safe.wr W sf hC.1 sf))
theorem g_initO (S : St p l e R s m args below meth c Z a0 EL n0 own T V h k n) {index : Nat} (w1 : (Cond.methodLink own index Lib.objectInit).before a0 Z = true) (w2 : (Cond.instanceMethod Lib.objectInit).before a0 Z = true) (w3 : (Cond.code Lib.objectInit ⟨#[0xb1]⟩ 1 none).before a0 Z = true) (hsz : Ls.size = c.maxLocals) {a : Addr} (hd : decode c.code pc = .ok (.invokespecial index, 3)) (hf : 1 ≤ R.frames) (hl : (rest.map fun v => v.category).sum + 12 ≤ R.locals)
    (go : ∀ T', St p l e R s m args below meth c Z a0 EL n0 own T' V h k n → Go p e below Q (T'.setTop (mkF m (pc + 3) Ls rest))) : Go p e below Q (T.setTop (mkF m pc Ls (.ref a :: rest))) := by
  obtain ⟨hx, eT, hZ, hown, hO, hE, hC, hlk, locs, k0, X, hS, hk, hF⟩ := S
  obtain ⟨T', X', e', st⟩ := initO X hx hZ hown w1 w2 w3 eT (g := mkF m pc Ls (.ref a :: rest)) rfl hsz rfl hd hf (W := (rest.map fun v => v.category).sum) (by show 2 * 0 + _ ≤ _; omega) hl
  exact Go.of st (go T' ⟨hx, e', hZ, hown, hO, hE, hC, hlk, locs, k0, X', hS, hk, hF⟩)
theorem g_ldcI (S : St p l e R s m args below meth c Z a0 EL n0 own T V h k n) {index : Nat} {v : Int32} (w : (Cond.constant own index v).before a0 Z = true) (hd : decode c.code pc = .ok (.ldc index, 2)) (go : Go p e below Q (T.setTop (mkF m (pc + 2) Ls (.int v :: rest)))) : Go p e below Q (T.setTop (mkF m pc Ls rest)) := by
  obtain ⟨hx, eT, hZ, hown, hO, hE, hC, hlk, locs, k0, X, hS, hk, hF⟩ := S
  exact Go.of (fun _ q => X.ldcInt hx hown (mvT hZ w) (g := mkF m pc Ls rest) rfl hd _ q) go
theorem g_ldcJ (S : St p l e R s m args below meth c Z a0 EL n0 own T V h k n) {index : Nat} {v : Int64} (w : (Cond.constantLong own index v).before a0 Z = true) (hd : decode c.code pc = .ok (.ldc2_w index, 3)) (go : Go p e below Q (T.setTop (mkF m (pc + 3) Ls (.long v :: rest)))) : Go p e below Q (T.setTop (mkF m pc Ls rest)) := by
  obtain ⟨hx, eT, hZ, hown, hO, hE, hC, hlk, locs, k0, X, hS, hk, hF⟩ := S
  exact Go.of (fun _ q => X.ldc2Long hx hown (mvT hZ w) (g := mkF m pc Ls rest) rfl hd _ q) go
/-- a String constant whose text isn't read -/
theorem g_ldcO (S : St p l e R s m args below meth c Z a0 EL n0 own T V h k n) {index : Nat} {text : String} (w : (Cond.stringLink own index text).before a0 Z = true) (wS : ∀ a ∈ Bundle.stringAtoms, a.before a0 Z = true) (hd : decode c.code pc = .ok (.ldc index, 2)) {b : Nat} (hb : 4 * text.toList.length ≤ b) (hbig : b ≤ 536870912) (hc : k + 2 ≤ R.cells) (hl : n + (b + 4) ≤ R.slots)
    (go : ∀ a T' V' h', St p l e R s m args below meth c Z a0 EL n0 own T' V' h' (k + 2) (n + (b + 4)) → Ext h h' → CHr Z EL V h V' h' → Go p e below Q (T'.setTop (mkF m (pc + 2) Ls (.ref a :: rest)))) : Go p e below Q (T.setTop (mkF m pc Ls rest)) := by
  obtain ⟨hx, eT, hZ, hown, hO, hE, hC, hlk, locs, k0, X, hS, hk, hF⟩ := S
  obtain ⟨a, T', h', k1, X', e', E, hS', hk', hZ', hown', hC', -, st⟩ := ldcOH X hx hZ hown w wS eT hS hk hE hC.1 (g := mkF m pc Ls rest) rfl hd hb hbig hc hl
  exact Go.of st (go a T' T'.vm h' ⟨hx, e', hZ', hown', hO.ext E, hE, hC.trans hC', hlk, locs, k1, X', hS', hk', hF⟩ E hC')
/-- a String constant of EL -/
theorem g_ldcS (S : St p l e R s m args below meth c Z a0 EL n0 own T V h k n) {index : Nat} {text : String} (w : (Cond.stringLink own index text).before a0 Z = true) (wS : ∀ a ∈ Bundle.stringAtoms, a.before a0 Z = true) (hmem : (own, index) ∈ EL) {vs : List Value} {z : Int32} (ht : (∀ c ∈ text.toList, c.toNat < 256) ∧ text.toList.map (fun c => Value.int (Jvm.Lit.byteI c.toNat.toUInt16)) = vs) (hz : ¬ z < 0) (hlz : z.toNatClampNeg = vs.length)
    (hd : decode c.code pc = .ok (.ldc index, 2)) {b : Nat} (hb : 4 * text.toList.length ≤ b) (hbig : b ≤ 536870912) (hc : k + 2 ≤ R.cells) (hl : n + (b + 4) ≤ R.slots)
    (go : ∀ a T' V' h' t kt, St p l e R s m args below meth c Z a0 EL n0 own T' V' h' (k + 2) (n + (b + 4)) → Ext h h' → CHr Z EL V h V' h' → Exa Z h' a "java/lang/String" → Fld Z h' a "java/lang/String" "coder" "B" (.int 0) → Fld Z h' a "java/lang/String" "value" "[B" (.ref t) → Arv Z h' t kt .byte z vs (.int 0) → (∀ x, Safe Z EL V' h' x → x ≠ a ∧ x ≠ t) →
      Go p e below Q (T'.setTop (mkF m (pc + 2) Ls (.ref a :: rest)))) : Go p e below Q (T.setTop (mkF m pc Ls rest)) := by
  obtain ⟨hx, eT, hZ, hown, hO, hE, hC, hlk, locs, k0, X, hS, hk, hF⟩ := S
  obtain ⟨a, T', h', k1, t, kt, X', e', E, hS', hk', hZ', hown', f1, f2, f3, f4, -, -, hC', -, f5, st⟩ := ldcCH X hx hZ hown w wS eT hS hk hE hmem hC.1 ht hz hlz (g := mkF m pc Ls rest) rfl hd hb hbig hc hl
  exact Go.of st (go a T' T'.vm h' t kt ⟨hx, e', hZ', hown', hO.ext E, hE, hC.trans hC', hlk, locs, k1, X', hS', hk', hF⟩ E hC' f1 f2 f3 f4 f5)
section Calls
variable {y z : MethodName} {bytes : ByteArray} {maxL : Nat} {ret : Option FieldType} {rm : Room} {as' : Array Value} {sfs : List Addr} {QQ : Option Value → Heap → Vm → Prop} {index : Nat} {stk : List Value}
/-- the library's backOfSH with objects that are no literal's -/
theorem backOfSf {W : Nat} {vm0 : Vm} {QB : Option Value → Heap → Vm → List Loc → Prop}
    (hM : MetFree l y (head1 [Cond.code y bytes maxL ret] rm) (fun a U => a = as' ∧ Z.Warmed39 U.vm ∧ U.heap = h ∧ CHv Z EL U.vm h ∧ ∀ x ∈ sfs, Safe Z EL U.vm h x) (fun _ _ _ _ _ => True) (fun _ U o U' => ∃ v L, o = .returned v ∧ QB v U'.heap U'.vm L ∧ CHr Z EL U.vm U.heap U'.vm U'.heap ∧ ReturnedEndW U o U' L rm.cells rm.slots))
    (hZ : Z.Warmed39 vm0) (wc : (Cond.code y bytes maxL ret).before a0 Z = true) (wz : (Cond.initialized y.cls).before a0 Z = true) (hf : rm.frames + 1 ≤ R.frames) (hl : W + (maxL + 11) + rm.locals ≤ R.locals) (hEL : EW Z a0 EL) (H : CHv Z EL vm0 h) (hsf : ∀ x ∈ sfs, x < h.size ∧ Safe Z EL vm0 h x) :
    BackS l R p e below (s.setVm vm0) args y 3 W (fun A a => a = as' ∧ A.U.heap = h ∧ A.cells + rm.cells ≤ R.cells ∧ A.slots + rm.slots ≤ R.slots)
      (fun A _ v B => ∃ L, QB v B.U.heap B.U.vm L ∧ B.locs = A.locs ++ L ∧ B.cells = A.cells + rm.cells ∧ B.slots = A.slots + rm.slots ∧ CHr Z EL vm0 h B.U.vm B.U.heap) := by
  refine BackS.of_freeW (bytes := bytes) (maxL := maxL) (ret := ret) (E := fun _ first o t L k n => (k = rm.cells ∧ n = rm.slots) ∧ (∃ v, o = .returned v ∧ QB v t.heap t.vm L) ∧ CHr Z EL first.vm first.heap t.vm t.heap) hM hf hl ?_ ?_ (fun _ _ _ _ _ _ _ _ _ => trivial) ?_ ?_
  · intro m meth c A a Y hp
    have hU : Z.Warmed39 A.U.vm := wtrans (s := s.setVm vm0) hZ Y.warmed
    exact ⟨by show (Cond.and _ .tt).before a A.U = true; rw [Cond.before_and, mv hU wc]; rfl, mv hU wc, mv hU wz, hp.2.2.1, hp.2.2.2⟩
  · intro m meth c A a g mk Y hp
    have q := CHv.at Y hZ hEL H
    exact ⟨hp.1, wtrans (s := s.setVm vm0) hZ Y.warmed, hp.2.1, q.1, fun x hx => q.safe (hsf x hx).1 (hsf x hx).2⟩
  · rintro _ _ _ _ ⟨v, L, h1, h2, h3, h4⟩
    exact ⟨L, _, _, h4, ⟨rfl, rfl⟩, ⟨v, h1, h2⟩, h3⟩
  · intro m meth c A a g mk v t L k n Y hp _ _ q
    obtain ⟨⟨e1, e2⟩, ⟨v', e3, e4⟩, e5⟩ := q
    cases e3; subst e1 e2
    refine ⟨L, e4, rfl, rfl, rfl, (CHv.at Y hZ hEL H).trans ?_⟩
    rw [← hp.2.1]; exact e5
theorem g_static (S : St p l e R s m args below meth c Z a0 EL n0 own T V h k n) (C : CtrV l Z EL n0 y bytes maxL ret rm as' h sfs QQ) (hsf : ∀ x ∈ sfs, x < h.size ∧ Safe Z EL V h x) (wl : (Cond.methodLink own index y).before a0 Z = true) (ws : (Cond.static y).before a0 Z = true) (wi : (Cond.initialized y.cls).before a0 Z = true) (wc : (Cond.code y bytes maxL ret).before a0 Z = true) (hy : y.cls ≠ "java/lang/invoke/MethodHandle" ∧ y.cls ≠ "java/lang/invoke/VarHandle")
    (hd : decode c.code pc = .ok (.invokestatic index, 3)) (hsz : Ls.size = c.maxLocals) (argsL : List Value) (hlen : ∀ sig, parseMethodDescriptor y.desc = some sig → argsL.length = sig.parameters.length) (hst : stk = argsL.reverse ++ rest) (has : argsL.toArray = as') (hf : rm.frames + 1 ≤ R.frames) (hl : (rest.map fun v => v.category).sum + (maxL + 11) + rm.locals ≤ R.locals) (hc : k + rm.cells ≤ R.cells) (hs : n + rm.slots ≤ R.slots)
    (go : ∀ v T' V' h', St p l e R s m args below meth c Z a0 EL n0 own T' V' h' (k + rm.cells) (n + rm.slots) → CHr Z EL V h V' h' → QQ v h' V' → Go p e below Q (T'.setTop (mkF m (pc + 3) Ls (v.toList ++ rest)))) : Go p e below Q (T.setTop (mkF m pc Ls stk)) := by
  obtain ⟨hx, eT, hZ, hown, hO, hE, hC, hlk, locs, k0, X, hS, hk, hF⟩ := S
  have bk := backOfSf (s := s) (R := R) (p := p) (e := e) (below := below) (args := args) (W := (rest.map fun v => v.category).sum) (QB := fun v h' vm L => QQ v h' vm ∧ Fr n0 L ∧ Old Z n0 h') (C []) hZ wc wi hf hl hE hC.1 hsf
  obtain ⟨v, vm1, ⟨U, Lc, kc, sc⟩, hW1, X', hS', hgr, ⟨L, ⟨hQ, hF', hO'⟩, eL, ec, es, hC'⟩, st⟩ := callSS X hx hown (mvT hZ wl) (mvT hZ ws) (mvT hZ wi) (mvT hZ wc) hy bk (g := mkF m pc Ls stk) rfl hsz (argsL := argsL) (rest := rest) hlen hst (by show 2 * 0 + _ ≤ _; omega) hd (fun _ _ => ⟨has, eT, hc, hs⟩)
  dsimp only [Pt.U, Pt.locs, Pt.cells, Pt.slots] at X' hS' hgr hQ hO' eL ec es hC' st
  subst eL ec es
  exact Go.of (fun _ q => st.trans q) (go v U U.vm U.heap ⟨hx, rfl, State.Warmed39.trans (t := s.setVm V) hZ hS'.1, by rw [hS'.1.alike.findClass]; exact hown, hO', hE, hC.trans hC', hlk, _, _, X', hS.trans hS' (Nat.le_trans hk (eT ▸ hgr)), Nat.le_refl _, hF.app hF'⟩ hC' hQ)
theorem g_special (S : St p l e R s m args below meth c Z a0 EL n0 own T V h k n) (C : CtrV l Z EL n0 y bytes maxL none rm as' h sfs QQ) (hsf : ∀ x ∈ sfs, x < h.size ∧ Safe Z EL V h x) (hy1 : y.name = "<init>") (wl : (Cond.methodLink own index y).before a0 Z = true) (ws : (Cond.instanceMethod y).before a0 Z = true) (wi : (Cond.initialized y.cls).before a0 Z = true) (wc : (Cond.code y bytes maxL none).before a0 Z = true) (hy : y.cls ≠ "java/lang/invoke/MethodHandle" ∧ y.cls ≠ "java/lang/invoke/VarHandle")
    (hd : decode c.code pc = .ok (.invokespecial index, 3)) (hsz : Ls.size = c.maxLocals) (a : Addr) (argsL : List Value) (hlen : ∀ sig, parseMethodDescriptor y.desc = some sig → argsL.length = sig.parameters.length) (hst : stk = argsL.reverse ++ .ref a :: rest) (has : (.ref a :: argsL).toArray = as') (hf : rm.frames + 1 ≤ R.frames) (hl : (rest.map fun v => v.category).sum + (maxL + 11) + rm.locals ≤ R.locals) (hc : k + rm.cells ≤ R.cells) (hs : n + rm.slots ≤ R.slots)
    (go : ∀ v T' V' h', St p l e R s m args below meth c Z a0 EL n0 own T' V' h' (k + rm.cells) (n + rm.slots) → CHr Z EL V h V' h' → QQ v h' V' → Go p e below Q (T'.setTop (mkF m (pc + 3) Ls (v.toList ++ rest)))) : Go p e below Q (T.setTop (mkF m pc Ls stk)) := by
  obtain ⟨hx, eT, hZ, hown, hO, hE, hC, hlk, locs, k0, X, hS, hk, hF⟩ := S
  have bk := backOfSf (s := s) (R := R) (p := p) (e := e) (below := below) (args := args) (W := (rest.map fun v => v.category).sum) (QB := fun v h' vm L => QQ v h' vm ∧ Fr n0 L ∧ Old Z n0 h') (C []) hZ wc wi hf hl hE hC.1 hsf
  obtain ⟨v, vm1, ⟨U, Lc, kc, sc⟩, hW1, X', hS', hgr, ⟨L, ⟨hQ, hF', hO'⟩, eL, ec, es, hC'⟩, st⟩ := X.specialBackS hx hy1 hown (mvT hZ wl) (mvT hZ ws) (mvT hZ wc) hy bk (g := mkF m pc Ls stk) rfl hsz (Steps.refl _) (a := a) (argsL := argsL) (rest := rest) hlen hst (by show 2 * 0 + _ ≤ _; omega) hd (fun _ _ => ⟨has, eT, hc, hs⟩)
  dsimp only [Pt.U, Pt.locs, Pt.cells, Pt.slots] at X' hS' hgr hQ hO' eL ec es hC' st
  subst eL ec es
  exact Go.of (fun _ q => st.trans q) (go v U U.vm U.heap ⟨hx, rfl, State.Warmed39.trans (t := s.setVm V) hZ hS'.1, by rw [hS'.1.alike.findClass]; exact hown, hO', hE, hC.trans hC', hlk, _, _, X', hS.trans hS' (Nat.le_trans hk (eT ▸ hgr)), Nat.le_refl _, hF.app hF'⟩ hC' hQ)
theorem g_virtualC {C : String} (S : St p l e R s m args below meth c Z a0 EL n0 own T V h k n) (K : CtrV l Z EL n0 z bytes maxL ret rm as' h sfs QQ) (hsf : ∀ x ∈ sfs, x < h.size ∧ Safe Z EL V h x) (wl : (Cond.methodLink own index y).before a0 Z = true) (wd : (Cond.declares y).before a0 Z = true) (wse : (Cond.selects C y z).before a0 Z = true) (ws : (Cond.instanceMethod z).before a0 Z = true) (wi : (Cond.initialized z.cls).before a0 Z = true) (wc : (Cond.code z bytes maxL ret).before a0 Z = true) (hy : y.cls ≠ "java/lang/invoke/MethodHandle" ∧ y.cls ≠ "java/lang/invoke/VarHandle")
    (hnf : NotFace (s.setVm V) y) (hd : decode c.code pc = .ok (.invokevirtual index, 3)) (hsz : Ls.size = c.maxLocals) (a : Addr) (E : Exa Z h a C) (argsL : List Value) (hlen : ∀ sig, parseMethodDescriptor y.desc = some sig → argsL.length = sig.parameters.length) (hst : stk = argsL.reverse ++ .ref a :: rest) (has : (.ref a :: argsL).toArray = as') (hf : rm.frames + 1 ≤ R.frames) (hl : (rest.map fun v => v.category).sum + (maxL + 11) + rm.locals ≤ R.locals) (hc : k + rm.cells ≤ R.cells) (hs : n + rm.slots ≤ R.slots)
    (go : ∀ v T' V' h', St p l e R s m args below meth c Z a0 EL n0 own T' V' h' (k + rm.cells) (n + rm.slots) → CHr Z EL V h V' h' → QQ v h' V' → Go p e below Q (T'.setTop (mkF m (pc + 3) Ls (v.toList ++ rest)))) : Go p e below Q (T.setTop (mkF m pc Ls stk)) := by
  obtain ⟨hx, eT, hZ, hown, hO, hE, hC, hlk, locs, k0, X, hS, hk, hF⟩ := S
  have bk := backOfSf (s := s) (R := R) (p := p) (e := e) (below := below) (args := args) (W := (rest.map fun v => v.category).sum) (QB := fun v h' vm L => QQ v h' vm ∧ Fr n0 L ∧ Old Z n0 h') (K []) hZ wc wi hf hl hE hC.1 hsf
  obtain ⟨cq, kq, q1, q2, q3⟩ := isOf (s := s.setVm V) hZ eT E
  obtain ⟨v, vm1, ⟨U, Lc, kc, sc⟩, hW1, X', hS', hgr, ⟨L, ⟨hQ, hF', hO'⟩, eL, ec, es, hC'⟩, st⟩ := X.virtualBackS hx hown (mvT hZ wl) (mvT hZ wd) hnf (mvT hZ wse) (mvT hZ ws) hy bk q1 q3 (g := mkF m pc Ls stk) rfl hsz (Steps.refl _) (argsL := argsL) (rest := rest) hlen hst (by show 2 * 0 + _ ≤ _; omega) hd (fun _ _ => ⟨has, eT, hc, hs⟩)
  dsimp only [Pt.U, Pt.locs, Pt.cells, Pt.slots] at X' hS' hgr hQ hO' eL ec es hC' st
  subst eL ec es
  exact Go.of (fun _ q => st.trans q) (go v U U.vm U.heap ⟨hx, rfl, State.Warmed39.trans (t := s.setVm V) hZ hS'.1, by rw [hS'.1.alike.findClass]; exact hown, hO', hE, hC.trans hC', hlk, _, _, X', hS.trans hS' (Nat.le_trans hk (eT ▸ hgr)), Nat.le_refl _, hF.app hF'⟩ hC' hQ)
theorem nf_of {V : Vm} {y : MethodName} (N : NI Z y.cls) (hZ : Z.Warmed39 V) : NotFace (s.setVm V) y := fun r0 q => by
  obtain ⟨c, k, g1, g2, g3⟩ := N.mv hZ
  have h1 : V.findClass y.cls = some r0.cls := findClass_of_methodNamed q
  cases g1.symm.trans h1
  exact ⟨k, g2, g3⟩
theorem g_virtual {C : String} (S : St p l e R s m args below meth c Z a0 EL n0 own T V h k n) (K : CtrV l Z EL n0 z bytes maxL ret rm as' h sfs QQ) (hsf : ∀ x ∈ sfs, x < h.size ∧ Safe Z EL V h x) (wl : (Cond.methodLink own index y).before a0 Z = true) (wd : (Cond.declares y).before a0 Z = true) (wse : (Cond.selects C y z).before a0 Z = true) (ws : (Cond.instanceMethod z).before a0 Z = true) (wi : (Cond.initialized z.cls).before a0 Z = true) (wc : (Cond.code z bytes maxL ret).before a0 Z = true) (hy : y.cls ≠ "java/lang/invoke/MethodHandle" ∧ y.cls ≠ "java/lang/invoke/VarHandle")
    (hnf : ∀ s' : State, (Cond.selects C y z).before args s' = true → NotFace s' y) (hd : decode c.code pc = .ok (.invokevirtual index, 3)) (hsz : Ls.size = c.maxLocals) (a : Addr) (E : Exa Z h a C) (argsL : List Value) (hlen : ∀ sig, parseMethodDescriptor y.desc = some sig → argsL.length = sig.parameters.length) (hst : stk = argsL.reverse ++ .ref a :: rest) (has : (.ref a :: argsL).toArray = as') (hf : rm.frames + 1 ≤ R.frames) (hl : (rest.map fun v => v.category).sum + (maxL + 11) + rm.locals ≤ R.locals) (hc : k + rm.cells ≤ R.cells) (hs : n + rm.slots ≤ R.slots)
    (go : ∀ v T' V' h', St p l e R s m args below meth c Z a0 EL n0 own T' V' h' (k + rm.cells) (n + rm.slots) → CHr Z EL V h V' h' → QQ v h' V' → Go p e below Q (T'.setTop (mkF m (pc + 3) Ls (v.toList ++ rest)))) : Go p e below Q (T.setTop (mkF m pc Ls stk)) := by
  exact g_virtualC S K hsf wl wd wse ws wi wc hy (hnf _ (mvT (s := s.setVm V) S.warm wse)) hd hsz a E argsL hlen hst has hf hl hc hs go
theorem g_virtualN {C : String} (S : St p l e R s m args below meth c Z a0 EL n0 own T V h k n) (K : CtrV l Z EL n0 z bytes maxL ret rm as' h sfs QQ) (hsf : ∀ x ∈ sfs, x < h.size ∧ Safe Z EL V h x) (wl : (Cond.methodLink own index y).before a0 Z = true) (wd : (Cond.declares y).before a0 Z = true) (wse : (Cond.selects C y z).before a0 Z = true) (ws : (Cond.instanceMethod z).before a0 Z = true) (wi : (Cond.initialized z.cls).before a0 Z = true) (wc : (Cond.code z bytes maxL ret).before a0 Z = true) (hy : y.cls ≠ "java/lang/invoke/MethodHandle" ∧ y.cls ≠ "java/lang/invoke/VarHandle")
    (N : NI Z y.cls) (hd : decode c.code pc = .ok (.invokevirtual index, 3)) (hsz : Ls.size = c.maxLocals) (a : Addr) (E : Exa Z h a C) (argsL : List Value) (hlen : ∀ sig, parseMethodDescriptor y.desc = some sig → argsL.length = sig.parameters.length) (hst : stk = argsL.reverse ++ .ref a :: rest) (has : (.ref a :: argsL).toArray = as') (hf : rm.frames + 1 ≤ R.frames) (hl : (rest.map fun v => v.category).sum + (maxL + 11) + rm.locals ≤ R.locals) (hc : k + rm.cells ≤ R.cells) (hs : n + rm.slots ≤ R.slots)
    (go : ∀ v T' V' h', St p l e R s m args below meth c Z a0 EL n0 own T' V' h' (k + rm.cells) (n + rm.slots) → CHr Z EL V h V' h' → QQ v h' V' → Go p e below Q (T'.setTop (mkF m (pc + 3) Ls (v.toList ++ rest)))) : Go p e below Q (T.setTop (mkF m pc Ls stk)) := by
  exact g_virtualC S K hsf wl wd wse ws wi wc hy (nf_of N S.warm) hd hsz a E argsL hlen hst has hf hl hc hs go
/-- invokespecial of a superclass's method -/
theorem g_super {C : String} (S : St p l e R s m args below meth c Z a0 EL n0 own T V h k n) (K : CtrV l Z EL n0 y bytes maxL ret rm as' h sfs QQ) (hsf : ∀ x ∈ sfs, x < h.size ∧ Safe Z EL V h x) (hy1 : y.name ≠ "<init>") (wl : (Cond.methodLink own index y).before a0 Z = true) (N : NI Z y.cls) (ws : (Cond.instanceMethod y).before a0 Z = true) (wu : (Cond.superclass own y.cls).before a0 Z = true) (wi : (Cond.initialized y.cls).before a0 Z = true) (wc : (Cond.code y bytes maxL ret).before a0 Z = true) (hy : y.cls ≠ "java/lang/invoke/MethodHandle" ∧ y.cls ≠ "java/lang/invoke/VarHandle")
    (hd : decode c.code pc = .ok (.invokespecial index, 3)) (hsz : Ls.size = c.maxLocals) (a : Addr) (E : Exa Z h a C) (argsL : List Value) (hlen : ∀ sig, parseMethodDescriptor y.desc = some sig → argsL.length = sig.parameters.length) (hst : stk = argsL.reverse ++ .ref a :: rest) (has : (.ref a :: argsL).toArray = as') (hf : rm.frames + 1 ≤ R.frames) (hl : (rest.map fun v => v.category).sum + (maxL + 11) + rm.locals ≤ R.locals) (hc : k + rm.cells ≤ R.cells) (hs : n + rm.slots ≤ R.slots)
    (go : ∀ v T' V' h', St p l e R s m args below meth c Z a0 EL n0 own T' V' h' (k + rm.cells) (n + rm.slots) → CHr Z EL V h V' h' → QQ v h' V' → Go p e below Q (T'.setTop (mkF m (pc + 3) Ls (v.toList ++ rest)))) : Go p e below Q (T.setTop (mkF m pc Ls stk)) := by
  obtain ⟨hx, eT, hZ, hown, hO, hE, hC, hlk, locs, k0, X, hS, hk, hF⟩ := S
  have bk := backOfSf (s := s) (R := R) (p := p) (e := e) (below := below) (args := args) (W := (rest.map fun v => v.category).sum) (QB := fun v h' vm L => QQ v h' vm ∧ Fr n0 L ∧ Old Z n0 h') (K []) hZ wc wi hf hl hE hC.1 hsf
  obtain ⟨v, vm1, ⟨U, Lc, kc, sc⟩, hW1, X', hS', hgr, ⟨L, ⟨hQ, hF', hO'⟩, eL, ec, es, hC'⟩, st⟩ := superBackS X hx (s := s.setVm V) hZ hown wl (same_own N ws hy) ws wu hy1 bk eT (Ins.self E) (g := mkF m pc Ls stk) rfl hsz wc (argsL := argsL) (rest := rest) hlen hst (by show 2 * 0 + _ ≤ _; omega) hd (fun _ _ => ⟨has, eT, hc, hs⟩)
  dsimp only [Pt.U, Pt.locs, Pt.cells, Pt.slots] at X' hS' hgr hQ hO' eL ec es hC' st
  subst eL ec es
  exact Go.of (fun _ q => st.trans q) (go v U U.vm U.heap ⟨hx, rfl, State.Warmed39.trans (t := s.setVm V) hZ hS'.1, by rw [hS'.1.alike.findClass]; exact hown, hO', hE, hC.trans hC', hlk, _, _, X', hS.trans hS' (Nat.le_trans hk (eT ▸ hgr)), Nat.le_refl _, hF.app hF'⟩ hC' hQ)
/-- invokevirtual of a private method -/
theorem g_private {C : String} (S : St p l e R s m args below meth c Z a0 EL n0 own T V h k n) (K : CtrV l Z EL n0 y bytes maxL ret rm as' h sfs QQ) (hsf : ∀ x ∈ sfs, x < h.size ∧ Safe Z EL V h x) (wl : (Cond.methodLink own index y).before a0 Z = true) (N : NI Z y.cls) (wp : (Cond.privateMethod y).before a0 Z = true) (ws : (Cond.instanceMethod y).before a0 Z = true) (wi : (Cond.initialized y.cls).before a0 Z = true) (wc : (Cond.code y bytes maxL ret).before a0 Z = true) (hy : y.cls ≠ "java/lang/invoke/MethodHandle" ∧ y.cls ≠ "java/lang/invoke/VarHandle")
    (hd : decode c.code pc = .ok (.invokevirtual index, 3)) (hsz : Ls.size = c.maxLocals) (a : Addr) (E : Exa Z h a C) (argsL : List Value) (hlen : ∀ sig, parseMethodDescriptor y.desc = some sig → argsL.length = sig.parameters.length) (hst : stk = argsL.reverse ++ .ref a :: rest) (has : (.ref a :: argsL).toArray = as') (hf : rm.frames + 1 ≤ R.frames) (hl : (rest.map fun v => v.category).sum + (maxL + 11) + rm.locals ≤ R.locals) (hc : k + rm.cells ≤ R.cells) (hs : n + rm.slots ≤ R.slots)
    (go : ∀ v T' V' h', St p l e R s m args below meth c Z a0 EL n0 own T' V' h' (k + rm.cells) (n + rm.slots) → CHr Z EL V h V' h' → QQ v h' V' → Go p e below Q (T'.setTop (mkF m (pc + 3) Ls (v.toList ++ rest)))) : Go p e below Q (T.setTop (mkF m pc Ls stk)) := by
  obtain ⟨hx, eT, hZ, hown, hO, hE, hC, hlk, locs, k0, X, hS, hk, hF⟩ := S
  have bk := backOfSf (s := s) (R := R) (p := p) (e := e) (below := below) (args := args) (W := (rest.map fun v => v.category).sum) (QB := fun v h' vm L => QQ v h' vm ∧ Fr n0 L ∧ Old Z n0 h') (K []) hZ wc wi hf hl hE hC.1 hsf
  obtain ⟨cell, hcell, hobj⟩ := E.cell
  have wp' := Cond.privateMethod_at (mvP (s := s.setVm V) (args := args) hZ wp)
  have ws' : (Cond.instanceMethod y).before args (s.setVm V) = true := mvT (s := s.setVm V) hZ ws
  obtain ⟨v, vm1, ⟨U, Lc, kc, sc⟩, hW1, X', hS', hgr, ⟨L, ⟨hQ, hF', hO'⟩, eL, ec, es, hC'⟩, st⟩ := X.privateBackS hx hown (mvT (s := s.setVm V) hZ wl) ws' (sel_own (a0 := a0) hZ rfl N ws' wp' hy) wp' (mvT (s := s.setVm V) hZ wc) hy bk (g := mkF m pc Ls stk) rfl hsz (Steps.refl _) (a := a) (cell := cell) (by rw [eT]; exact hcell) hobj (argsL := argsL) (rest := rest) hlen hst (by show 2 * 0 + _ ≤ _; omega) hd (fun _ _ => ⟨has, eT, hc, hs⟩)
  dsimp only [Pt.U, Pt.locs, Pt.cells, Pt.slots] at X' hS' hgr hQ hO' eL ec es hC' st
  subst eL ec es
  exact Go.of (fun _ q => st.trans q) (go v U U.vm U.heap ⟨hx, rfl, State.Warmed39.trans (t := s.setVm V) hZ hS'.1, by rw [hS'.1.alike.findClass]; exact hown, hO', hE, hC.trans hC', hlk, _, _, X', hS.trans hS' (Nat.le_trans hk (eT ▸ hgr)), Nat.le_refl _, hF.app hF'⟩ hC' hQ)
/-- System.arraycopy of primitives -/
theorem g_copy (S : St p l e R s m args below meth c Z a0 EL n0 own T V h k n) (w1 : (Cond.methodLink own index Jvm.Stand.acN).before a0 Z = true) (w2 : (Cond.native Jvm.Stand.acN).before a0 Z = true) (w3 : (Cond.static Jvm.Stand.acN).before a0 Z = true) (w4 : (Cond.initialized "java/lang/System").before a0 Z = true)
    {a b : Addr} {ka kb : ClassId} {ty : FieldType} {za zb sp dp nn : Int32} {vs vd us : List Value} {dv dd : Value} (A : Arv Z h a ka ty za vs dv) (B : Arv Z h b kb ty zb vd dd) (hty : refKind ty = false) (h1 : ¬ sp < 0) (h2 : ¬ dp < 0) (h3 : ¬ nn < 0) (h4 : sp.toNatClampNeg + nn.toNatClampNeg ≤ za.toNatClampNeg) (h5 : dp.toNatClampNeg + nn.toNatClampNeg ≤ zb.toNatClampNeg)
    (hus : us = (List.range nn.toNatClampNeg).map fun i => vs.getD (sp.toNatClampNeg + i) dv) (hl : dp.toNatClampNeg + nn.toNatClampNeg ≤ vd.length) (ge : n0 ≤ b) (sf : Safe Z EL V h b) (hd : decode c.code pc = .ok (.invokestatic index, 3)) (hsz : Ls.size = c.maxLocals) (hf : 1 ≤ R.frames) (hlo : (rest.map fun v => v.category).sum + (nativeFrameWords "java/lang/System" "arraycopy" 5 + 11) ≤ R.locals)
    (go : ∀ T' h', St p l e R s m args below meth c Z a0 EL n0 own T' V h' k n → Keep h h' [b] → Arv Z h' b kb ty zb (vd.take dp.toNatClampNeg ++ us ++ vd.drop (dp.toNatClampNeg + nn.toNatClampNeg)) dd → Safe Z EL V h' b → Go p e below Q (T'.setTop (mkF m (pc + 3) Ls rest))) : Go p e below Q (T.setTop (mkF m pc Ls (.int nn :: .int dp :: .ref b :: .int sp :: .ref a :: rest))) := by
  obtain ⟨hx, eT, hZ, hown, hO, hE, hC, hlk, locs, k0, X, hS, hk, hF⟩ := S
  obtain ⟨T', h', L, X', e', hF', K, A', st⟩ := cpA X hx (s := s.setVm V) hZ hown w1 w2 w3 w4 eT A B (Or.inl ⟨rfl, hty⟩) h1 h2 h3 h4 h5 hus hl hF ge (g := mkF m pc Ls (.int nn :: .int dp :: .ref b :: .int sp :: .ref a :: rest)) rfl hsz rfl hd hf (W := (rest.map fun v => v.category).sum) (by show 2 * 0 + _ ≤ _; omega) hlo
  have sfs : ∀ x ∈ [b], Safe Z EL V h x := fun x q => by cases List.mem_singleton.mp q; exact sf
  exact Go.of st (go T' h' ⟨hx, e', hZ, hown, hO.keep K (allS ge all0), hE, hC.trans (CHr.keep K sfs hC.1), hlk, L, k0, X', hS, Nat.le_trans hk K.1, hF'⟩ K A' (Safe.keep K sfs hC.1 sf))
/-- a callee that is paid by a narrow law of the library's (or of a pasted text's): rc cells, rs slots -/
abbrev BkC (l : Launch) (R : Room) (p : Program) (e : Env) (below : List Frame) (s : State) (args : Array Value) (y : MethodName) (W : Nat) (as' : Array Value) (h : Heap) (rc rs : Nat) (QB : Option Value → Heap → List Loc → Prop) : Prop :=
  Back l R p e below s args y 3 W (fun A a => a = as' ∧ A.U.heap = h ∧ A.cells + rc ≤ R.cells ∧ A.slots + rs ≤ R.slots) (fun A _ v B => ∃ L, QB v B.U.heap L ∧ B.locs = A.locs ++ L ∧ B.cells = A.cells + rc ∧ B.slots = A.slots + rs)
theorem g_staticB {rc rs : Nat} {QB : Option Value → Heap → List Loc → Prop} (S : St p l e R s m args below meth c Z a0 EL n0 own T V h k n) {W : Nat} (B : ∀ s' : State, Z.Warmed39 s'.vm → BkC l R p e below s' args y W as' h rc rs QB) (wl : (Cond.methodLink own index y).before a0 Z = true) (ws : (Cond.static y).before a0 Z = true) (wi : (Cond.initialized y.cls).before a0 Z = true) (wc : (Cond.code y bytes maxL ret).before a0 Z = true) (hy : y.cls ≠ "java/lang/invoke/MethodHandle" ∧ y.cls ≠ "java/lang/invoke/VarHandle")
    (hd : decode c.code pc = .ok (.invokestatic index, 3)) (hsz : Ls.size = c.maxLocals) (argsL : List Value) (hlen : ∀ sig, parseMethodDescriptor y.desc = some sig → argsL.length = sig.parameters.length) (hst : stk = argsL.reverse ++ rest) (has : argsL.toArray = as') (hW : (rest.map fun v => v.category).sum ≤ W) (hc : k + rc ≤ R.cells) (hs : n + rs ≤ R.slots)
    (hq : ∀ v h' L, QB v h' L → Fr n0 L ∧ ∃ xs, Keep h h' xs ∧ (∀ x ∈ xs, Safe Z EL V h x) ∧ ∀ x ∈ xs, n0 ≤ x)
    (go : ∀ v T' h' L, St p l e R s m args below meth c Z a0 EL n0 own T' V h' (k + rc) (n + rs) → QB v h' L → Go p e below Q (T'.setTop (mkF m (pc + 3) Ls (v.toList ++ rest)))) : Go p e below Q (T.setTop (mkF m pc Ls stk)) := by
  obtain ⟨hx, eT, hZ, hown, hO, hE, hC, hlk, locs, k0, X, hS, hk, hF⟩ := S
  obtain ⟨v, vm1, ⟨U, Lc, kc, sc⟩, hW1, X', ⟨L, hQ, eL, ec, es⟩, st⟩ := Jvm.LawKit.callS X hx hown (mvT hZ wl) (mvT hZ ws) (mvT hZ wi) (mvT hZ wc) hy (B (s.setVm V) hZ) (g := mkF m pc Ls stk) rfl hsz (argsL := argsL) (rest := rest) hlen hst (by show 2 * 0 + _ ≤ _; omega) hd (fun _ _ => ⟨has, eT, hc, hs⟩)
  dsimp only [Pt.U, Pt.locs, Pt.cells, Pt.slots] at X' hQ eL ec es st
  subst eL ec es
  obtain ⟨hF', xs, K, sf, nx⟩ := hq _ _ _ hQ
  exact Go.of st (go v U U.heap L ⟨hx, rfl, hZ, hown, hO.keep K nx, hE, hC.trans (CHr.keep K sf hC.1), hlk, _, _, X', hS, Nat.le_trans hk K.1, hF.app hF'⟩ hQ)
theorem g_specialB {rc rs : Nat} {QB : Option Value → Heap → List Loc → Prop} (S : St p l e R s m args below meth c Z a0 EL n0 own T V h k n) {W : Nat} (B : ∀ s' : State, Z.Warmed39 s'.vm → BkC l R p e below s' args y W as' h rc rs QB) (hy1 : y.name = "<init>") (wl : (Cond.methodLink own index y).before a0 Z = true) (ws : (Cond.instanceMethod y).before a0 Z = true) (wc : (Cond.code y bytes maxL none).before a0 Z = true) (hy : y.cls ≠ "java/lang/invoke/MethodHandle" ∧ y.cls ≠ "java/lang/invoke/VarHandle")
    (hd : decode c.code pc = .ok (.invokespecial index, 3)) (hsz : Ls.size = c.maxLocals) (a : Addr) (argsL : List Value) (hlen : ∀ sig, parseMethodDescriptor y.desc = some sig → argsL.length = sig.parameters.length) (hst : stk = argsL.reverse ++ .ref a :: rest) (has : (.ref a :: argsL).toArray = as') (hW : (rest.map fun v => v.category).sum ≤ W) (hc : k + rc ≤ R.cells) (hs : n + rs ≤ R.slots)
    (hq : ∀ v h' L, QB v h' L → Fr n0 L ∧ ∃ xs, Keep h h' xs ∧ (∀ x ∈ xs, Safe Z EL V h x) ∧ ∀ x ∈ xs, n0 ≤ x)
    (go : ∀ v T' h' L, St p l e R s m args below meth c Z a0 EL n0 own T' V h' (k + rc) (n + rs) → QB v h' L → Go p e below Q (T'.setTop (mkF m (pc + 3) Ls (v.toList ++ rest)))) : Go p e below Q (T.setTop (mkF m pc Ls stk)) := by
  obtain ⟨hx, eT, hZ, hown, hO, hE, hC, hlk, locs, k0, X, hS, hk, hF⟩ := S
  obtain ⟨v, vm1, ⟨U, Lc, kc, sc⟩, hW1, X', ⟨L, hQ, eL, ec, es⟩, st⟩ := X.specialBack hx hy1 hown (mvT hZ wl) (mvT hZ ws) (mvT hZ wc) hy (B (s.setVm V) hZ) (g := mkF m pc Ls stk) rfl hsz (Steps.refl _) (a := a) (argsL := argsL) (rest := rest) hlen hst (by show 2 * 0 + _ ≤ _; omega) hd (fun _ _ => ⟨has, eT, hc, hs⟩)
  dsimp only [Pt.U, Pt.locs, Pt.cells, Pt.slots] at X' hQ eL ec es st
  subst eL ec es
  obtain ⟨hF', xs, K, sf, nx⟩ := hq _ _ _ hQ
  exact Go.of (fun _ q => st.trans q) (go v U U.heap L ⟨hx, rfl, hZ, hown, hO.keep K nx, hE, hC.trans (CHr.keep K sf hC.1), hlk, _, _, X', hS, Nat.le_trans hk K.1, hF.app hF'⟩ hQ)
theorem g_virtualB {C : String} {rc rs : Nat} {QB : Option Value → Heap → List Loc → Prop} (S : St p l e R s m args below meth c Z a0 EL n0 own T V h k n) {W : Nat} (B : ∀ s' : State, Z.Warmed39 s'.vm → BkC l R p e below s' args z W as' h rc rs QB) (wl : (Cond.methodLink own index y).before a0 Z = true) (wd : (Cond.declares y).before a0 Z = true) (wse : (Cond.selects C y z).before a0 Z = true) (ws : (Cond.instanceMethod z).before a0 Z = true) (hy : y.cls ≠ "java/lang/invoke/MethodHandle" ∧ y.cls ≠ "java/lang/invoke/VarHandle")
    (hnf : ∀ s' : State, (Cond.selects C y z).before args s' = true → NotFace s' y) (hd : decode c.code pc = .ok (.invokevirtual index, 3)) (hsz : Ls.size = c.maxLocals) (a : Addr) (E : Exa Z h a C) (argsL : List Value) (hlen : ∀ sig, parseMethodDescriptor y.desc = some sig → argsL.length = sig.parameters.length) (hst : stk = argsL.reverse ++ .ref a :: rest) (has : (.ref a :: argsL).toArray = as') (hW : (rest.map fun v => v.category).sum ≤ W) (hc : k + rc ≤ R.cells) (hs : n + rs ≤ R.slots)
    (hq : ∀ v h' L, QB v h' L → Fr n0 L ∧ ∃ xs, Keep h h' xs ∧ (∀ x ∈ xs, Safe Z EL V h x) ∧ ∀ x ∈ xs, n0 ≤ x)
    (go : ∀ v T' h' L, St p l e R s m args below meth c Z a0 EL n0 own T' V h' (k + rc) (n + rs) → QB v h' L → Go p e below Q (T'.setTop (mkF m (pc + 3) Ls (v.toList ++ rest)))) : Go p e below Q (T.setTop (mkF m pc Ls stk)) := by
  obtain ⟨hx, eT, hZ, hown, hO, hE, hC, hlk, locs, k0, X, hS, hk, hF⟩ := S
  obtain ⟨cq, kq, q1, q2, q3⟩ := isOf (s := s.setVm V) hZ eT E
  obtain ⟨v, vm1, ⟨U, Lc, kc, sc⟩, hW1, X', ⟨L, hQ, eL, ec, es⟩, st⟩ := X.virtualBack hx hown (mvT hZ wl) (mvT hZ wd) (hnf _ (mvT hZ wse)) (mvT hZ wse) (mvT hZ ws) hy (B (s.setVm V) hZ) q1 q3 (g := mkF m pc Ls stk) rfl hsz (Steps.refl _) (argsL := argsL) (rest := rest) hlen hst (by show 2 * 0 + _ ≤ _; omega) hd (fun _ _ => ⟨has, eT, hc, hs⟩)
  dsimp only [Pt.U, Pt.locs, Pt.cells, Pt.slots] at X' hQ eL ec es st
  subst eL ec es
  obtain ⟨hF', xs, K, sf, nx⟩ := hq _ _ _ hQ
  exact Go.of (fun _ q => st.trans q) (go v U U.heap L ⟨hx, rfl, hZ, hown, hO.keep K nx, hE, hC.trans (CHr.keep K sf hC.1), hlk, _, _, X', hS, Nat.le_trans hk K.1, hF.app hF'⟩ hQ)
end Calls
theorem g_icmp (S : St p l e R s m args below meth c Z a0 EL n0 own T V h k n) {cd : ClassFile.Cond} {x y : Int32} {o : Int} {pcT : Nat} (hd : decode c.code pc = .ok (.if_icmp cd o, 3)) (ho : 0 ≤ (pc : Int) + o) (hp : ((pc : Int) + o).toNat = pcT) (yes : if_icmp.holds cd x y = true → Go p e below Q (T.setTop (mkF m pcT Ls rest))) (no : if_icmp.holds cd x y = false → Go p e below Q (T.setTop (mkF m (pc + 3) Ls rest))) : Go p e below Q (T.setTop (mkF m pc Ls (.int y :: .int x :: rest))) := by
  cases q : if_icmp.holds cd x y
  · exact Go.of (fun _ r => XS.icmpNo S.here S.hx rfl hd rfl q r) (no q)
  · exact Go.of (fun _ r => XS.icmpYes S.here S.hx rfl (pc0 := pc) (pc' := pcT) rfl hd rfl q ho hp r) (yes q)
theorem g_if (S : St p l e R s m args below meth c Z a0 EL n0 own T V h k n) {cd : ClassFile.Cond} {x : Int32} {o : Int} {pcT : Nat} (hd : decode c.code pc = .ok (.ifCond cd o, 3)) (ho : 0 ≤ (pc : Int) + o) (hp : ((pc : Int) + o).toNat = pcT) (yes : if_icmp.holds cd x 0 = true → Go p e below Q (T.setTop (mkF m pcT Ls rest))) (no : if_icmp.holds cd x 0 = false → Go p e below Q (T.setTop (mkF m (pc + 3) Ls rest))) : Go p e below Q (T.setTop (mkF m pc Ls (.int x :: rest))) := by
  cases q : if_icmp.holds cd x 0
  · exact Go.of (fun _ r => XS.ifNo S.here S.hx rfl hd rfl ((if0 _ _).trans q) r) (no q)
  · exact Go.of (fun _ r => XS.ifYes S.here S.hx rfl (pc0 := pc) (pc' := pcT) rfl hd rfl ((if0 _ _).trans q) ho hp r) (yes q)
theorem icT_eq {x y : Int32} (h : if_icmp.holds .eq x y = true) : x = y := by simpa [if_icmp.holds] using h
theorem icF_eq {x y : Int32} (h : if_icmp.holds .eq x y = false) : ¬ x = y := by simpa [if_icmp.holds] using h
theorem icT_ne {x y : Int32} (h : if_icmp.holds .ne x y = true) : ¬ x = y := by simpa [if_icmp.holds] using h
theorem icF_ne {x y : Int32} (h : if_icmp.holds .ne x y = false) : x = y := by simpa [if_icmp.holds] using h
theorem icT_lt {x y : Int32} (h : if_icmp.holds .lt x y = true) : x < y := by simpa [if_icmp.holds] using h
theorem icF_lt {x y : Int32} (h : if_icmp.holds .lt x y = false) : ¬ x < y := by simpa [if_icmp.holds] using h
theorem icT_ge {x y : Int32} (h : if_icmp.holds .ge x y = true) : ¬ x < y := fun q => by rw [(tlt q).2.1] at h; cases h
theorem icF_ge {x y : Int32} (h : if_icmp.holds .ge x y = false) : x < y := Decidable.byContradiction fun q => by rw [(flt q).2.1] at h; cases h
theorem icT_gt {x y : Int32} (h : if_icmp.holds .gt x y = true) : y < x := Decidable.byContradiction fun q => by rw [(flt q).2.2.1] at h; cases h
theorem icF_gt {x y : Int32} (h : if_icmp.holds .gt x y = false) : ¬ y < x := fun q => by rw [(tlt q).2.2.1] at h; cases h
theorem icT_le {x y : Int32} (h : if_icmp.holds .le x y = true) : ¬ y < x := fun q => by rw [(tlt q).2.2.2] at h; cases h
theorem icF_le {x y : Int32} (h : if_icmp.holds .le x y = false) : y < x := Decidable.byContradiction fun q => by rw [(flt q).2.2.2] at h; cases h
theorem g_caload (S : St p l e R s m args below meth c Z a0 EL n0 own T V h k n) {a : Addr} {kc : ClassId} {z : Int32} {vs : List Value} {dv : Value} (A : Arv Z h a kc .char z vs dv) {j : Int32} (hj : ¬ j < 0 ∧ j < z) {x : Int32} (hv : vs.getD j.toNatClampNeg dv = .int x) (hd : decode c.code pc = .ok (.caload, 1)) (go : Go p e below Q (T.setTop (mkF m (pc + 1) Ls (.int x :: rest)))) : Go p e below Q (T.setTop (mkF m pc Ls (.int j :: .ref a :: rest))) := by
  obtain ⟨hx, eT, hZ, hown, hO, hE, hC, hlk, locs, k0, X, hS, hk, hF⟩ := S
  obtain ⟨cl, Ar, q1, q2, q3, q4, q5⟩ := A
  have hin := inb_of q2 hj
  exact Go.of (fun _ q => X.caload hx (j := j) (v := .int x) (by rw [eT]; exact Ar.1) (State.isArrayOf_alike (T := s.setVm V) hZ.alike Ar.2.1) Ar.2.2 hin (q4.at hin hv) (g := mkF m pc Ls (.int j :: .ref a :: rest)) rfl rfl hd _ q) go
theorem g_len (S : St p l e R s m args below meth c Z a0 EL n0 own T V h k n) {a : Addr} {kc : ClassId} {ty : FieldType} {z : Int32} {vs : List Value} {dv : Value} (A : Arv Z h a kc ty z vs dv) (hd : decode c.code pc = .ok (.arraylength, 1)) (go : Go p e below Q (T.setTop (mkF m (pc + 1) Ls (.int z :: rest)))) : Go p e below Q (T.setTop (mkF m pc Ls (.ref a :: rest))) := by
  obtain ⟨hx, eT, hZ, hown, hO, hE, hC, hlk, locs, k0, X, hS, hk, hF⟩ := S
  obtain ⟨cl, Ar, q1, q2, q3, q4, q5⟩ := A
  rw [← len_of q2 q3] at go
  exact Go.of (fun _ q => X.arraylength hx (by rw [eT]; exact Ar.1) (State.isArrayOf_alike (T := s.setVm V) hZ.alike Ar.2.1) (g := mkF m pc Ls (.ref a :: rest)) rfl rfl hd _ q) go
theorem s_iload {i : Nat} {v : Int32} (S : St p l e R s m args below meth c Z a0 EL n0 own T V h k n) (hd : decode c.code pc = .ok (.iload i, 2)) (hv : Ls[i]? = some (.val (.int v))) {pc' : Nat} (hp : pc + 2 = pc') (go : Go p e below Q (T.setTop (mkF m pc' Ls (.int v :: rest)))) : Go p e below Q (T.setTop (mkF m pc Ls rest)) := by
  subst hp; exact Go.of (fun _ q => XS.iload S.here S.hx rfl hd hv q) go
theorem s_iloadN {i : Fin 4} {v : Int32} (S : St p l e R s m args below meth c Z a0 EL n0 own T V h k n) (hd : decode c.code pc = .ok (.iload_n i, 1)) (hv : Ls[i.val]? = some (.val (.int v))) {pc' : Nat} (hp : pc + 1 = pc') (go : Go p e below Q (T.setTop (mkF m pc' Ls (.int v :: rest)))) : Go p e below Q (T.setTop (mkF m pc Ls rest)) := by
  subst hp; exact Go.of (fun _ q => XS.iloadN S.here S.hx rfl hd hv q) go
theorem s_lload {i : Nat} {v : Int64} (S : St p l e R s m args below meth c Z a0 EL n0 own T V h k n) (hd : decode c.code pc = .ok (.lload i, 2)) (hv : Ls[i]? = some (.val (.long v))) {pc' : Nat} (hp : pc + 2 = pc') (go : Go p e below Q (T.setTop (mkF m pc' Ls (.long v :: rest)))) : Go p e below Q (T.setTop (mkF m pc Ls rest)) := by
  subst hp; exact Go.of (fun _ q => XS.lload S.here S.hx rfl hd hv q) go
theorem s_lloadN {i : Fin 4} {v : Int64} (S : St p l e R s m args below meth c Z a0 EL n0 own T V h k n) (hd : decode c.code pc = .ok (.lload_n i, 1)) (hv : Ls[i.val]? = some (.val (.long v))) {pc' : Nat} (hp : pc + 1 = pc') (go : Go p e below Q (T.setTop (mkF m pc' Ls (.long v :: rest)))) : Go p e below Q (T.setTop (mkF m pc Ls rest)) := by
  subst hp; exact Go.of (fun _ q => XS.lloadN S.here S.hx rfl hd hv q) go
theorem s_aload {i : Nat} {v : Value} (S : St p l e R s m args below meth c Z a0 EL n0 own T V h k n) (hd : decode c.code pc = .ok (.aload i, 2)) (hv : Ls[i]? = some (.val v)) (hr : v.isRef = true) {pc' : Nat} (hp : pc + 2 = pc') (go : Go p e below Q (T.setTop (mkF m pc' Ls (v :: rest)))) : Go p e below Q (T.setTop (mkF m pc Ls rest)) := by
  subst hp; exact Go.of (fun _ q => XS.aload S.here S.hx rfl hd hv hr q) go
theorem s_aloadN {i : Fin 4} {v : Value} (S : St p l e R s m args below meth c Z a0 EL n0 own T V h k n) (hd : decode c.code pc = .ok (.aload_n i, 1)) (hv : Ls[i.val]? = some (.val v)) (hr : v.isRef = true) {pc' : Nat} (hp : pc + 1 = pc') (go : Go p e below Q (T.setTop (mkF m pc' Ls (v :: rest)))) : Go p e below Q (T.setTop (mkF m pc Ls rest)) := by
  subst hp; exact Go.of (fun _ q => XS.aloadN S.here S.hx rfl hd hv hr q) go
theorem s_istore {i : Nat} {v : Int32} {L' : Array Slot} (S : St p l e R s m args below meth c Z a0 EL n0 own T V h k n) (hd : decode c.code pc = .ok (.istore i, 2)) (hl : storeLocals Ls i (.int v) = some L') {pc' : Nat} (hp : pc + 2 = pc') (go : Go p e below Q (T.setTop (mkF m pc' L' rest))) : Go p e below Q (T.setTop (mkF m pc Ls (.int v :: rest))) := by
  subst hp; exact Go.of (fun _ q => XS.istore S.here S.hx rfl hd rfl hl q) go
theorem s_istoreN {i : Fin 4} {v : Int32} {L' : Array Slot} (S : St p l e R s m args below meth c Z a0 EL n0 own T V h k n) (hd : decode c.code pc = .ok (.istore_n i, 1)) (hl : storeLocals Ls i.val (.int v) = some L') {pc' : Nat} (hp : pc + 1 = pc') (go : Go p e below Q (T.setTop (mkF m pc' L' rest))) : Go p e below Q (T.setTop (mkF m pc Ls (.int v :: rest))) := by
  subst hp; exact Go.of (fun _ q => XS.istoreN S.here S.hx rfl hd rfl hl q) go
theorem s_lstore {i : Nat} {v : Int64} {L' : Array Slot} (S : St p l e R s m args below meth c Z a0 EL n0 own T V h k n) (hd : decode c.code pc = .ok (.lstore i, 2)) (hl : storeLocals Ls i (.long v) = some L') {pc' : Nat} (hp : pc + 2 = pc') (go : Go p e below Q (T.setTop (mkF m pc' L' rest))) : Go p e below Q (T.setTop (mkF m pc Ls (.long v :: rest))) := by
  subst hp; exact Go.of (fun _ q => XS.lstore S.here S.hx rfl hd rfl hl q) go
theorem s_lstoreN {i : Fin 4} {v : Int64} {L' : Array Slot} (S : St p l e R s m args below meth c Z a0 EL n0 own T V h k n) (hd : decode c.code pc = .ok (.lstore_n i, 1)) (hl : storeLocals Ls i.val (.long v) = some L') {pc' : Nat} (hp : pc + 1 = pc') (go : Go p e below Q (T.setTop (mkF m pc' L' rest))) : Go p e below Q (T.setTop (mkF m pc Ls (.long v :: rest))) := by
  subst hp; exact Go.of (fun _ q => XS.lstoreN S.here S.hx rfl hd rfl hl q) go
theorem s_astore {i : Nat} {v : Value} {L' : Array Slot} (S : St p l e R s m args below meth c Z a0 EL n0 own T V h k n) (hd : decode c.code pc = .ok (.astore i, 2)) (hr : v.isRef = true) (hl : storeLocals Ls i v = some L') {pc' : Nat} (hp : pc + 2 = pc') (go : Go p e below Q (T.setTop (mkF m pc' L' rest))) : Go p e below Q (T.setTop (mkF m pc Ls (v :: rest))) := by
  subst hp; exact Go.of (fun _ q => XS.astore S.here S.hx rfl hd rfl hr hl q) go
theorem s_astoreN {i : Fin 4} {v : Value} {L' : Array Slot} (S : St p l e R s m args below meth c Z a0 EL n0 own T V h k n) (hd : decode c.code pc = .ok (.astore_n i, 1)) (hr : v.isRef = true) (hl : storeLocals Ls i.val v = some L') {pc' : Nat} (hp : pc + 1 = pc') (go : Go p e below Q (T.setTop (mkF m pc' L' rest))) : Go p e below Q (T.setTop (mkF m pc Ls (v :: rest))) := by
  subst hp; exact Go.of (fun _ q => XS.astoreN S.here S.hx rfl hd rfl hr hl q) go
theorem s_iconst {i : Int} {v : Int32} (S : St p l e R s m args below meth c Z a0 EL n0 own T V h k n) (hd : decode c.code pc = .ok (.iconst i, 1)) (hv : Int32.ofInt i = v) {pc' : Nat} (hp : pc + 1 = pc') (go : Go p e below Q (T.setTop (mkF m pc' Ls (.int v :: rest)))) : Go p e below Q (T.setTop (mkF m pc Ls rest)) := by
  subst hp hv; exact Go.of (fun _ q => XS.iconst S.here S.hx rfl hd q) go
theorem s_bipush {i : Int} {v : Int32} (S : St p l e R s m args below meth c Z a0 EL n0 own T V h k n) (hd : decode c.code pc = .ok (.bipush i, 2)) (hv : (Int8.ofInt i).toInt32 = v) {pc' : Nat} (hp : pc + 2 = pc') (go : Go p e below Q (T.setTop (mkF m pc' Ls (.int v :: rest)))) : Go p e below Q (T.setTop (mkF m pc Ls rest)) := by
  subst hp hv; exact Go.of (fun _ q => XS.bipush S.here S.hx rfl hd q) go
theorem s_sipush {i : Int} {v : Int32} (S : St p l e R s m args below meth c Z a0 EL n0 own T V h k n) (hd : decode c.code pc = .ok (.sipush i, 3)) (hv : (Int16.ofInt i).toInt32 = v) {pc' : Nat} (hp : pc + 3 = pc') (go : Go p e below Q (T.setTop (mkF m pc' Ls (.int v :: rest)))) : Go p e below Q (T.setTop (mkF m pc Ls rest)) := by
  subst hp hv; exact Go.of (fun _ q => XS.sipush S.here S.hx rfl hd q) go
theorem s_null  (S : St p l e R s m args below meth c Z a0 EL n0 own T V h k n) (hd : decode c.code pc = .ok (.aconst_null, 1))  {pc' : Nat} (hp : pc + 1 = pc') (go : Go p e below Q (T.setTop (mkF m pc' Ls (.null :: rest)))) : Go p e below Q (T.setTop (mkF m pc Ls rest)) := by
  subst hp; exact Go.of (fun _ q => XS.aconstNull S.here S.hx rfl hd q) go
theorem s_dup {v : Value} (S : St p l e R s m args below meth c Z a0 EL n0 own T V h k n) (hd : decode c.code pc = .ok (.dup, 1)) (hc : v.category = 1) {pc' : Nat} (hp : pc + 1 = pc') (go : Go p e below Q (T.setTop (mkF m pc' Ls (v :: v :: rest)))) : Go p e below Q (T.setTop (mkF m pc Ls (v :: rest))) := by
  subst hp; exact Go.of (fun _ q => XS.dup S.here S.hx rfl hd rfl hc q) go
theorem s_pop {v : Value} (S : St p l e R s m args below meth c Z a0 EL n0 own T V h k n) (hd : decode c.code pc = .ok (.pop, 1)) (hc : v.category = 1) {pc' : Nat} (hp : pc + 1 = pc') (go : Go p e below Q (T.setTop (mkF m pc' Ls rest))) : Go p e below Q (T.setTop (mkF m pc Ls (v :: rest))) := by
  subst hp; exact Go.of (fun _ q => XS.pop S.here S.hx rfl hd rfl hc q) go
theorem s_dupX1 {v u : Value} (S : St p l e R s m args below meth c Z a0 EL n0 own T V h k n) (hd : decode c.code pc = .ok (.dup_x1, 1)) (hc : v.category = 1) (hu : u.category = 1) {pc' : Nat} (hp : pc + 1 = pc') (go : Go p e below Q (T.setTop (mkF m pc' Ls (v :: u :: v :: rest)))) : Go p e below Q (T.setTop (mkF m pc Ls (v :: u :: rest))) := by
  subst hp; exact Go.of (fun _ q => XS.dupX1 S.here S.hx rfl hd rfl hc hu q) go
theorem s_iadd {x y z : Int32} (S : St p l e R s m args below meth c Z a0 EL n0 own T V h k n) (hd : decode c.code pc = .ok (.iadd, 1)) (hv : x + y = z) {pc' : Nat} (hp : pc + 1 = pc') (go : Go p e below Q (T.setTop (mkF m pc' Ls (.int z :: rest)))) : Go p e below Q (T.setTop (mkF m pc Ls (.int y :: .int x :: rest))) := by
  subst hp hv; exact Go.of (fun _ q => XS.iadd S.here S.hx rfl hd rfl q) go
theorem s_isub {x y z : Int32} (S : St p l e R s m args below meth c Z a0 EL n0 own T V h k n) (hd : decode c.code pc = .ok (.isub, 1)) (hv : x - y = z) {pc' : Nat} (hp : pc + 1 = pc') (go : Go p e below Q (T.setTop (mkF m pc' Ls (.int z :: rest)))) : Go p e below Q (T.setTop (mkF m pc Ls (.int y :: .int x :: rest))) := by
  subst hp hv; exact Go.of (fun _ q => XS.isub S.here S.hx rfl hd rfl q) go
theorem s_imul {x y z : Int32} (S : St p l e R s m args below meth c Z a0 EL n0 own T V h k n) (hd : decode c.code pc = .ok (.imul, 1)) (hv : x * y = z) {pc' : Nat} (hp : pc + 1 = pc') (go : Go p e below Q (T.setTop (mkF m pc' Ls (.int z :: rest)))) : Go p e below Q (T.setTop (mkF m pc Ls (.int y :: .int x :: rest))) := by
  subst hp hv; exact Go.of (fun _ q => XS.imul S.here S.hx rfl hd rfl q) go
theorem s_iand {x y z : Int32} (S : St p l e R s m args below meth c Z a0 EL n0 own T V h k n) (hd : decode c.code pc = .ok (.iand, 1)) (hv : x &&& y = z) {pc' : Nat} (hp : pc + 1 = pc') (go : Go p e below Q (T.setTop (mkF m pc' Ls (.int z :: rest)))) : Go p e below Q (T.setTop (mkF m pc Ls (.int y :: .int x :: rest))) := by
  subst hp hv; exact Go.of (fun _ q => XS.iand S.here S.hx rfl hd rfl q) go
theorem s_ior {x y z : Int32} (S : St p l e R s m args below meth c Z a0 EL n0 own T V h k n) (hd : decode c.code pc = .ok (.ior, 1)) (hv : x ||| y = z) {pc' : Nat} (hp : pc + 1 = pc') (go : Go p e below Q (T.setTop (mkF m pc' Ls (.int z :: rest)))) : Go p e below Q (T.setTop (mkF m pc Ls (.int y :: .int x :: rest))) := by
  subst hp hv; exact Go.of (fun _ q => XS.ior S.here S.hx rfl hd rfl q) go
theorem s_ixor {x y z : Int32} (S : St p l e R s m args below meth c Z a0 EL n0 own T V h k n) (hd : decode c.code pc = .ok (.ixor, 1)) (hv : x ^^^ y = z) {pc' : Nat} (hp : pc + 1 = pc') (go : Go p e below Q (T.setTop (mkF m pc' Ls (.int z :: rest)))) : Go p e below Q (T.setTop (mkF m pc Ls (.int y :: .int x :: rest))) := by
  subst hp hv; exact Go.of (fun _ q => XS.ixor S.here S.hx rfl hd rfl q) go
theorem s_ladd {x y z : Int64} (S : St p l e R s m args below meth c Z a0 EL n0 own T V h k n) (hd : decode c.code pc = .ok (.ladd, 1)) (hv : x + y = z) {pc' : Nat} (hp : pc + 1 = pc') (go : Go p e below Q (T.setTop (mkF m pc' Ls (.long z :: rest)))) : Go p e below Q (T.setTop (mkF m pc Ls (.long y :: .long x :: rest))) := by
  subst hp hv; exact Go.of (fun _ q => XS.ladd S.here S.hx rfl hd rfl q) go
theorem s_lsub {x y z : Int64} (S : St p l e R s m args below meth c Z a0 EL n0 own T V h k n) (hd : decode c.code pc = .ok (.lsub, 1)) (hv : x - y = z) {pc' : Nat} (hp : pc + 1 = pc') (go : Go p e below Q (T.setTop (mkF m pc' Ls (.long z :: rest)))) : Go p e below Q (T.setTop (mkF m pc Ls (.long y :: .long x :: rest))) := by
  subst hp hv; exact Go.of (fun _ q => XS.lsub S.here S.hx rfl hd rfl q) go
theorem s_lmul {x y z : Int64} (S : St p l e R s m args below meth c Z a0 EL n0 own T V h k n) (hd : decode c.code pc = .ok (.lmul, 1)) (hv : x * y = z) {pc' : Nat} (hp : pc + 1 = pc') (go : Go p e below Q (T.setTop (mkF m pc' Ls (.long z :: rest)))) : Go p e below Q (T.setTop (mkF m pc Ls (.long y :: .long x :: rest))) := by
  subst hp hv; exact Go.of (fun _ q => XS.lmul S.here S.hx rfl hd rfl q) go
theorem s_land {x y z : Int64} (S : St p l e R s m args below meth c Z a0 EL n0 own T V h k n) (hd : decode c.code pc = .ok (.land, 1)) (hv : x &&& y = z) {pc' : Nat} (hp : pc + 1 = pc') (go : Go p e below Q (T.setTop (mkF m pc' Ls (.long z :: rest)))) : Go p e below Q (T.setTop (mkF m pc Ls (.long y :: .long x :: rest))) := by
  subst hp hv; exact Go.of (fun _ q => XS.land S.here S.hx rfl hd rfl q) go
theorem s_lor {x y z : Int64} (S : St p l e R s m args below meth c Z a0 EL n0 own T V h k n) (hd : decode c.code pc = .ok (.lor, 1)) (hv : x ||| y = z) {pc' : Nat} (hp : pc + 1 = pc') (go : Go p e below Q (T.setTop (mkF m pc' Ls (.long z :: rest)))) : Go p e below Q (T.setTop (mkF m pc Ls (.long y :: .long x :: rest))) := by
  subst hp hv; exact Go.of (fun _ q => XS.lor S.here S.hx rfl hd rfl q) go
theorem s_lxor {x y z : Int64} (S : St p l e R s m args below meth c Z a0 EL n0 own T V h k n) (hd : decode c.code pc = .ok (.lxor, 1)) (hv : x ^^^ y = z) {pc' : Nat} (hp : pc + 1 = pc') (go : Go p e below Q (T.setTop (mkF m pc' Ls (.long z :: rest)))) : Go p e below Q (T.setTop (mkF m pc Ls (.long y :: .long x :: rest))) := by
  subst hp hv; exact Go.of (fun _ q => XS.lxor S.here S.hx rfl hd rfl q) go
theorem s_ishl {x y z : Int32} (S : St p l e R s m args below meth c Z a0 EL n0 own T V h k n) (hd : decode c.code pc = .ok (.ishl, 1)) (hv : x <<< (y &&& 31) = z) {pc' : Nat} (hp : pc + 1 = pc') (go : Go p e below Q (T.setTop (mkF m pc' Ls (.int z :: rest)))) : Go p e below Q (T.setTop (mkF m pc Ls (.int y :: .int x :: rest))) := by
  subst hp hv; exact Go.of (fun _ q => XS.ishl S.here S.hx rfl hd rfl q) go
theorem s_ishr {x y z : Int32} (S : St p l e R s m args below meth c Z a0 EL n0 own T V h k n) (hd : decode c.code pc = .ok (.ishr, 1)) (hv : x >>> (y &&& 31) = z) {pc' : Nat} (hp : pc + 1 = pc') (go : Go p e below Q (T.setTop (mkF m pc' Ls (.int z :: rest)))) : Go p e below Q (T.setTop (mkF m pc Ls (.int y :: .int x :: rest))) := by
  subst hp hv; exact Go.of (fun _ q => XS.ishr S.here S.hx rfl hd rfl q) go
theorem s_iushr {x y z : Int32} (S : St p l e R s m args below meth c Z a0 EL n0 own T V h k n) (hd : decode c.code pc = .ok (.iushr, 1)) (hv : (x.toUInt32 >>> (y &&& 31).toUInt32).toInt32 = z) {pc' : Nat} (hp : pc + 1 = pc') (go : Go p e below Q (T.setTop (mkF m pc' Ls (.int z :: rest)))) : Go p e below Q (T.setTop (mkF m pc Ls (.int y :: .int x :: rest))) := by
  subst hp hv; exact Go.of (fun _ q => XS.iushr S.here S.hx rfl hd rfl q) go
theorem s_lshl {x z : Int64} {y : Int32} (S : St p l e R s m args below meth c Z a0 EL n0 own T V h k n) (hd : decode c.code pc = .ok (.lshl, 1)) (hv : x <<< (y &&& 0x3f).toInt64 = z) {pc' : Nat} (hp : pc + 1 = pc') (go : Go p e below Q (T.setTop (mkF m pc' Ls (.long z :: rest)))) : Go p e below Q (T.setTop (mkF m pc Ls (.int y :: .long x :: rest))) := by
  subst hp hv; exact Go.of (fun _ q => XS.lshl S.here S.hx rfl hd rfl q) go
theorem s_lshr {x z : Int64} {y : Int32} (S : St p l e R s m args below meth c Z a0 EL n0 own T V h k n) (hd : decode c.code pc = .ok (.lshr, 1)) (hv : x >>> (y &&& 0x3f).toInt64 = z) {pc' : Nat} (hp : pc + 1 = pc') (go : Go p e below Q (T.setTop (mkF m pc' Ls (.long z :: rest)))) : Go p e below Q (T.setTop (mkF m pc Ls (.int y :: .long x :: rest))) := by
  subst hp hv; exact Go.of (fun _ q => XS.lshr S.here S.hx rfl hd rfl q) go
theorem s_lushr {x z : Int64} {y : Int32} (S : St p l e R s m args below meth c Z a0 EL n0 own T V h k n) (hd : decode c.code pc = .ok (.lushr, 1)) (hv : (x.toUInt64 >>> (y &&& 0x3f).toInt64.toUInt64).toInt64 = z) {pc' : Nat} (hp : pc + 1 = pc') (go : Go p e below Q (T.setTop (mkF m pc' Ls (.long z :: rest)))) : Go p e below Q (T.setTop (mkF m pc Ls (.int y :: .long x :: rest))) := by
  subst hp hv; exact Go.of (fun _ q => XS.lushr S.here S.hx rfl hd rfl q) go
theorem s_ineg {x z : Int32} (S : St p l e R s m args below meth c Z a0 EL n0 own T V h k n) (hd : decode c.code pc = .ok (.ineg, 1)) (hv : -x = z) {pc' : Nat} (hp : pc + 1 = pc') (go : Go p e below Q (T.setTop (mkF m pc' Ls (.int z :: rest)))) : Go p e below Q (T.setTop (mkF m pc Ls (.int x :: rest))) := by
  subst hp hv; exact Go.of (fun _ q => XS.ineg S.here S.hx rfl hd rfl q) go
theorem s_lneg {x z : Int64} (S : St p l e R s m args below meth c Z a0 EL n0 own T V h k n) (hd : decode c.code pc = .ok (.lneg, 1)) (hv : -x = z) {pc' : Nat} (hp : pc + 1 = pc') (go : Go p e below Q (T.setTop (mkF m pc' Ls (.long z :: rest)))) : Go p e below Q (T.setTop (mkF m pc Ls (.long x :: rest))) := by
  subst hp hv; exact Go.of (fun _ q => XS.lneg S.here S.hx rfl hd rfl q) go
theorem s_lrem {x y z : Int64} (S : St p l e R s m args below meth c Z a0 EL n0 own T V h k n) (hd : decode c.code pc = .ok (.lrem, 1)) (h0 : y ≠ 0) (hv : x % y = z) {pc' : Nat} (hp : pc + 1 = pc') (go : Go p e below Q (T.setTop (mkF m pc' Ls (.long z :: rest)))) : Go p e below Q (T.setTop (mkF m pc Ls (.long y :: .long x :: rest))) := by
  subst hp hv; rw [← lrem_mod] at go; exact Go.of (fun _ q => XS.lrem S.here S.hx rfl hd rfl h0 q) go
theorem s_i2c {x z : Int32} (S : St p l e R s m args below meth c Z a0 EL n0 own T V h k n) (hd : decode c.code pc = .ok (.i2c, 1)) (hv : x.toUInt32.toUInt16.toUInt32.toInt32 = z) {pc' : Nat} (hp : pc + 1 = pc') (go : Go p e below Q (T.setTop (mkF m pc' Ls (.int z :: rest)))) : Go p e below Q (T.setTop (mkF m pc Ls (.int x :: rest))) := by
  subst hp hv; exact Go.of (fun _ q => XS.i2c S.here S.hx rfl hd rfl q) go
theorem s_i2b {x z : Int32} (S : St p l e R s m args below meth c Z a0 EL n0 own T V h k n) (hd : decode c.code pc = .ok (.i2b, 1)) (hv : x.toInt8.toInt32 = z) {pc' : Nat} (hp : pc + 1 = pc') (go : Go p e below Q (T.setTop (mkF m pc' Ls (.int z :: rest)))) : Go p e below Q (T.setTop (mkF m pc Ls (.int x :: rest))) := by
  subst hp hv; exact Go.of (fun _ q => XS.i2b S.here S.hx rfl hd rfl q) go
theorem s_i2s {x z : Int32} (S : St p l e R s m args below meth c Z a0 EL n0 own T V h k n) (hd : decode c.code pc = .ok (.i2s, 1)) (hv : x.toInt16.toInt32 = z) {pc' : Nat} (hp : pc + 1 = pc') (go : Go p e below Q (T.setTop (mkF m pc' Ls (.int z :: rest)))) : Go p e below Q (T.setTop (mkF m pc Ls (.int x :: rest))) := by
  subst hp hv; exact Go.of (fun _ q => XS.i2s S.here S.hx rfl hd rfl q) go
theorem s_i2l {x : Int32} {z : Int64} (S : St p l e R s m args below meth c Z a0 EL n0 own T V h k n) (hd : decode c.code pc = .ok (.i2l, 1)) (hv : x.toInt64 = z) {pc' : Nat} (hp : pc + 1 = pc') (go : Go p e below Q (T.setTop (mkF m pc' Ls (.long z :: rest)))) : Go p e below Q (T.setTop (mkF m pc Ls (.int x :: rest))) := by
  subst hp hv; exact Go.of (fun _ q => XS.i2l S.here S.hx rfl hd rfl q) go
theorem s_l2i {x : Int64} {z : Int32} (S : St p l e R s m args below meth c Z a0 EL n0 own T V h k n) (hd : decode c.code pc = .ok (.l2i, 1)) (hv : x.toInt32 = z) {pc' : Nat} (hp : pc + 1 = pc') (go : Go p e below Q (T.setTop (mkF m pc' Ls (.int z :: rest)))) : Go p e below Q (T.setTop (mkF m pc Ls (.long x :: rest))) := by
  subst hp hv; exact Go.of (fun _ q => XS.l2i S.here S.hx rfl hd rfl q) go
theorem s_lcmp {x y : Int64} {z : Int32} (S : St p l e R s m args below meth c Z a0 EL n0 own T V h k n) (hd : decode c.code pc = .ok (.lcmp, 1)) (hv : lcmpW x y = z) {pc' : Nat} (hp : pc + 1 = pc') (go : Go p e below Q (T.setTop (mkF m pc' Ls (.int z :: rest)))) : Go p e below Q (T.setTop (mkF m pc Ls (.long y :: .long x :: rest))) := by
  subst hp hv; exact Go.of (fun _ q => XS.lcmp S.here S.hx rfl hd rfl q) go
theorem s_idiv {x y z : Int32} (S : St p l e R s m args below meth c Z a0 EL n0 own T V h k n) (hd : decode c.code pc = .ok (.idiv, 1)) (h0 : y ≠ 0) (hv : x / y = z) {pc' : Nat} (hp : pc + 1 = pc') (go : Go p e below Q (T.setTop (mkF m pc' Ls (.int z :: rest)))) : Go p e below Q (T.setTop (mkF m pc Ls (.int y :: .int x :: rest))) := by
  subst hp hv; exact Go.of (fun _ q => XS.idiv S.here S.hx rfl hd rfl h0 q) go
theorem s_ldiv {x y z : Int64} (S : St p l e R s m args below meth c Z a0 EL n0 own T V h k n) (hd : decode c.code pc = .ok (.ldiv, 1)) (h0 : y ≠ 0) (hv : x / y = z) {pc' : Nat} (hp : pc + 1 = pc') (go : Go p e below Q (T.setTop (mkF m pc' Ls (.long z :: rest)))) : Go p e below Q (T.setTop (mkF m pc Ls (.long y :: .long x :: rest))) := by
  subst hp hv; exact Go.of (fun _ q => XS.ldiv S.here S.hx rfl hd rfl h0 q) go
theorem s_irem {x y z : Int32} (S : St p l e R s m args below meth c Z a0 EL n0 own T V h k n) (hd : decode c.code pc = .ok (.irem, 1)) (h0 : y ≠ 0) (hv : x % y = z) {pc' : Nat} (hp : pc + 1 = pc') (go : Go p e below Q (T.setTop (mkF m pc' Ls (.int z :: rest)))) : Go p e below Q (T.setTop (mkF m pc Ls (.int y :: .int x :: rest))) := by
  subst hp hv; rw [← irem_eq_mod] at go; exact Go.of (fun _ q => XS.irem S.here S.hx rfl hd rfl h0 q) go
theorem s_goto (S : St p l e R s m args below meth c Z a0 EL n0 own T V h k n) {o : Int} {pcT : Nat} (hd : decode c.code pc = .ok (.goto o, 3)) (ho : 0 ≤ (pc : Int) + o) (hp : ((pc : Int) + o).toNat = pcT) (go : Go p e below Q (T.setTop (mkF m pcT Ls rest))) : Go p e below Q (T.setTop (mkF m pc Ls rest)) := Go.of (fun _ q => XS.goto S.here S.hx rfl (pc0 := pc) (pc' := pcT) rfl hd ho hp q) go
theorem s_iinc {i : Nat} {d : Int} {v z : Int32} {L' : Array Slot} (S : St p l e R s m args below meth c Z a0 EL n0 own T V h k n) (hd : decode c.code pc = .ok (.iinc i d, 3)) (hv : Ls[i]? = some (.val (.int v))) (hz : v + Int32.ofInt d = z) (hl : storeLocals Ls i (.int z) = some L') {pc' : Nat} (hp : pc + 3 = pc') (go : Go p e below Q (T.setTop (mkF m pc' L' rest))) : Go p e below Q (T.setTop (mkF m pc Ls rest)) := by
  subst hp hz; exact Go.of (fun _ q => XS.iinc S.here S.hx rfl hd hv hl q) go
theorem s_icmpY (S : St p l e R s m args below meth c Z a0 EL n0 own T V h k n) {cd : ClassFile.Cond} {x y : Int32} {o : Int} {pcT : Nat} (hd : decode c.code pc = .ok (.if_icmp cd o, 3)) (hc : if_icmp.holds cd x y = true) (ho : 0 ≤ (pc : Int) + o) (hp : ((pc : Int) + o).toNat = pcT) (go : Go p e below Q (T.setTop (mkF m pcT Ls rest))) : Go p e below Q (T.setTop (mkF m pc Ls (.int y :: .int x :: rest))) := Go.of (fun _ r => XS.icmpYes S.here S.hx rfl (pc0 := pc) (pc' := pcT) rfl hd rfl hc ho hp r) go
theorem s_icmpN (S : St p l e R s m args below meth c Z a0 EL n0 own T V h k n) {cd : ClassFile.Cond} {x y : Int32} {o : Int} (hd : decode c.code pc = .ok (.if_icmp cd o, 3)) (hc : if_icmp.holds cd x y = false) {pc' : Nat} (hp : pc + 3 = pc') (go : Go p e below Q (T.setTop (mkF m pc' Ls rest))) : Go p e below Q (T.setTop (mkF m pc Ls (.int y :: .int x :: rest))) := by
  subst hp; exact Go.of (fun _ r => XS.icmpNo S.here S.hx rfl hd rfl hc r) go
theorem s_ifY (S : St p l e R s m args below meth c Z a0 EL n0 own T V h k n) {cd : ClassFile.Cond} {x : Int32} {o : Int} {pcT : Nat} (hd : decode c.code pc = .ok (.ifCond cd o, 3)) (hc : ifCond.holds cd x = true) (ho : 0 ≤ (pc : Int) + o) (hp : ((pc : Int) + o).toNat = pcT) (go : Go p e below Q (T.setTop (mkF m pcT Ls rest))) : Go p e below Q (T.setTop (mkF m pc Ls (.int x :: rest))) := Go.of (fun _ r => XS.ifYes S.here S.hx rfl (pc0 := pc) (pc' := pcT) rfl hd rfl hc ho hp r) go
theorem s_ifN (S : St p l e R s m args below meth c Z a0 EL n0 own T V h k n) {cd : ClassFile.Cond} {x : Int32} {o : Int} (hd : decode c.code pc = .ok (.ifCond cd o, 3)) (hc : ifCond.holds cd x = false) {pc' : Nat} (hp : pc + 3 = pc') (go : Go p e below Q (T.setTop (mkF m pc' Ls rest))) : Go p e below Q (T.setTop (mkF m pc Ls (.int x :: rest))) := by
  subst hp; exact Go.of (fun _ r => XS.ifNo S.here S.hx rfl hd rfl hc r) go
theorem s_nullY (S : St p l e R s m args below meth c Z a0 EL n0 own T V h k n) {o : Int} {pcT : Nat} (hd : decode c.code pc = .ok (.ifnull o, 3)) (ho : 0 ≤ (pc : Int) + o) (hp : ((pc : Int) + o).toNat = pcT) (go : Go p e below Q (T.setTop (mkF m pcT Ls rest))) : Go p e below Q (T.setTop (mkF m pc Ls (.null :: rest))) := Go.of (fun _ r => XS.ifnullYes S.here S.hx rfl (pc0 := pc) (pc' := pcT) rfl hd rfl ho hp r) go
theorem s_nullN (S : St p l e R s m args below meth c Z a0 EL n0 own T V h k n) {o : Int} {b : Addr} (hd : decode c.code pc = .ok (.ifnull o, 3)) {pc' : Nat} (hp : pc + 3 = pc') (go : Go p e below Q (T.setTop (mkF m pc' Ls rest))) : Go p e below Q (T.setTop (mkF m pc Ls (.ref b :: rest))) := by
  subst hp; exact Go.of (fun _ r => XS.ifnullNo S.here S.hx rfl hd rfl r) go
theorem s_nonnullY (S : St p l e R s m args below meth c Z a0 EL n0 own T V h k n) {o : Int} {b : Addr} {pcT : Nat} (hd : decode c.code pc = .ok (.ifnonnull o, 3)) (ho : 0 ≤ (pc : Int) + o) (hp : ((pc : Int) + o).toNat = pcT) (go : Go p e below Q (T.setTop (mkF m pcT Ls rest))) : Go p e below Q (T.setTop (mkF m pc Ls (.ref b :: rest))) := Go.of (fun _ r => XS.ifnonnullYes S.here S.hx rfl (pc0 := pc) (pc' := pcT) rfl hd rfl ho hp r) go
theorem s_nonnullN (S : St p l e R s m args below meth c Z a0 EL n0 own T V h k n) {o : Int} (hd : decode c.code pc = .ok (.ifnonnull o, 3)) {pc' : Nat} (hp : pc + 3 = pc') (go : Go p e below Q (T.setTop (mkF m pc' Ls rest))) : Go p e below Q (T.setTop (mkF m pc Ls (.null :: rest))) := by
  subst hp; exact Go.of (fun _ r => XS.ifnonnullNo S.here S.hx rfl hd rfl r) go
theorem s_acmp (S : St p l e R s m args below meth c Z a0 EL n0 own T V h k n) {cd : ACond} {x y : Value} (h1 : x.isRef = true) (h2 : y.isRef = true) {o : Int} {pcT : Nat} {same : Bool} (hd : decode c.code pc = .ok (.if_acmp cd o, 3)) (hq : decide (x = y) = same) (ho : 0 ≤ (pc : Int) + o) (hp : pcT = if acV cd same = true then ((pc : Int) + o).toNat else pc + 3) (go : Go p e below Q (T.setTop (mkF m pcT Ls rest))) : Go p e below Q (T.setTop (mkF m pc Ls (y :: x :: rest))) := by
  obtain ⟨hx, eT, hZ, hown, hO, hE, hC, hlk, locs, k0, X, hS, hk, hF⟩ := S
  exact Go.of (fun _ r => Jvm.RoadKit.acmp (g := mkF m pc Ls (y :: x :: rest)) X hx rfl h1 h2 (pc0 := pc) (pc' := pcT) (same := same) rfl hd rfl hq ho hp r) go
theorem g_bastore (S : St p l e R s m args below meth c Z a0 EL n0 own T V h k n) {a : Addr} {kc : ClassId} {z : Int32} {vs : List Value} {dv : Value} (A : Arv Z h a kc .byte z vs dv) {j : Int32} {x : Int32} (hj : ¬ j < 0 ∧ j < z) (i : Nat) (hi : j.toNatClampNeg = i) (hlt : i < vs.length) (na : n0 ≤ a) (sf : Safe Z EL V h a) (hd : decode c.code pc = .ok (.bastore, 1))
    (go : ∀ T' h', St p l e R s m args below meth c Z a0 EL n0 own T' V h' k n → Keep h h' [a] → Arv Z h' a kc .byte z (vs.set i (.int (nar .byte x))) dv → Safe Z EL V h' a → Go p e below Q (T'.setTop (mkF m (pc + 1) Ls rest))) : Go p e below Q (T.setTop (mkF m pc Ls ((.int x) :: .int j :: .ref a :: rest))) := by
  obtain ⟨hx, eT, hZ, hown, hO, hE, hC, hlk, locs, k0, X, hS, hk, hF⟩ := S
  skip
  obtain ⟨cl, Ar, q1, q2, q3, q4, q5⟩ := A
  obtain ⟨T', h', X', e', W, st⟩ := stB X hx hZ eT Ar (j := j) (x := x) (inb_of q2 hj) (g := mkF m pc Ls ((.int x) :: .int j :: .ref a :: rest)) rfl rfl hd
  have K := Keep.of_wr W
  exact Go.of st (go T' h' ⟨hx, e', hZ, hown, hO.wr W na, hE, hC.trans (CHr.wr W sf hC.1), hlk, _, k0, X', hS, Nat.le_trans hk K.1, Fr.snoc X' hF na⟩ K (Arv.set Ar q1 q2 q3 q4 q5 (fits_nar_byte x) W i hi hlt) (Safe.wr W sf hC.1 sf))
theorem g_iastore (S : St p l e R s m args below meth c Z a0 EL n0 own T V h k n) {a : Addr} {kc : ClassId} {z : Int32} {vs : List Value} {dv : Value} (A : Arv Z h a kc .int z vs dv) {j : Int32} {x : Int32} (hj : ¬ j < 0 ∧ j < z) (i : Nat) (hi : j.toNatClampNeg = i) (hlt : i < vs.length) (na : n0 ≤ a) (hd : decode c.code pc = .ok (.iastore, 1))
    (go : ∀ T' h', St p l e R s m args below meth c Z a0 EL n0 own T' V h' k n → Keep h h' [a] → Arv Z h' a kc .int z (vs.set i (.int x)) dv → Safe Z EL V h' a → Go p e below Q (T'.setTop (mkF m (pc + 1) Ls rest))) : Go p e below Q (T.setTop (mkF m pc Ls ((.int x) :: .int j :: .ref a :: rest))) := by
  obtain ⟨hx, eT, hZ, hown, hO, hE, hC, hlk, locs, k0, X, hS, hk, hF⟩ := S
  have sf : Safe Z EL V h a := Safe.arv hZ.alike A (by decide)
  obtain ⟨cl, Ar, q1, q2, q3, q4, q5⟩ := A
  obtain ⟨T', h', X', e', W, st⟩ := stI X hx hZ eT Ar (j := j) (x := x) (inb_of q2 hj) (g := mkF m pc Ls ((.int x) :: .int j :: .ref a :: rest)) rfl rfl hd
  have K := Keep.of_wr W
  exact Go.of st (go T' h' ⟨hx, e', hZ, hown, hO.wr W na, hE, hC.trans (CHr.wr W sf hC.1), hlk, _, k0, X', hS, Nat.le_trans hk K.1, Fr.snoc X' hF na⟩ K (Arv.set Ar q1 q2 q3 q4 q5 rfl W i hi hlt) (Safe.wr W sf hC.1 sf))
theorem g_lastore (S : St p l e R s m args below meth c Z a0 EL n0 own T V h k n) {a : Addr} {kc : ClassId} {z : Int32} {vs : List Value} {dv : Value} (A : Arv Z h a kc .long z vs dv) {j : Int32} {x : Int64} (hj : ¬ j < 0 ∧ j < z) (i : Nat) (hi : j.toNatClampNeg = i) (hlt : i < vs.length) (na : n0 ≤ a) (hd : decode c.code pc = .ok (.lastore, 1))
    (go : ∀ T' h', St p l e R s m args below meth c Z a0 EL n0 own T' V h' k n → Keep h h' [a] → Arv Z h' a kc .long z (vs.set i (.long x)) dv → Safe Z EL V h' a → Go p e below Q (T'.setTop (mkF m (pc + 1) Ls rest))) : Go p e below Q (T.setTop (mkF m pc Ls ((.long x) :: .int j :: .ref a :: rest))) := by
  obtain ⟨hx, eT, hZ, hown, hO, hE, hC, hlk, locs, k0, X, hS, hk, hF⟩ := S
  have sf : Safe Z EL V h a := Safe.arv hZ.alike A (by decide)
  obtain ⟨cl, Ar, q1, q2, q3, q4, q5⟩ := A
  obtain ⟨T', h', X', e', W, st⟩ := stJ X hx hZ eT Ar (j := j) (x := x) (inb_of q2 hj) (g := mkF m pc Ls ((.long x) :: .int j :: .ref a :: rest)) rfl rfl hd
  have K := Keep.of_wr W
  exact Go.of st (go T' h' ⟨hx, e', hZ, hown, hO.wr W na, hE, hC.trans (CHr.wr W sf hC.1), hlk, _, k0, X', hS, Nat.le_trans hk K.1, Fr.snoc X' hF na⟩ K (Arv.set Ar q1 q2 q3 q4 q5 rfl W i hi hlt) (Safe.wr W sf hC.1 sf))
theorem g_iaload (S : St p l e R s m args below meth c Z a0 EL n0 own T V h k n) {a : Addr} {kc : ClassId} {z : Int32} {vs : List Value} {dv : Value} (A : Arv Z h a kc .int z vs dv) {j : Int32} (hj : ¬ j < 0 ∧ j < z) {x : Int32} (hv : vs.getD j.toNatClampNeg dv = (.int x)) (hd : decode c.code pc = .ok (.iaload, 1)) (go : Go p e below Q (T.setTop (mkF m (pc + 1) Ls ((.int x) :: rest)))) : Go p e below Q (T.setTop (mkF m pc Ls (.int j :: .ref a :: rest))) := by
  obtain ⟨hx, eT, hZ, hown, hO, hE, hC, hlk, locs, k0, X, hS, hk, hF⟩ := S
  obtain ⟨cl, Ar, q1, q2, q3, q4, q5⟩ := A
  have hin := inb_of q2 hj
  exact Go.of (fun _ q => X.iaload hx (j := j) (v := (.int x)) (by rw [eT]; exact Ar.1) (State.isArrayOf_alike (T := s.setVm V) hZ.alike Ar.2.1) Ar.2.2 hin (q4.at hin hv) (g := mkF m pc Ls (.int j :: .ref a :: rest)) rfl rfl hd _ q) go
theorem g_laload (S : St p l e R s m args below meth c Z a0 EL n0 own T V h k n) {a : Addr} {kc : ClassId} {z : Int32} {vs : List Value} {dv : Value} (A : Arv Z h a kc .long z vs dv) {j : Int32} (hj : ¬ j < 0 ∧ j < z) {x : Int64} (hv : vs.getD j.toNatClampNeg dv = (.long x)) (hd : decode c.code pc = .ok (.laload, 1)) (go : Go p e below Q (T.setTop (mkF m (pc + 1) Ls ((.long x) :: rest)))) : Go p e below Q (T.setTop (mkF m pc Ls (.int j :: .ref a :: rest))) := by
  obtain ⟨hx, eT, hZ, hown, hO, hE, hC, hlk, locs, k0, X, hS, hk, hF⟩ := S
  obtain ⟨cl, Ar, q1, q2, q3, q4, q5⟩ := A
  have hin := inb_of q2 hj
  exact Go.of (fun _ q => X.laload hx (j := j) (v := (.long x)) (by rw [eT]; exact Ar.1) (State.isArrayOf_alike (T := s.setVm V) hZ.alike Ar.2.1) Ar.2.2 hin (q4.at hin hv) (g := mkF m pc Ls (.int j :: .ref a :: rest)) rfl rfl hd _ q) go
theorem g_baload (S : St p l e R s m args below meth c Z a0 EL n0 own T V h k n) {a : Addr} {kc : ClassId} {z : Int32} {vs : List Value} {dv : Value} (A : Arv Z h a kc .byte z vs dv) {j : Int32} (hj : ¬ j < 0 ∧ j < z) {x : Int32} (hv : vs.getD j.toNatClampNeg dv = (.int x)) (hd : decode c.code pc = .ok (.baload, 1)) (go : Go p e below Q (T.setTop (mkF m (pc + 1) Ls ((.int x) :: rest)))) : Go p e below Q (T.setTop (mkF m pc Ls (.int j :: .ref a :: rest))) := by
  obtain ⟨hx, eT, hZ, hown, hO, hE, hC, hlk, locs, k0, X, hS, hk, hF⟩ := S
  obtain ⟨cl, Ar, q1, q2, q3, q4, q5⟩ := A
  have hin := inb_of q2 hj
  exact Go.of (fun _ q => X.baloadBytes hx (j := j) (v := (.int x)) (by rw [eT]; exact Ar.1) (State.isArrayOf_alike (T := s.setVm V) hZ.alike Ar.2.1) Ar.2.2 hin (q4.at hin hv) (g := mkF m pc Ls (.int j :: .ref a :: rest)) rfl rfl hd _ q) go
theorem g_instN (S : St p l e R s m args below meth c Z a0 EL n0 own T V h k n) {K C : String} {index : Nat} (w : (Cond.classLink own index K).before a0 Z = true) {a : Addr} (E : Exa Z h a C) (F : ∃ c t, Z.vm.findClass C = some c ∧ Z.vm.findClass K = some t ∧ Z.vm.assignable c t = false) (hd : decode c.code pc = .ok (.instanceof index, 3))
    (go : ∀ T', St p l e R s m args below meth c Z a0 EL n0 own T' V h k n → Go p e below Q (T'.setTop (mkF m (pc + 3) Ls (.int 0 :: rest)))) : Go p e below Q (T.setTop (mkF m pc Ls (.ref a :: rest))) := by
  obtain ⟨hx, eT, hZ, hown, hO, hE, hC, hlk, locs, k0, X, hS, hk, hF⟩ := S
  obtain ⟨T', X', e', st⟩ := instNo X hx hZ hown w eT E F (g := mkF m pc Ls (.ref a :: rest)) rfl rfl hd
  exact Go.of st (go T' ⟨hx, e', hZ, hown, hO, hE, hC, hlk, locs, k0, X', hS, hk, hF⟩)
theorem g_instNull (S : St p l e R s m args below meth c Z a0 EL n0 own T V h k n) {index : Nat} (hd : decode c.code pc = .ok (.instanceof index, 3)) (go : Go p e below Q (T.setTop (mkF m (pc + 3) Ls (.int 0 :: rest)))) : Go p e below Q (T.setTop (mkF m pc Ls (.null :: rest))) := by
  obtain ⟨hx, eT, hZ, hown, hO, hE, hC, hlk, locs, k0, X, hS, hk, hF⟩ := S
  exact Go.of (fun _ q => X.instanceofNull hx (g := mkF m pc Ls (.null :: rest)) rfl rfl hd _ q) go
end Steps
end Jvm.OwnKit
/- laws to paste: Road.backV, Road.lenW, Road.chN, Road.codOf (cut by pick.py; bodies as the Statement names them) -/
namespace Jvm.Pilot.@@N@@
namespace StrChars
open Jvm Sem ClassFile Op Lib Jvm.Stand Jvm.Free.XT Jvm.Free.ALB Jvm.Free.JM Jvm.Free
open Jvm.Lib.Cold (StaticIs)
/-- a char array whose places are chars -/
def Ch (a : Addr) (A : Cell) (U : State) : Prop := Arr .char a A U ∧ Typed .char A
theorem Ch.mv {a : Addr} {A : Cell} {U U' : State} (h : Ch a A U) (hal : U.vm.Alike U'.vm) (hh : U'.heap = U.heap) : Ch a A U' := ⟨h.1.mv hal hh, h.2⟩
theorem Ch.keep {a : Addr} {A : Cell} {U U' : State} (h : Ch a A U) (hal : U.vm.Alike U'.vm) (hk : U'.heap[a]? = some A) : Ch a A U' := ⟨h.1.keep hal hk, h.2⟩
/-- what place i of a char[]'s cell holds -/
def cv (A : Cell) (i : Nat) : Int32 := match A.slots[i]? with | some (.int x) => x | _ => 0
theorem Ch.get {a : Addr} {A : Cell} {U : State} (h : Ch a A U) {i : Nat} (hi : i < A.slots.size) : A.slots[i]? = some (.int (cv A i)) := by
  have e := Array.getElem?_eq_getElem hi
  have f := h.2 i _ e
  unfold cv; rw [e]
  generalize A.slots[i] = v at f
  cases v <;> simp [fits] at f ⊢
/-- the byte that i2b leaves of a char -/
def lo8 (x : Int32) : Int32 := x.toInt8.toInt32
theorem fits_lo8 (y : Int32) : fits .byte (.int (lo8 y)) = true := by
  have h1 := y.toInt8.le_toInt
  have h2 := y.toInt8.toInt_lt
  simp only [lo8, fits, Bool.and_eq_true, decide_eq_true_eq, Int32.le_iff_toInt_le, Int8.toInt_toInt32, show (-128 : Int32).toInt = -128 from by decide, show (127 : Int32).toInt = 127 from by decide]
  omega
/-- A' is A but that each place j of lo .. hi - 1 holds f j -/
def Laid (A A' : Cell) (lo hi : Nat) (f : Nat → Value) : Prop := A'.cls = A.cls ∧ A'.vm = A.vm ∧ A'.slots.size = A.slots.size ∧ ∀ i, A'.slots[i]? = if lo ≤ i ∧ i < hi then some (f i) else A.slots[i]?
theorem Laid.zero (A : Cell) (lo : Nat) (f : Nat → Value) : Laid A A lo (lo + 0) f := ⟨rfl, rfl, rfl, fun i => by rw [if_neg (by omega)]⟩
theorem Laid.step {A Ak : Cell} {lo k : Nat} {f : Nat → Value} {v : Value} (h : Laid A Ak lo k f) (hlo : lo ≤ k) (hk : k < Ak.slots.size) (hv : v = f k) : Laid A (Ak.setSlot k v) lo (k + 1) f := by
  refine ⟨h.1, h.2.1, by simpa [Cell.setSlot] using h.2.2.1, fun i => ?_⟩
  by_cases e : k = i
  · subst e; rw [Cell.slots_setSlot_self v hk, if_pos (by omega), hv]
  · rw [Cell.slots_setSlot_ne v e, h.2.2.2 i]
    by_cases q : lo ≤ i ∧ i < k
    · rw [if_pos q, if_pos (by omega)]
    · rw [if_neg q, if_neg (by omega)]
def U16 : String := "java/lang/StringUTF16"
namespace Cmp5
def yN : MethodName := ⟨"java/lang/StringUTF16", "compress", "([CI[BII)I"⟩
abbrev yB : ByteArray := jdk_52_method_21_code
theorem d0 : decode yB 0 = .ok (.iconst 0, 1) := by decide +kernel
theorem d1 : decode yB 1 = .ok (.istore 5, 2) := by decide +kernel
theorem d3 : decode yB 3 = .ok (.iload 5, 2) := by decide +kernel
theorem d5 : decode yB 5 = .ok (.iload 4, 2) := by decide +kernel
theorem d7 : decode yB 7 = .ok (.if_icmp (.ge) 37, 3) := by decide +kernel
theorem d10 : decode yB 10 = .ok (.aload_n 0, 1) := by decide +kernel
theorem d11 : decode yB 11 = .ok (.iload_n 1, 1) := by decide +kernel
theorem d12 : decode yB 12 = .ok (.caload, 1) := by decide +kernel
theorem d13 : decode yB 13 = .ok (.istore 6, 2) := by decide +kernel
theorem d15 : decode yB 15 = .ok (.iload 6, 2) := by decide +kernel
theorem d17 : decode yB 17 = .ok (.sipush 255, 3) := by decide +kernel
theorem d20 : decode yB 20 = .ok (.if_icmp (.le) 6, 3) := by decide +kernel
theorem d26 : decode yB 26 = .ok (.aload_n 2, 1) := by decide +kernel
theorem d27 : decode yB 27 = .ok (.iload_n 3, 1) := by decide +kernel
theorem d28 : decode yB 28 = .ok (.iload 6, 2) := by decide +kernel
theorem d30 : decode yB 30 = .ok (.i2b, 1) := by decide +kernel
theorem d31 : decode yB 31 = .ok (.bastore, 1) := by decide +kernel
theorem d32 : decode yB 32 = .ok (.iinc 1 1, 3) := by decide +kernel
theorem d35 : decode yB 35 = .ok (.iinc 3 1, 3) := by decide +kernel
theorem d38 : decode yB 38 = .ok (.iinc 5 1, 3) := by decide +kernel
theorem d41 : decode yB 41 = .ok (.goto (-38), 3) := by decide +kernel
theorem d44 : decode yB 44 = .ok (.iload 4, 2) := by decide +kernel
theorem d46 : decode yB 46 = .ok (.ireturn, 1) := by decide +kernel
def site : List Cond := []
def tab : Cond := tabOf yN yB 7 (some .int) site
def P (b : Addr) (A : Cell) (d : Addr) (B : Cell) (o q len : Nat) (args : Array Value) (s : State) : Prop := args = #[.ref b, .int (Int32.ofNat o), .ref d, .int (Int32.ofNat q), .int (Int32.ofNat len)] ∧ Ch b A s ∧ Arr .byte d B s ∧ b ≠ d ∧ o + len ≤ A.slots.size ∧ q + len ≤ B.slots.size ∧ ∀ i, i < len → ¬ 255 < cv A (o + i)
def E (b : Addr) (A : Cell) (d : Addr) (B : Cell) (o q len : Nat) (r : Option Value) (s u : State) : Prop := r = some (.int (Int32.ofNat len)) ∧ ∃ B', Put d B' s u ∧ Laid B B' q (q + len) (fun j => Value.int (lo8 (cv A (o + (j - q)))))
/-- no char of the range above 255: len; the places written hold each char's low byte -/
theorem law (l : Launch) (b : Addr) (A : Cell) (d : Addr) (B : Cell) (o q len : Nat) : Law l yN 5 5 0 0 yB 7 (some .int) site (P b A d B o q len) (E b A d B o q len) (copyLocs d q len) 0 0 := by
  refine Law.of_walk (plainFor_of_name (by decide +kernel)) (by decide +kernel) (by decide +kernel) (by decide) (fun _ _ h => by rw [h.1]; rfl) (fun _ U U' hal hh h => ⟨h.1, h.2.1.mv hal hh, h.2.2.1.mv hal hh, h.2.2.2⟩) (fun r U U' V V' h1 hal h2 h => ⟨h.1, h.2.elim fun B' q => ⟨B', q.1.mv h1 h2, q.2⟩⟩) ?_
  intro p e s m args below meth c s₁ X0 hexec hbytes hml hret hlk hnm hown hh0 W hP
  obtain ⟨rfl, hA, hB, hne, l1, l2, hp⟩ := hP
  have c1 : Steps p.tables e below (s₁.setTop (entryFrame m #[.ref b, .int (Int32.ofNat o), .ref d, .int (Int32.ofNat q), .int (Int32.ofNat len)] 7)) (s₁.setTop (mkF m 0 #[.val (.ref b), .val (.int (Int32.ofNat o)), .val (.ref d), .val (.int (Int32.ofNat q)), .val (.int (Int32.ofNat len)), .unset, .unset] [])) := entry rfl
  have hA0 := hA.1.mv X0.warmed.alike hh0
  have hB0 := hB.mv X0.warmed.alike hh0
  have a31 := hA.1.2.2.2
  have c2 : Steps p.tables e below (s₁.setTop (entryFrame m #[.ref b, .int (Int32.ofNat o), .ref d, .int (Int32.ofNat q), .int (Int32.ofNat len)] 7)) (s₁.setTop (mkF m 3 #[.val (.ref b), .val (.int (Int32.ofNat o)), .val (.ref d), .val (.int (Int32.ofNat q)), .val (.int (Int32.ofNat len)), .val (.int 0), .unset] [])) := c1.trans (by
    refine iconstV X0.here hexec rfl 0 (hb hbytes d0) (by decide) ?_
    refine XS.istore X0.here hexec rfl (hb hbytes d1) rfl rfl ?_
    exact Steps.refl _)
  have loop : ∀ (r i : Nat), i + r = len → ∀ (z : Slot), (z = .unset ∨ ∃ w, z = .val w ∧ w.category = 1) → ∀ (Tl : State) (Bk : Cell), Stand p l e { frames := 0, locals := 0, cells := 0, slots := 0 } s m #[.ref b, .int (Int32.ofNat o), .ref d, .int (Int32.ofNat q), .int (Int32.ofNat len)] below meth c Tl ([] ++ copyLocs d q i) 0 0 → Put d Bk s₁ Tl → Laid B Bk q (q + i) (fun j => Value.int (lo8 (cv A (o + (j - q))))) →
      Steps p.tables e below (s₁.setTop (entryFrame m #[.ref b, .int (Int32.ofNat o), .ref d, .int (Int32.ofNat q), .int (Int32.ofNat len)] 7)) (Tl.setTop (mkF m 3 #[.val (.ref b), .val (.int (Int32.ofNat (o + i))), .val (.ref d), .val (.int (Int32.ofNat (q + i))), .val (.int (Int32.ofNat len)), .val (.int (Int32.ofNat i)), z] [])) → ∃ (T' : State) (B' : Cell) (z' : Slot), Stand p l e { frames := 0, locals := 0, cells := 0, slots := 0 } s m #[.ref b, .int (Int32.ofNat o), .ref d, .int (Int32.ofNat q), .int (Int32.ofNat len)] below meth c T' ([] ++ copyLocs d q len) 0 0 ∧ Put d B' s₁ T' ∧ Laid B B' q (q + len) (fun j => Value.int (lo8 (cv A (o + (j - q))))) ∧
      Steps p.tables e below (s₁.setTop (entryFrame m #[.ref b, .int (Int32.ofNat o), .ref d, .int (Int32.ofNat q), .int (Int32.ofNat len)] 7)) (T'.setTop (mkF m 3 #[.val (.ref b), .val (.int (Int32.ofNat (o + len))), .val (.ref d), .val (.int (Int32.ofNat (q + len))), .val (.int (Int32.ofNat len)), .val (.int (Int32.ofNat len)), z'] [])) := by
    intro r
    induction r with
    | zero =>
      intro i hi z hz Tl Bk Xl pl fl cl
      have hil : i = len := by omega
      rw [hil] at Xl fl cl
      exact ⟨Tl, Bk, z, Xl, pl, fl, cl⟩
    | succ r ih =>
      intro i hi z hz Tl Bk Xl pl fl cl
      have all := X0.warmed.alike.symm.trans Xl.warmed.alike
      have hAl := hA0.keep all (pl.other hne hA0.1)
      have hBk := hB0.like all pl.1 fl.1 fl.2.1 fl.2.2.1
      have hlt : q + i < Bk.slots.size := by rw [fl.2.2.1]; omega
      have c3 : Steps p.tables e below (s₁.setTop (entryFrame m #[.ref b, .int (Int32.ofNat o), .ref d, .int (Int32.ofNat q), .int (Int32.ofNat len)] 7)) (Tl.setTop (mkF m 12 #[.val (.ref b), .val (.int (Int32.ofNat (o + i))), .val (.ref d), .val (.int (Int32.ofNat (q + i))), .val (.int (Int32.ofNat len)), .val (.int (Int32.ofNat i)), z] [.int (Int32.ofNat (o + i)), .ref b])) := cl.trans (by
        refine XS.iload Xl.here hexec rfl (hb hbytes d3) rfl ?_
        refine XS.iload Xl.here hexec rfl (hb hbytes d5) rfl ?_
        refine XS.icmpNo Xl.here hexec rfl (hb hbytes d7) rfl (ii_ge_f (lt32 (by omega) (by omega))) ?_
        refine XS.aloadN Xl.here hexec rfl (hb hbytes d10) rfl rfl ?_
        refine XS.iloadN Xl.here hexec rfl (hb hbytes d11) rfl ?_
        exact Steps.refl _)
      have c4 : Steps p.tables e below (s₁.setTop (entryFrame m #[.ref b, .int (Int32.ofNat o), .ref d, .int (Int32.ofNat q), .int (Int32.ofNat len)] 7)) (Tl.setTop (mkF m 13 #[.val (.ref b), .val (.int (Int32.ofNat (o + i))), .val (.ref d), .val (.int (Int32.ofNat (q + i))), .val (.int (Int32.ofNat len)), .val (.int (Int32.ofNat i)), z] [.int (cv A (o + i))])) := c3.trans (by
        refine Xl.aget hexec hAl rfl (hA.get (i := o + i) (by omega)) rfl rfl (hb hbytes d12) ?_
        exact Steps.refl _)
      have c5 : Steps p.tables e below (s₁.setTop (entryFrame m #[.ref b, .int (Int32.ofNat o), .ref d, .int (Int32.ofNat q), .int (Int32.ofNat len)] 7)) (Tl.setTop (mkF m 15 #[.val (.ref b), .val (.int (Int32.ofNat (o + i))), .val (.ref d), .val (.int (Int32.ofNat (q + i))), .val (.int (Int32.ofNat len)), .val (.int (Int32.ofNat i)), .val (.int (cv A (o + i)))] [])) := c4.trans (by
        refine XS.istoreS Xl.here hexec rfl (hb hbytes d13) rfl rfl hz ?_
        exact Steps.refl _)
      have c6 : Steps p.tables e below (s₁.setTop (entryFrame m #[.ref b, .int (Int32.ofNat o), .ref d, .int (Int32.ofNat q), .int (Int32.ofNat len)] 7)) (Tl.setTop (mkF m 31 #[.val (.ref b), .val (.int (Int32.ofNat (o + i))), .val (.ref d), .val (.int (Int32.ofNat (q + i))), .val (.int (Int32.ofNat len)), .val (.int (Int32.ofNat i)), .val (.int (cv A (o + i)))] [.int (lo8 (cv A (o + i))), .int (Int32.ofNat (q + i)), .ref d])) := c5.trans (by
        refine XS.iload Xl.here hexec rfl (hb hbytes d15) rfl ?_
        refine sipushV Xl.here hexec rfl 255 (hb hbytes d17) (by decide) ?_
        refine XS.icmpYes Xl.here hexec rfl (pc0 := 20) rfl (hb hbytes d20) rfl (ii_le_t (hp i (by omega))) (by decide) rfl ?_
        refine XS.aloadN Xl.here hexec rfl (hb hbytes d26) rfl rfl ?_
        refine XS.iloadN Xl.here hexec rfl (hb hbytes d27) rfl ?_
        refine XS.iload Xl.here hexec rfl (hb hbytes d28) rfl ?_
        refine i2b Xl.here hexec rfl (hb hbytes d30) rfl ?_
        exact Steps.refl _)
      obtain ⟨T7, X7, p7, st7⟩ := Xl.aput hexec hBk rfl hlt rfl (fits_lo8 (cv A (o + i))) (g := (mkF m 31 #[.val (.ref b), .val (.int (Int32.ofNat (o + i))), .val (.ref d), .val (.int (Int32.ofNat (q + i))), .val (.int (Int32.ofNat len)), .val (.int (Int32.ofNat i)), .val (.int (cv A (o + i)))] [.int (lo8 (cv A (o + i))), .int (Int32.ofNat (q + i)), .ref d])) rfl (rest := []) rfl (hb hbytes d31)
      have c8 : Steps p.tables e below (s₁.setTop (entryFrame m #[.ref b, .int (Int32.ofNat o), .ref d, .int (Int32.ofNat q), .int (Int32.ofNat len)] 7)) (T7.setTop (mkF m 32 #[.val (.ref b), .val (.int (Int32.ofNat (o + i))), .val (.ref d), .val (.int (Int32.ofNat (q + i))), .val (.int (Int32.ofNat len)), .val (.int (Int32.ofNat i)), .val (.int (cv A (o + i)))] [])) := c6.trans (st7 _ (Steps.refl _))
      have c9 : Steps p.tables e below (s₁.setTop (entryFrame m #[.ref b, .int (Int32.ofNat o), .ref d, .int (Int32.ofNat q), .int (Int32.ofNat len)] 7)) (T7.setTop (mkF m 3 #[.val (.ref b), .val (.int (Int32.ofNat (o + i) + 1)), .val (.ref d), .val (.int (Int32.ofNat (q + i) + 1)), .val (.int (Int32.ofNat len)), .val (.int (Int32.ofNat i + 1)), .val (.int (cv A (o + i)))] [])) := c8.trans (by
        refine iincV X7.here hexec rfl 1 (hb hbytes d32) (by decide) rfl rfl ?_
        refine iincV X7.here hexec rfl 1 (hb hbytes d35) (by decide) rfl rfl ?_
        refine iincV X7.here hexec rfl 1 (hb hbytes d38) (by decide) rfl rfl ?_
        refine XS.goto X7.here hexec rfl (pc0 := 41) rfl (hb hbytes d41) (by decide) rfl ?_
        exact Steps.refl _)
      have c10 : Steps p.tables e below (s₁.setTop (entryFrame m #[.ref b, .int (Int32.ofNat o), .ref d, .int (Int32.ofNat q), .int (Int32.ofNat len)] 7)) (T7.setTop (mkF m 3 #[.val (.ref b), .val (.int (Int32.ofNat (o + (i + 1)))), .val (.ref d), .val (.int (Int32.ofNat (q + (i + 1)))), .val (.int (Int32.ofNat len)), .val (.int (Int32.ofNat (i + 1))), .val (.int (cv A (o + i)))] [])) := by
        have := c9
        rw [succ32, succ32, succ32] at this
        exact this
      exact ih (i + 1) (by omega) _ (Or.inr ⟨_, rfl, rfl⟩) T7 _ (by rw [copyLocs_step, ← List.append_assoc]; exact X7) (pl.trans p7) (fl.step (by omega) hlt (by simp)) c10
  obtain ⟨T9, B9, z9, X9, p9, f9, g9⟩ := loop len 0 (by omega) .unset (Or.inl rfl) s₁ B (by simpa [copyLocs] using X0) ⟨hB0.1, fun _ _ => rfl, rfl⟩ (Laid.zero _ _ _) c2
  have c11 : Steps p.tables e below (s₁.setTop (entryFrame m #[.ref b, .int (Int32.ofNat o), .ref d, .int (Int32.ofNat q), .int (Int32.ofNat len)] 7)) (T9.setTop (mkF m 46 #[.val (.ref b), .val (.int (Int32.ofNat (o + len))), .val (.ref d), .val (.int (Int32.ofNat (q + len))), .val (.int (Int32.ofNat len)), .val (.int (Int32.ofNat len)), z9] [.int (Int32.ofNat len)])) := g9.trans (by
    refine XS.iload X9.here hexec rfl (hb hbytes d3) rfl ?_
    refine XS.iload X9.here hexec rfl (hb hbytes d5) rfl ?_
    refine XS.icmpYes X9.here hexec rfl (pc0 := 7) rfl (hb hbytes d7) rfl (ii_ge_t (nlt32 (by omega) (Nat.le_refl _))) (by decide) rfl ?_
    refine XS.iload X9.here hexec rfl (hb hbytes d44) rfl ?_
    exact Steps.refl _)
  exact ⟨T9, some (.int (Int32.ofNat len)), _, _, _, X9, by simp, rfl, rfl, (fun h => by cases h), ⟨rfl, B9, p9.from hh0, f9⟩, fun fs hl => c11.trans (X9.ireturnOut hexec hret rfl (Or.inl rfl) (hb hbytes d46) hl)⟩
end Cmp5
namespace Cmp3
def yN : MethodName := ⟨"java/lang/StringUTF16", "compress", "([CII)[B"⟩
abbrev yB : ByteArray := jdk_52_method_16_code
theorem d0 : decode yB 0 = .ok (.iload_n 2, 1) := by decide +kernel
theorem d1 : decode yB 1 = .ok (.newarray .byte, 2) := by decide +kernel
theorem d3 : decode yB 3 = .ok (.astore_n 3, 1) := by decide +kernel
theorem d4 : decode yB 4 = .ok (.aload_n 0, 1) := by decide +kernel
theorem d5 : decode yB 5 = .ok (.iload_n 1, 1) := by decide +kernel
theorem d6 : decode yB 6 = .ok (.aload_n 3, 1) := by decide +kernel
theorem d7 : decode yB 7 = .ok (.iconst 0, 1) := by decide +kernel
theorem d8 : decode yB 8 = .ok (.iload_n 2, 1) := by decide +kernel
theorem d9 : decode yB 9 = .ok (.invokestatic 115, 3) := by decide +kernel
theorem d12 : decode yB 12 = .ok (.istore 4, 2) := by decide +kernel
theorem d14 : decode yB 14 = .ok (.iload 4, 2) := by decide +kernel
theorem d16 : decode yB 16 = .ok (.iload_n 2, 1) := by decide +kernel
theorem d17 : decode yB 17 = .ok (.if_icmp (.eq) 40, 3) := by decide +kernel
theorem d57 : decode yB 57 = .ok (.aload_n 3, 1) := by decide +kernel
theorem d58 : decode yB 58 = .ok (.areturn, 1) := by decide +kernel
def site : List Cond := [.arrayClass .byte, Cmp5.tab] ++ staticW U16 115 Cmp5.yN
def tab : Cond := tabOf yN yB 6 (some (.array .byte)) site
def P (b : Addr) (A : Cell) (o len : Nat) (args : Array Value) (s : State) : Prop := args = #[.ref b, .int (Int32.ofNat o), .int (Int32.ofNat len)] ∧ Ch b A s ∧ o + len ≤ A.slots.size ∧ len ≤ 536870912 ∧ ∀ i, i < len → ¬ 255 < cv A (o + i)
def E (b : Addr) (A : Cell) (o len : Nat) (r : Option Value) (s u : State) : Prop := NewArr .byte "[B" len (fun j => .int (lo8 (cv A (o + j)))) r s u ∧ u.heap.size = s.heap.size + 1
/-- no char of the range above 255: a new byte[] of their low bytes -/
theorem law (l : Launch) (b : Addr) (A : Cell) (o len : Nat) : Law l yN 3 3 1 18 yB 6 (some (.array .byte)) site (P b A o len) (E b A o len) [] 1 len := by
  refine Law.of_walk (plainFor_of_name (by decide +kernel)) (by decide +kernel) (by decide +kernel) (by decide) (fun _ _ h => by rw [h.1]; rfl) (fun _ U U' hal hh h => ⟨h.1, h.2.1.mv hal hh, h.2.2⟩) (fun r U U' V V' h1 hal h2 h => ⟨NewArr.mv r U U' V V' h1 hal h2 h.1, by rw [h1, h2]; exact h.2⟩) ?_
  intro p e s m args below meth c s₁ X0 hexec hbytes hml hret hlk hnm hown hh0 W hP
  obtain ⟨rfl, hA, l1, l2, hp⟩ := hP
  have a31 := hA.1.2.2.2
  have c1 : Steps p.tables e below (s₁.setTop (entryFrame m #[.ref b, .int (Int32.ofNat o), .int (Int32.ofNat len)] 6)) (s₁.setTop (mkF m 0 #[.val (.ref b), .val (.int (Int32.ofNat o)), .val (.int (Int32.ofNat len)), .unset, .unset, .unset] [])) := entry rfl
  have c2 : Steps p.tables e below (s₁.setTop (entryFrame m #[.ref b, .int (Int32.ofNat o), .int (Int32.ofNat len)] 6)) (s₁.setTop (mkF m 1 #[.val (.ref b), .val (.int (Int32.ofNat o)), .val (.int (Int32.ofNat len)), .unset, .unset, .unset] [.int (Int32.ofNat len)])) := c1.trans (by
    refine XS.iloadN X0.here hexec rfl (hb hbytes d0) rfl ?_
    exact Steps.refl _)
  obtain ⟨T3, B3, X3, ba3, bs3, bv3, bh3, bf3, st3⟩ := X0.anew hexec (atype := .byte) (wk W (.arrayClass .byte)) rfl (by show len * 1 ≤ _; omega) (by omega) (g := (mkF m 1 #[.val (.ref b), .val (.int (Int32.ofNat o)), .val (.int (Int32.ofNat len)), .unset, .unset, .unset] [.int (Int32.ofNat len)])) rfl (hb hbytes d1) (rest := []) rfl (Nat.le_refl _) (by show 0 + len ≤ len; omega)
  rw [hh0] at ba3 st3
  have kp3 : XT.Kept s T3 := (XT.Kept.of_eq hh0).push bh3
  have hA3 := hA.keep X3.warmed.alike (kp3 _ _ hA.1.1)
  have hne : b ≠ s.heap.size := hA.1.ne
  have c4 : Steps p.tables e below (s₁.setTop (entryFrame m #[.ref b, .int (Int32.ofNat o), .int (Int32.ofNat len)] 6)) (T3.setTop (mkF m 3 #[.val (.ref b), .val (.int (Int32.ofNat o)), .val (.int (Int32.ofNat len)), .unset, .unset, .unset] [.ref s.heap.size])) := c2.trans (st3 _ (Steps.refl _))
  have c5 : Steps p.tables e below (s₁.setTop (entryFrame m #[.ref b, .int (Int32.ofNat o), .int (Int32.ofNat len)] 6)) (T3.setTop (mkF m 9 #[.val (.ref b), .val (.int (Int32.ofNat o)), .val (.int (Int32.ofNat len)), .val (.ref s.heap.size), .unset, .unset] [.int (Int32.ofNat len), .int 0, .ref s.heap.size, .int (Int32.ofNat o), .ref b])) := c4.trans (by
    refine XS.astoreN X3.here hexec rfl (hb hbytes d3) rfl rfl rfl ?_
    refine XS.aloadN X3.here hexec rfl (hb hbytes d4) rfl rfl ?_
    refine XS.iloadN X3.here hexec rfl (hb hbytes d5) rfl ?_
    refine XS.aloadN X3.here hexec rfl (hb hbytes d6) rfl rfl ?_
    refine iconstV X3.here hexec rfl 0 (hb hbytes d7) (by decide) ?_
    refine XS.iloadN X3.here hexec rfl (hb hbytes d8) rfl ?_
    exact Steps.refl _)
  obtain ⟨v6, T6, X6, E6, g6⟩ := X3.callS hexec (Cmp5.law l b A s.heap.size B3 o 0 len) hown (wks W (staticW U16 115 Cmp5.yN)) (wk W Cmp5.tab) (W := 0) (Nat.le_of_ble_eq_true rfl) (Nat.le_of_ble_eq_true rfl) (Nat.le_refl _) (by show 0 + len + 0 ≤ len; omega) (g := (mkF m 9 #[.val (.ref b), .val (.int (Int32.ofNat o)), .val (.int (Int32.ofNat len)), .val (.ref s.heap.size), .unset, .unset] [.int (Int32.ofNat len), .int (Int32.ofNat 0), .ref s.heap.size, .int (Int32.ofNat o), .ref b])) rfl (by rw [hml]; rfl) c5 (argsL := [.ref b, .int (Int32.ofNat o), .ref s.heap.size, .int (Int32.ofNat 0), .int (Int32.ofNat len)]) (rest := []) rfl rfl (by show 2 * 0 + 0 ≤ _; decide) (hb hbytes d9) (⟨rfl, hA3, ba3, hne, l1, by rw [bs3]; simp, hp⟩)
  obtain ⟨rfl, B6, p6, f6⟩ := E6
  have c7 : Steps p.tables e below (s₁.setTop (entryFrame m #[.ref b, .int (Int32.ofNat o), .int (Int32.ofNat len)] 6)) (T6.setTop (mkF m 12 #[.val (.ref b), .val (.int (Int32.ofNat o)), .val (.int (Int32.ofNat len)), .val (.ref s.heap.size), .unset, .unset] [.int (Int32.ofNat len)])) := g6
  have c8 : Steps p.tables e below (s₁.setTop (entryFrame m #[.ref b, .int (Int32.ofNat o), .int (Int32.ofNat len)] 6)) (T6.setTop (mkF m 58 #[.val (.ref b), .val (.int (Int32.ofNat o)), .val (.int (Int32.ofNat len)), .val (.ref s.heap.size), .val (.int (Int32.ofNat len)), .unset] [.ref s.heap.size])) := c7.trans (by
    refine XS.istore X6.here hexec rfl (hb hbytes d12) rfl rfl ?_
    refine XS.iload X6.here hexec rfl (hb hbytes d14) rfl ?_
    refine XS.iloadN X6.here hexec rfl (hb hbytes d16) rfl ?_
    refine XS.icmpYes X6.here hexec rfl (pc0 := 17) rfl (hb hbytes d17) rfl (ii_eq_t rfl) (by decide) rfl ?_
    refine XS.aloadN X6.here hexec rfl (hb hbytes d57) rfl rfl ?_
    exact Steps.refl _)
  have X8 := X6.wide (L' := []) (cells' := 1) (slots' := len) (fun x hx hlt => by
    simp only [List.nil_append, copyLocs, List.mem_map, List.mem_range] at hx
    obtain ⟨i, -, rfl⟩ := hx
    exact absurd hlt (Nat.lt_irrefl _)) (Nat.le_refl _) (by omega)
  exact ⟨T6, some (.ref s.heap.size), _, _, _, X8, rfl, rfl, rfl, (fun h => by cases h), ⟨⟨rfl, B6, ba3.like (X3.warmed.alike.symm.trans X6.warmed.alike) p6.1 f6.1 f6.2.1 f6.2.2.1, f6.2.1.trans bv3, by rw [X6.warmed.alike.findClass, f6.1]; exact bf3, by rw [f6.2.2.1, bs3]; simp, fun j hj => by rw [f6.2.2.2 j, if_pos (by omega)]; rfl, kp3.put p6 (Nat.le_refl _)⟩, by rw [p6.2.2, bh3, hh0]; simp⟩, fun fs hl => c8.trans (X8.areturnOut hexec rfl hret rfl (hb hbytes d58) hl)⟩
end Cmp3
namespace CodL
def yN : MethodName := ⟨"java/lang/StringUTF16", "coderFromArrayLen", "([BI)B"⟩
abbrev yB : ByteArray := jdk_52_method_15_code
theorem d0 : decode yB 0 = .ok (.iload_n 1, 1) := by decide +kernel
theorem d1 : decode yB 1 = .ok (.aload_n 0, 1) := by decide +kernel
theorem d2 : decode yB 2 = .ok (.arraylength, 1) := by decide +kernel
theorem d3 : decode yB 3 = .ok (.isub, 1) := by decide +kernel
theorem d4 : decode yB 4 = .ok (.bipush 31, 2) := by decide +kernel
theorem d6 : decode yB 6 = .ok (.iushr, 1) := by decide +kernel
theorem d7 : decode yB 7 = .ok (.i2b, 1) := by decide +kernel
theorem d8 : decode yB 8 = .ok (.ireturn, 1) := by decide +kernel
def site : List Cond := []
def tab : Cond := tabOf yN yB 2 (some .byte) site
def P (d : Addr) (B : Cell) (args : Array Value) (s : State) : Prop := args = #[.ref d, .int (Int32.ofNat B.slots.size)] ∧ Arr .byte d B s
def E (r : Option Value) (s u : State) : Prop := XT.PureE (some (.int 0)) r s u
/-- an array as long as the number of chars: LATIN1 -/
theorem law (l : Launch) (d : Addr) (B : Cell) : Law l yN 2 2 0 0 yB 2 (some .byte) site (P d B) E [] 0 0 := by
  refine Law.of_walk (plainFor_of_name (by decide +kernel)) (by decide +kernel) (by decide +kernel) (by decide) (fun _ _ h => by rw [h.1]; rfl) (fun _ U U' hal hh h => ⟨h.1, h.2.mv hal hh⟩) (fun r U U' V V' h1 hal h2 h => XT.PureE.mv r U U' V V' h1 hal h2 h) ?_
  intro p e s m args below meth c s₁ X0 hexec hbytes hml hret hlk hnm hown hh0 W hP
  obtain ⟨rfl, hB⟩ := hP
  have hB0 := hB.mv X0.warmed.alike hh0
  have c1 : Steps p.tables e below (s₁.setTop (entryFrame m #[.ref d, .int (Int32.ofNat B.slots.size)] 2)) (s₁.setTop (mkF m 0 #[.val (.ref d), .val (.int (Int32.ofNat B.slots.size))] [])) := entry rfl
  have c2 : Steps p.tables e below (s₁.setTop (entryFrame m #[.ref d, .int (Int32.ofNat B.slots.size)] 2)) (s₁.setTop (mkF m 2 #[.val (.ref d), .val (.int (Int32.ofNat B.slots.size))] [.ref d, .int (Int32.ofNat B.slots.size)])) := c1.trans (by
    refine XS.iloadN X0.here hexec rfl (hb hbytes d0) rfl ?_
    refine XS.aloadN X0.here hexec rfl (hb hbytes d1) rfl rfl ?_
    exact Steps.refl _)
  have c3 : Steps p.tables e below (s₁.setTop (entryFrame m #[.ref d, .int (Int32.ofNat B.slots.size)] 2)) (s₁.setTop (mkF m 8 #[.val (.ref d), .val (.int (Int32.ofNat B.slots.size))] [.int (lo8 (ushr (Int32.ofNat B.slots.size - Int32.ofNat B.slots.size) 31))])) := c2.trans (by
    refine X0.alen hexec hB0 rfl rfl (hb hbytes d2) ?_
    refine XS.isub X0.here hexec rfl (hb hbytes d3) rfl ?_
    refine bipushV X0.here hexec rfl 31 (hb hbytes d4) (by decide) ?_
    refine iushr X0.here hexec rfl (hb hbytes d6) rfl ?_
    refine i2b X0.here hexec rfl (hb hbytes d7) rfl ?_
    exact Steps.refl _)
  have e0 : lo8 (ushr (Int32.ofNat B.slots.size - Int32.ofNat B.slots.size) 31) = 0 := by rw [Int32.sub_self]; decide
  rw [e0] at c3
  exact ⟨s₁, some (.int 0), _, _, _, X0, rfl, rfl, rfl, (fun h => by cases h), ⟨rfl, hh0⟩, fun fs hl => c3.trans (X0.ireturnOut hexec hret rfl (Or.inr (Or.inr (Or.inl rfl))) (hb hbytes d8) hl)⟩
end CodL
/-- the String at a is Latin-1 over a new byte[] (the heap's one new cell): the low bytes of the len chars of A from o on; every cell but a is kept -/
def Got (a : Addr) (D : Cell) (fV fC : Field) (A : Cell) (o len : Nat) (r : Option Value) (s u : State) : Prop := r = none ∧ ∃ D' V : Cell, Blank "java/lang/String" a D' u ∧ Same D D' [fV.slot, fC.slot] ∧ D'.slots[fV.slot]? = some (.ref s.heap.size) ∧ D'.slots[fC.slot]? = some (.int 0) ∧ Arr .byte s.heap.size V u ∧ V.vm = .none ∧ u.vm.findClass "[B" = some V.cls ∧ V.slots.size = len ∧ (∀ j, j < len → V.slots[j]? = some (.int (lo8 (cv A (o + j))))) ∧ (∀ (y : Addr) (c : Cell), y ≠ a → s.heap[y]? = some c → u.heap[y]? = some c) ∧ u.heap.size = s.heap.size + 1
theorem Got.mv {a : Addr} {D A : Cell} {fV fC : Field} {o len : Nat} : ∀ r (U U' V V' : State), U'.heap = U.heap → V.vm.Alike V'.vm → V'.heap = V.heap → Got a D fV fC A o len r U V → Got a D fV fC A o len r U' V' :=
  fun r U U' V V' h1 hal h2 ⟨e0, D', X, a1, a2, a3, a4, a5, a6, a7, a8, a9, a10, a11⟩ => ⟨e0, D', X, a1.mv hal h2, a2, by rw [h1]; exact a3, a4, by rw [h1]; exact a5.mv hal h2, a6, by rw [hal.findClass]; exact a7, a8, a9, by rw [h1, h2]; exact a10, by rw [h1, h2]; exact a11⟩
namespace New4
def yN : MethodName := ⟨"java/lang/String", "<init>", "([CIILjava/lang/Void;)V"⟩
abbrev yB : ByteArray := jdk_42_method_149_code
theorem d0 : decode yB 0 = .ok (.aload_n 0, 1) := by decide +kernel
theorem d1 : decode yB 1 = .ok (.invokespecial 1, 3) := by decide +kernel
theorem d4 : decode yB 4 = .ok (.iload_n 3, 1) := by decide +kernel
theorem d5 : decode yB 5 = .ok (.ifCond (.ne) 22, 3) := by decide +kernel
theorem d27 : decode yB 27 = .ok (.getstatic 38, 3) := by decide +kernel
theorem d30 : decode yB 30 = .ok (.ifCond (.eq) 28, 3) := by decide +kernel
theorem d33 : decode yB 33 = .ok (.aload_n 1, 1) := by decide +kernel
theorem d34 : decode yB 34 = .ok (.iload_n 2, 1) := by decide +kernel
theorem d35 : decode yB 35 = .ok (.iload_n 3, 1) := by decide +kernel
theorem d36 : decode yB 36 = .ok (.invokestatic 177, 3) := by decide +kernel
theorem d39 : decode yB 39 = .ok (.astore 5, 2) := by decide +kernel
theorem d41 : decode yB 41 = .ok (.aload_n 0, 1) := by decide +kernel
theorem d42 : decode yB 42 = .ok (.aload 5, 2) := by decide +kernel
theorem d44 : decode yB 44 = .ok (.iload_n 3, 1) := by decide +kernel
theorem d45 : decode yB 45 = .ok (.invokestatic 47, 3) := by decide +kernel
theorem d48 : decode yB 48 = .ok (.putfield 15, 3) := by decide +kernel
theorem d51 : decode yB 51 = .ok (.aload_n 0, 1) := by decide +kernel
theorem d52 : decode yB 52 = .ok (.aload 5, 2) := by decide +kernel
theorem d54 : decode yB 54 = .ok (.putfield 9, 3) := by decide +kernel
theorem d57 : decode yB 57 = .ok (.return_, 1) := by decide +kernel
def site : List Cond := [.fieldLink "java/lang/String" 38 "java/lang/String" "COMPACT_STRINGS" "Z", Cmp3.tab, CodL.tab, .laysFinal "java/lang/String" "java/lang/String" "value" "[B", .fieldLink "java/lang/String" 9 "java/lang/String" "value" "[B", .laysFinal "java/lang/String" "java/lang/String" "coder" "B", .fieldLink "java/lang/String" 15 "java/lang/String" "coder" "B"] ++ objW "java/lang/String" 1 ++ staticW "java/lang/String" 177 Cmp3.yN ++ staticW "java/lang/String" 47 CodL.yN
def tab : Cond := tabOf yN yB 6 none site
def P (a : Addr) (D : Cell) (fV fC : Field) (b : Addr) (A : Cell) (z : Int32) (o len : Nat) (args : Array Value) (s : State) : Prop := args = #[.ref a, .ref b, .int (Int32.ofNat o), .int (Int32.ofNat len), .null] ∧ Blank "java/lang/String" a D s ∧ Found "java/lang/String" "value" "[B" fV s ∧ Found "java/lang/String" "coder" "B" fC s ∧ Ch b A s ∧ StaticIs s "java/lang/String" "COMPACT_STRINGS" "Z" (.int z) ∧ ¬ z = 0 ∧ 0 < len ∧ o + len ≤ A.slots.size ∧ len ≤ 536870912 ∧ ∀ i, i < len → ¬ 255 < cv A (o + i)
def E (a : Addr) (D : Cell) (fV fC : Field) (A : Cell) (o len : Nat) (r : Option Value) (s u : State) : Prop := Got a D fV fC A o len r s u
/-- len > 0, no char of the range above 255: a Latin-1 String of their low bytes -/
theorem law (l : Launch) (a : Addr) (D : Cell) (fV fC : Field) (b : Addr) (A : Cell) (z : Int32) (o len : Nat) : Law l yN 5 4 2 35 yB 6 none site (P a D fV fC b A z o len) (E a D fV fC A o len) [⟨a, fC.slot⟩, ⟨a, fV.slot⟩] 1 len := by
  refine Law.of_walk (plainFor_of_name (by decide +kernel)) (by decide +kernel) (by decide +kernel) (by decide) (fun _ _ h => by rw [h.1]; rfl) (fun _ U U' hal hh h => ⟨h.1, h.2.1.mv hal hh, h.2.2.1.al hal, h.2.2.2.1.al hal, h.2.2.2.2.1.mv hal hh, h.2.2.2.2.2.1.there hal hh, h.2.2.2.2.2.2⟩) (fun r U U' V V' h1 hal h2 h => Got.mv r U U' V V' h1 hal h2 h) ?_
  intro p e s m args below meth c s₁ X0 hexec hbytes hml hret hlk hnm hown hh0 W hP
  obtain ⟨rfl, hB, f1, f2, hA, s1, hz, l0, l1, l2, hp⟩ := hP
  have a31 := hA.1.2.2.2
  have c1 : Steps p.tables e below (s₁.setTop (entryFrame m #[.ref a, .ref b, .int (Int32.ofNat o), .int (Int32.ofNat len), .null] 6)) (s₁.setTop (mkF m 0 #[.val (.ref a), .val (.ref b), .val (.int (Int32.ofNat o)), .val (.int (Int32.ofNat len)), .val .null, .unset] [])) := entry rfl
  have c2 : Steps p.tables e below (s₁.setTop (entryFrame m #[.ref a, .ref b, .int (Int32.ofNat o), .int (Int32.ofNat len), .null] 6)) (s₁.setTop (mkF m 1 #[.val (.ref a), .val (.ref b), .val (.int (Int32.ofNat o)), .val (.int (Int32.ofNat len)), .val .null, .unset] [.ref a])) := c1.trans (by
    refine XS.aloadN X0.here hexec rfl (hb hbytes d0) rfl rfl ?_
    exact Steps.refl _)
  obtain ⟨T3, X3, q3, st3⟩ := X0.oinit hexec hown (wks W (objW "java/lang/String" 1)) (g := (mkF m 1 #[.val (.ref a), .val (.ref b), .val (.int (Int32.ofNat o)), .val (.int (Int32.ofNat len)), .val .null, .unset] [.ref a])) rfl (by rw [hml]; rfl) (rest := []) rfl (hb hbytes d1) (W := 0) (by show 2 * 0 + 0 ≤ _; decide) (Nat.le_of_ble_eq_true rfl) (Nat.le_of_ble_eq_true rfl)
  have hh3 := q3.trans hh0
  have c4 : Steps p.tables e below (s₁.setTop (entryFrame m #[.ref a, .ref b, .int (Int32.ofNat o), .int (Int32.ofNat len), .null] 6)) (T3.setTop (mkF m 27 #[.val (.ref a), .val (.ref b), .val (.int (Int32.ofNat o)), .val (.int (Int32.ofNat len)), .val .null, .unset] [])) := (c2.trans (st3 _ (Steps.refl _))).trans (by
    refine XS.iloadN X3.here hexec rfl (hb hbytes d4) rfl ?_
    refine XS.ifYes X3.here hexec rfl (pc0 := 5) rfl (hb hbytes d5) rfl (i0_ne_t (nz32 (by omega) l0)) (by decide) rfl ?_
    exact Steps.refl _)
  obtain ⟨T5, X5, q5, st5⟩ := X3.sget hexec hown (wk W (.fieldLink "java/lang/String" 38 "java/lang/String" "COMPACT_STRINGS" "Z")) s1 (fun _ _ h => by rw [hh3]; exact h) (g := (mkF m 27 #[.val (.ref a), .val (.ref b), .val (.int (Int32.ofNat o)), .val (.int (Int32.ofNat len)), .val .null, .unset] [])) rfl (hb hbytes d27)
  have hh5 := q5.trans hh3
  have c6 : Steps p.tables e below (s₁.setTop (entryFrame m #[.ref a, .ref b, .int (Int32.ofNat o), .int (Int32.ofNat len), .null] 6)) (T5.setTop (mkF m 30 #[.val (.ref a), .val (.ref b), .val (.int (Int32.ofNat o)), .val (.int (Int32.ofNat len)), .val .null, .unset] [.int z])) := c4.trans (st5 _ (Steps.refl _))
  have c7 : Steps p.tables e below (s₁.setTop (entryFrame m #[.ref a, .ref b, .int (Int32.ofNat o), .int (Int32.ofNat len), .null] 6)) (T5.setTop (mkF m 36 #[.val (.ref a), .val (.ref b), .val (.int (Int32.ofNat o)), .val (.int (Int32.ofNat len)), .val .null, .unset] [.int (Int32.ofNat len), .int (Int32.ofNat o), .ref b])) := c6.trans (by
    refine XS.ifNo X5.here hexec rfl (hb hbytes d30) rfl (i0_eq_f hz) ?_
    refine XS.aloadN X5.here hexec rfl (hb hbytes d33) rfl rfl ?_
    refine XS.iloadN X5.here hexec rfl (hb hbytes d34) rfl ?_
    refine XS.iloadN X5.here hexec rfl (hb hbytes d35) rfl ?_
    exact Steps.refl _)
  obtain ⟨v8, T8, X8, E8, g8⟩ := X5.callS hexec (Cmp3.law l b A o len) hown (wks W (staticW "java/lang/String" 177 Cmp3.yN)) (wk W Cmp3.tab) (W := 0) (Nat.le_of_ble_eq_true rfl) (Nat.le_of_ble_eq_true rfl) (Nat.le_refl _) (by show 0 + len ≤ len; omega) (g := (mkF m 36 #[.val (.ref a), .val (.ref b), .val (.int (Int32.ofNat o)), .val (.int (Int32.ofNat len)), .val .null, .unset] [.int (Int32.ofNat len), .int (Int32.ofNat o), .ref b])) rfl (by rw [hml]; rfl) c7 (argsL := [.ref b, .int (Int32.ofNat o), .int (Int32.ofNat len)]) (rest := []) rfl rfl (by show 2 * 0 + 0 ≤ _; decide) (hb hbytes d36) (⟨rfl, hA.mv X5.warmed.alike hh5, l1, l2, hp⟩)
  obtain ⟨e8, z8⟩ := E8
  obtain ⟨rfl, N, n1, n2, n3, n4, n5, n6⟩ := NewArr.mv _ T5 s _ _ hh5.symm (Vm.Alike.refl _) rfl e8
  rw [hh5] at z8
  have hB1 := hB.keep X8.warmed.alike (n6 _ _ hB.1)
  have hne : s.heap.size ≠ a := (Nat.ne_of_lt (Array.getElem?_eq_some_iff.mp hB.1).1).symm
  have c9 : Steps p.tables e below (s₁.setTop (entryFrame m #[.ref a, .ref b, .int (Int32.ofNat o), .int (Int32.ofNat len), .null] 6)) (T8.setTop (mkF m 39 #[.val (.ref a), .val (.ref b), .val (.int (Int32.ofNat o)), .val (.int (Int32.ofNat len)), .val .null, .unset] [.ref s.heap.size])) := g8
  have c10 : Steps p.tables e below (s₁.setTop (entryFrame m #[.ref a, .ref b, .int (Int32.ofNat o), .int (Int32.ofNat len), .null] 6)) (T8.setTop (mkF m 45 #[.val (.ref a), .val (.ref b), .val (.int (Int32.ofNat o)), .val (.int (Int32.ofNat len)), .val .null, .val (.ref s.heap.size)] [.int (Int32.ofNat N.slots.size), .ref s.heap.size, .ref a])) := by
    have hc : Steps p.tables e below (s₁.setTop (entryFrame m #[.ref a, .ref b, .int (Int32.ofNat o), .int (Int32.ofNat len), .null] 6)) (T8.setTop (mkF m 45 #[.val (.ref a), .val (.ref b), .val (.int (Int32.ofNat o)), .val (.int (Int32.ofNat len)), .val .null, .val (.ref s.heap.size)] [.int (Int32.ofNat len), .ref s.heap.size, .ref a])) := c9.trans (by
      refine XS.astore X8.here hexec rfl (hb hbytes d39) rfl rfl rfl ?_
      refine XS.aloadN X8.here hexec rfl (hb hbytes d41) rfl rfl ?_
      refine XS.aload X8.here hexec rfl (hb hbytes d42) rfl rfl ?_
      refine XS.iloadN X8.here hexec rfl (hb hbytes d44) rfl ?_
      exact Steps.refl _)
    rw [n4]; exact hc
  obtain ⟨v11, T11, X11, E11, g11⟩ := X8.callS hexec (CodL.law l s.heap.size N) hown (wks W (staticW "java/lang/String" 47 CodL.yN)) (wk W CodL.tab) (W := 1) (Nat.le_of_ble_eq_true rfl) (Nat.le_of_ble_eq_true rfl) (Nat.le_refl _) (by show 0 + len + 0 ≤ len; omega) (g := (mkF m 45 #[.val (.ref a), .val (.ref b), .val (.int (Int32.ofNat o)), .val (.int (Int32.ofNat len)), .val .null, .val (.ref s.heap.size)] [.int (Int32.ofNat N.slots.size), .ref s.heap.size, .ref a])) rfl (by rw [hml]; rfl) c10 (argsL := [.ref s.heap.size, .int (Int32.ofNat N.slots.size)]) (rest := [.ref a]) rfl rfl (by show 2 * 0 + (1 + 0) ≤ _; decide) (hb hbytes d45) (⟨rfl, n1⟩)
  obtain ⟨rfl, q11⟩ := E11
  have hB11 := hB1.mv (X8.warmed.alike.symm.trans X11.warmed.alike) q11
  have c12 : Steps p.tables e below (s₁.setTop (entryFrame m #[.ref a, .ref b, .int (Int32.ofNat o), .int (Int32.ofNat len), .null] 6)) (T11.setTop (mkF m 48 #[.val (.ref a), .val (.ref b), .val (.int (Int32.ofNat o)), .val (.int (Int32.ofNat len)), .val .null, .val (.ref s.heap.size)] [.int 0, .ref a])) := g11
  obtain ⟨T13, X13, p13, bl13, sl13, st13⟩ := X11.finit hexec hown (wk W (.fieldLink "java/lang/String" 15 "java/lang/String" "coder" "B")) (Or.inr ⟨_, (wk W (.laysFinal "java/lang/String" "java/lang/String" "coder" "B"))⟩) (Or.inl ⟨rfl, hnm⟩) f2 (Or.inl rfl) hB11 (t := .byte) (by decide +kernel) rfl (g := (mkF m 48 #[.val (.ref a), .val (.ref b), .val (.int (Int32.ofNat o)), .val (.int (Int32.ofNat len)), .val .null, .val (.ref s.heap.size)] [.int 0, .ref a])) rfl (rest := []) rfl (hb hbytes d48)
  have c14 : Steps p.tables e below (s₁.setTop (entryFrame m #[.ref a, .ref b, .int (Int32.ofNat o), .int (Int32.ofNat len), .null] 6)) (T13.setTop (mkF m 54 #[.val (.ref a), .val (.ref b), .val (.int (Int32.ofNat o)), .val (.int (Int32.ofNat len)), .val .null, .val (.ref s.heap.size)] [.ref s.heap.size, .ref a])) := (c12.trans (st13 _ (Steps.refl _))).trans (by
    refine XS.aloadN X13.here hexec rfl (hb hbytes d51) rfl rfl ?_
    refine XS.aload X13.here hexec rfl (hb hbytes d52) rfl rfl ?_
    exact Steps.refl _)
  obtain ⟨T15, X15, p15, bl15, sl15, st15⟩ := X13.finit hexec hown (wk W (.fieldLink "java/lang/String" 9 "java/lang/String" "value" "[B")) (Or.inr ⟨_, (wk W (.laysFinal "java/lang/String" "java/lang/String" "value" "[B"))⟩) (Or.inl ⟨rfl, hnm⟩) f1 (Or.inl rfl) bl13 (t := (.array .byte)) (by decide +kernel) rfl (g := (mkF m 54 #[.val (.ref a), .val (.ref b), .val (.int (Int32.ofNat o)), .val (.int (Int32.ofNat len)), .val .null, .val (.ref s.heap.size)] [.ref s.heap.size, .ref a])) rfl (rest := []) rfl (hb hbytes d54)
  have c16 : Steps p.tables e below (s₁.setTop (entryFrame m #[.ref a, .ref b, .int (Int32.ofNat o), .int (Int32.ofNat len), .null] 6)) (T15.setTop (mkF m 57 #[.val (.ref a), .val (.ref b), .val (.int (Int32.ofNat o)), .val (.int (Int32.ofNat len)), .val .null, .val (.ref s.heap.size)] [])) := c14.trans (st15 _ (Steps.refl _))
  have ap := apart (Or.inr ⟨_, (wk W (.laysFinal "java/lang/String" "java/lang/String" "value" "[B"))⟩) (Or.inr ⟨_, (wk W (.laysFinal "java/lang/String" "java/lang/String" "coder" "B"))⟩) f1 f2 (t₁ := .array .byte) (t₂ := .byte) (by decide +kernel) (by decide +kernel) (by decide)
  have al := X8.warmed.alike.symm.trans X15.warmed.alike
  have n7 : T11.heap[s.heap.size]? = some N := by rw [q11]; exact n1.1
  exact ⟨T15, none, _, _, _, X15, by simp, rfl, by omega, (fun _ => rfl), ⟨rfl, _, N, bl15, ((Same.refl D _).set _ (by simp)).set _ (by simp), sl15, (Cell.slots_setSlot_ne _ ap).trans sl13, n1.keep al (p15.other hne (p13.other hne n7)), n2, by rw [al.findClass]; exact n3, n4, n5, fun y c h1 h2 => p15.other h1 (p13.other h1 (by rw [q11]; exact n6 y c h2)), by rw [p15.2.2, p13.2.2, q11]; exact z8⟩, fun fs hl => c16.trans (X15.returnOut hexec hret (hb hbytes d57) hl)⟩
end New4
namespace New1
def yN : MethodName := ⟨"java/lang/String", "<init>", "([C)V"⟩
abbrev yB : ByteArray := jdk_42_method_3_code
theorem d0 : decode yB 0 = .ok (.aload_n 0, 1) := by decide +kernel
theorem d1 : decode yB 1 = .ok (.aload_n 1, 1) := by decide +kernel
theorem d2 : decode yB 2 = .ok (.iconst 0, 1) := by decide +kernel
theorem d3 : decode yB 3 = .ok (.aload_n 1, 1) := by decide +kernel
theorem d4 : decode yB 4 = .ok (.arraylength, 1) := by decide +kernel
theorem d5 : decode yB 5 = .ok (.aconst_null, 1) := by decide +kernel
theorem d6 : decode yB 6 = .ok (.invokespecial 27, 3) := by decide +kernel
theorem d9 : decode yB 9 = .ok (.return_, 1) := by decide +kernel
def site : List Cond := [New4.tab] ++ initW "java/lang/String" 27 New4.yN
def tab : Cond := tabOf yN yB 2 none site
def P (a : Addr) (D : Cell) (fV fC : Field) (b : Addr) (A : Cell) (z : Int32) (args : Array Value) (s : State) : Prop := args = #[.ref a, .ref b] ∧ Blank "java/lang/String" a D s ∧ Found "java/lang/String" "value" "[B" fV s ∧ Found "java/lang/String" "coder" "B" fC s ∧ Ch b A s ∧ StaticIs s "java/lang/String" "COMPACT_STRINGS" "Z" (.int z) ∧ ¬ z = 0 ∧ 0 < A.slots.size ∧ A.slots.size ≤ 536870912 ∧ ∀ i, i < A.slots.size → ¬ 255 < cv A i
def E (a : Addr) (D : Cell) (fV fC : Field) (A : Cell) (r : Option Value) (s u : State) : Prop := Got a D fV fC A 0 A.slots.size r s u
/-- new String(chars), not empty, no char above 255: a Latin-1 String of their low bytes -/
theorem law (l : Launch) (a : Addr) (D : Cell) (fV fC : Field) (b : Addr) (A : Cell) (z : Int32) : Law l yN 2 1 3 52 yB 2 none site (P a D fV fC b A z) (E a D fV fC A) [⟨a, fC.slot⟩, ⟨a, fV.slot⟩] 1 A.slots.size := by
  refine Law.of_walk (plainFor_of_name (by decide +kernel)) (by decide +kernel) (by decide +kernel) (by decide) (fun _ _ h => by rw [h.1]; rfl) (fun _ U U' hal hh h => ⟨h.1, h.2.1.mv hal hh, h.2.2.1.al hal, h.2.2.2.1.al hal, h.2.2.2.2.1.mv hal hh, h.2.2.2.2.2.1.there hal hh, h.2.2.2.2.2.2⟩) (fun r U U' V V' h1 hal h2 h => Got.mv r U U' V V' h1 hal h2 h) ?_
  intro p e s m args below meth c s₁ X0 hexec hbytes hml hret hlk hnm hown hh0 W hP
  obtain ⟨rfl, hB, f1, f2, hA, s1, hz, l0, l2, hp⟩ := hP
  have c1 : Steps p.tables e below (s₁.setTop (entryFrame m #[.ref a, .ref b] 2)) (s₁.setTop (mkF m 0 #[.val (.ref a), .val (.ref b)] [])) := entry rfl
  have c2 : Steps p.tables e below (s₁.setTop (entryFrame m #[.ref a, .ref b] 2)) (s₁.setTop (mkF m 6 #[.val (.ref a), .val (.ref b)] [.null, .int (Int32.ofNat A.slots.size), .int 0, .ref b, .ref a])) := c1.trans (by
    refine XS.aloadN X0.here hexec rfl (hb hbytes d0) rfl rfl ?_
    refine XS.aloadN X0.here hexec rfl (hb hbytes d1) rfl rfl ?_
    refine iconstV X0.here hexec rfl 0 (hb hbytes d2) (by decide) ?_
    refine XS.aloadN X0.here hexec rfl (hb hbytes d3) rfl rfl ?_
    refine X0.alen hexec (hA.1.mv X0.warmed.alike hh0) rfl rfl (hb hbytes d4) ?_
    refine XS.aconstNull X0.here hexec rfl (hb hbytes d5) ?_
    exact Steps.refl _)
  obtain ⟨v3, T3, X3, E3, g3⟩ := X0.callN hexec (New4.law l a D fV fC b A z 0 A.slots.size) rfl hown (wks W (initW "java/lang/String" 27 New4.yN)) (W New4.tab (by simp only [site, List.mem_cons, List.mem_append, true_or, or_true])) (W := 0) (Nat.le_of_ble_eq_true rfl) (Nat.le_of_ble_eq_true rfl) (Nat.le_refl _) (by show 0 + A.slots.size ≤ A.slots.size; omega) (g := (mkF m 6 #[.val (.ref a), .val (.ref b)] [.null, .int (Int32.ofNat A.slots.size), .int (Int32.ofNat 0), .ref b, .ref a])) rfl (by rw [hml]; rfl) c2 (argsL := [.ref b, .int (Int32.ofNat 0), .int (Int32.ofNat A.slots.size), .null]) (rest := []) rfl rfl (by show 2 * 0 + 0 ≤ _; decide) (hb hbytes d6) (⟨rfl, hB.mv X0.warmed.alike hh0, f1.al X0.warmed.alike, f2.al X0.warmed.alike, hA.mv X0.warmed.alike hh0, s1.there X0.warmed.alike hh0, hz, l0, by omega, l2, fun i hi => by rw [Nat.zero_add]; exact hp i hi⟩)
  have e0 := Got.mv _ s₁ s _ _ hh0.symm (Vm.Alike.refl _) rfl E3
  obtain rfl := e0.1
  have c4 : Steps p.tables e below (s₁.setTop (entryFrame m #[.ref a, .ref b] 2)) (T3.setTop (mkF m 9 #[.val (.ref a), .val (.ref b)] [])) := g3
  exact ⟨T3, none, _, _, _, X3, by simp, rfl, by omega, (fun _ => rfl), e0, fun fs hl => c4.trans (X3.returnOut hexec hret (hb hbytes d9) hl)⟩
theorem pays {l : Launch} {R : Room} {p : Program} {e : Env} {below : List Frame} {s : State} {sargs : Array Value} {len W : Nat} (a : Addr) (D : Cell) (fV fC : Field) (b : Addr) (A : Cell) (z : Int32) (htab : tab.before sargs s = true) (hfr : 4 ≤ R.frames) (hlo : W + 65 ≤ R.locals) :
    Back l R p e below s sargs yN len W (fun A₁ a₁ => A₁.cells + 1 ≤ R.cells ∧ A₁.slots + A.slots.size ≤ R.slots ∧ P a D fV fC b A z a₁ A₁.U) (fun A₁ _ v₁ B₁ => E a D fV fC A v₁ A₁.U B₁.U ∧ B₁.locs = A₁.locs ++ [⟨a, fC.slot⟩, ⟨a, fV.slot⟩] ∧ B₁.cells = A₁.cells + 1 ∧ B₁.slots = A₁.slots + A.slots.size) :=
  (law l a D fV fC b A z).pays htab hfr (by omega)
end New1
/-- the byte, read back as charAt reads it, is the char -/
theorem lo8_mask {x : Int32} (h0 : ¬ x < 0) (h1 : ¬ 255 < x) : lo8 x &&& 255 = x := by
  have t : ∀ k : Fin 256, lo8 (Int32.ofNat k.val) &&& 255 = Int32.ofNat k.val := by decide +kernel
  rw [Int32.lt_iff_toInt_lt] at h0 h1
  have e0 : (0 : Int32).toInt = 0 := rfl
  have e1 : (255 : Int32).toInt = 255 := rfl
  obtain ⟨k, hk⟩ : ∃ k : Nat, x.toInt = k := ⟨x.toInt.toNat, by omega⟩
  have hx : x = Int32.ofNat k := Int32.toInt_inj.mp (by rw [hk, Int32.toInt_ofNat_small (by omega)])
  rw [hx]
  exact t ⟨k, by omega⟩
end StrChars
namespace StrChars.Road
open Jvm Sem ClassFile Op Lib Jvm.Stand Jvm.Free Jvm.Free.XT
open Jvm.Lib.Cold (StaticIs)
abbrev ST : String := "java/lang/String"
/-- every table word that New1's law asks, flat -/
abbrev words : List Jvm.Cond := [.code New1.yN New1.yB 2 none, .initialized ST, .methodLink ST 27 New4.yN, .instanceMethod New4.yN,
  .code New4.yN New4.yB 6 none, .fieldLink ST 38 ST "COMPACT_STRINGS" "Z", .laysFinal ST ST "value" "[B", .fieldLink ST 9 ST "value" "[B", .laysFinal ST ST "coder" "B", .fieldLink ST 15 ST "coder" "B",
  .methodLink ST 1 Lib.objectInit, .instanceMethod Lib.objectInit, .code Lib.objectInit ⟨#[0xb1]⟩ 1 none, .methodLink ST 177 Cmp3.yN, .static Cmp3.yN, .methodLink ST 47 CodL.yN, .static CodL.yN,
  .code Cmp3.yN Cmp3.yB 6 (some (.array .byte)), .initialized U16, .arrayClass .byte, .methodLink U16 115 Cmp5.yN, .static Cmp5.yN, .code Cmp5.yN Cmp5.yB 7 (some .int), .code CodL.yN CodL.yB 2 (some .byte)]
theorem tab_of {a : Array Value} {s : State} (h : ∀ w ∈ words, w.before a s = true) : New1.tab.before a s = true := by
  have h5 : Cmp5.tab.before a s = true := unparts (wk h (.code Cmp5.yN Cmp5.yB 7 (some .int))) (wks h (.initialized Cmp5.yN.cls :: Cmp5.site))
  have hc : CodL.tab.before a s = true := unparts (wk h (.code CodL.yN CodL.yB 2 (some .byte))) (wks h (.initialized CodL.yN.cls :: CodL.site))
  have q5 : ∀ w ∈ Cmp5.tab :: words, w.before a s = true := fun w hw => (List.mem_cons.mp hw).elim (fun e => e ▸ h5) (h w)
  have h3 : Cmp3.tab.before a s = true := unparts (wk q5 (.code Cmp3.yN Cmp3.yB 6 (some (.array .byte)))) (wks q5 (.initialized Cmp3.yN.cls :: Cmp3.site))
  have q3 : ∀ w ∈ Cmp3.tab :: CodL.tab :: words, w.before a s = true := fun w hw => (List.mem_cons.mp hw).elim (fun e => e ▸ h3) fun hw => (List.mem_cons.mp hw).elim (fun e => e ▸ hc) (h w)
  have h4 : New4.tab.before a s = true := unparts (wk q3 (.code New4.yN New4.yB 6 none)) (wks q3 (.initialized New4.yN.cls :: New4.site))
  have q4 : ∀ w ∈ New4.tab :: words, w.before a s = true := fun w hw => (List.mem_cons.mp hw).elim (fun e => e ▸ h4) (h w)
  exact unparts (wk q4 (.code New1.yN New1.yB 2 none)) (wks q4 (.initialized New1.yN.cls :: New1.site))
/-- the words ride from the start Z to the walk's own state -/
theorem moved {Z s : State} {a0 args : Array Value} (hZ : Z.Warmed39 s.vm) (hw : ∀ d ∈ words, d.before a0 Z = true) : ∀ d ∈ words, d.before args s = true := fun d hd => by
  have q := hw d hd
  have t : ∀ d ∈ words, d = .arrayClass .byte ∨ (d.onTables && d.keepsFace) = true := by decide +kernel
  rcases t d hd with rfl | t
  · exact RoadKit.mvA hZ q
  · exact RoadKit.mv hZ q t
/-- WHAT COMES BACK, over the tables of the start Z: h the heap at the call, h' behind it -/
def Q (Z : State) (x : Addr) (A : Cell) (h : Heap) (v : Option Value) (h' : Heap) (L : List Loc) : Prop := v = none ∧ (∀ y ∈ L, y.base = x) ∧ RoadKit.Keep h h' [x] ∧ h'.size = h.size + 1 ∧ RoadKit.Exa Z h' x ST ∧ RoadKit.Fld Z h' x ST "value" "[B" (.ref h.size) ∧ RoadKit.Fld Z h' x ST "coder" "B" (.int 0) ∧
  (∃ V : Cell, RoadKit.Arr Z h' h.size V .byte ∧ V.vm = .none ∧ Z.vm.findClass "[B" = some V.cls ∧ V.slots.size = A.slots.size ∧ ∀ j, j < A.slots.size → V.slots[j]? = some (.int (lo8 (cv A j)))) ∧
  ∀ (O n d : String) (w : Value), RoadKit.Fld Z h x O n d w → RoadKit.slotOf Z O n d ≠ RoadKit.slotOf Z ST "value" "[B" → RoadKit.slotOf Z O n d ≠ RoadKit.slotOf Z ST "coder" "B" → RoadKit.Fld Z h' x O n d w
/-- **new String(chars) AT A CALL, IN THE ROAD'S FORM**: for specialBack behind newO: x the fresh String, b the char[] with the cell A -/
theorem back {p : Program} {l : Launch} {e : Env} {R : Room} {s : State} {args : Array Value} {below : List Frame} {len W : Nat} {Z : State} {a0 : Array Value} {h : Heap} (hZ : Z.Warmed39 s.vm) (hw : ∀ d ∈ words, d.before a0 Z = true) {kI : Nat} (wi : (Jvm.Cond.instantiable ST kI).before a0 Z = true)
    {x b : Addr} {A : Cell} {z : Int32} {v0 c0 : Value} (E : RoadKit.Exa Z h x ST) (V : RoadKit.Fld Z h x ST "value" "[B" v0) (C : RoadKit.Fld Z h x ST "coder" "B" c0) (K : RoadKit.Arr Z h b A .char) (hty : Typed .char A) (S : RoadKit.Sta Z h ST "COMPACT_STRINGS" "Z" (.int z)) (hz : ¬ z = 0)
    (l0 : 0 < A.slots.size) (l2 : A.slots.size ≤ 536870912) (hp : ∀ i, i < A.slots.size → ¬ 255 < cv A i) (hfr : 4 ≤ R.frames) (hlo : W + 65 ≤ R.locals) :
    Back l R p e below s args New1.yN len W (fun P a => a = #[.ref x, .ref b] ∧ P.U.heap = h ∧ P.cells + 1 ≤ R.cells ∧ P.slots + A.slots.size ≤ R.slots)
      (fun P _ v B => ∃ L, Q Z x A h v B.U.heap L ∧ B.locs = P.locs ++ L ∧ B.cells = P.cells + 1 ∧ B.slots = P.slots + A.slots.size) := by
  intro m meth c P g ig mk a X hg hsize hdg hW hn hp'
  obtain ⟨rfl, rfl, r1, r2⟩ := hp'
  have al : Z.vm.Alike P.U.vm := hZ.alike.trans X.warmed.alike
  obtain ⟨D, cfV, kV, iV, fV, hD, gV, stV, knV, obV, asV, slV⟩ := id V
  obtain ⟨D', cfC, kC, iC, fC, hD', gC, stC, -, -, asC, slC⟩ := id C
  cases hD.symm.trans hD'
  obtain ⟨D2, kD, e1, e2, e3, e4, e5⟩ := id E
  cases hD.symm.trans e1
  obtain ⟨c2, k2, i1, i2, i3, -⟩ := Cond.instantiable_spec wi
  cases e2.symm.trans i1
  cases e3.symm.trans i2
  obtain ⟨kU, u1, u2⟩ := al.2.2 _ _ e3
  have hB : Blank ST x D P.U := ⟨hD, ⟨knV, fun q hq => by rw [hq] at obV; cases obV⟩, by rw [al.findClass]; exact e2, kU, u1, by rw [u2]; exact i3, by rw [u2]; exact e5 i3⟩
  have F1 : Found ST "value" "[B" fV P.U := ⟨SBG.found_only al ⟨cfV, kV, iV, gV⟩, stV⟩
  have F2 : Found ST "coder" "B" fC P.U := ⟨SBG.found_only al ⟨cfC, kC, iC, gC⟩, stC⟩
  have hA : Ch b A P.U := ⟨⟨K.1, State.isArrayOf_alike al K.2.1, K.2.2, by omega⟩, hty⟩
  have hS : StaticIs P.U ST "COMPACT_STRINGS" "Z" (.int z) := by
    obtain ⟨cfS, iS, kS, fS, st, cS, t1, t2, t3, t4, t5, t6, t7⟩ := S
    exact StaticIs.there (s := { Z with heap := P.U.heap }) ⟨cfS, iS, kS, fS, st, cS, t1, t2, t3, t4, t5, (fun q => by rw [q] at t6; cases t6), t7⟩ al rfl
  obtain ⟨v, B, X', ⟨⟨hv, E', V', q1, q2, q3, q4, q5, q6, q7, q8, q9, q10, q11⟩, hl, hc, hs⟩, st⟩ := New1.pays x D fV fC b A z (tab_of (moved hZ hw)) hfr hlo m meth c P g ig mk _ X hg hsize hdg hW hn ⟨r1, r2, rfl, hB, F1, F2, hA, hS, hz, l0, l2, hp⟩
  have al' : Z.vm.Alike B.U.vm := hZ.alike.trans X'.warmed.alike
  have hsz : E'.slots.size = D.slots.size := by
    obtain ⟨-, -, -, kB, w1, w2, w3⟩ := q1
    obtain ⟨kB', y1, y2⟩ := al'.2.2 _ _ e3
    rw [q2.2.1] at w1
    cases w1.symm.trans y1
    rw [w3, e5 i3, y2]
  refine ⟨v, B, X', ⟨_, ⟨hv, ?_, ⟨by omega, fun y cy hy hn' => q10 y cy (by simpa using hn') hy, fun y cy hy => ?_⟩, q11, ⟨E', _, q1.1, by rw [q2.2.1]; exact e2, by rw [q2.2.1]; exact e3, by rw [q2.1]; exact obV, fun _ => by rw [hsz]; exact e5 i3⟩,
    ⟨E', cfV, kV, iV, fV, q1.1, gV, stV, by rw [q2.1]; exact knV, by rw [q2.1]; exact obV, by rw [q2.2.1]; exact asV, q3⟩, ⟨E', cfC, kC, iC, fC, q1.1, gC, stC, by rw [q2.1]; exact knV, by rw [q2.1]; exact obV, by rw [q2.2.1]; exact asC, q4⟩,
    ⟨V', ⟨q5.1, State.isArrayOf_alike al'.symm q5.2.1, q5.2.2.1⟩, q6, by rw [← al'.findClass]; exact q7, q8, fun j hj => by have := q9 j hj; rwa [Nat.zero_add] at this⟩, fun O n d w F n1 n2 => ?_⟩, hl, hc, hs⟩, st⟩
  · intro y hy
    simp only [List.mem_cons, List.not_mem_nil, or_false] at hy
    rcases hy with rfl | rfl <;> rfl
  · by_cases q : y = x
    · subst q
      cases hD.symm.trans hy
      exact ⟨E', q1.1, q2.2.1, q2.1, hsz⟩
    · exact ⟨cy, q10 y cy q hy, rfl, rfl, rfl⟩
  · obtain ⟨D3, cf, k, i, f, g1, g2, g3, g4, g5, g6, g7⟩ := F
    cases hD.symm.trans g1
    simp only [RoadKit.slotOf, g2, gV, gC, Option.map_some, Option.getD_some] at n1 n2
    exact ⟨E', cf, k, i, f, q1.1, g2, g3, by rw [q2.1]; exact g4, by rw [q2.1]; exact g5, by rw [q2.2.1]; exact g6, by rw [q2.2.2 f.slot (by simp [n1, n2])]; exact g7⟩
end StrChars.Road
namespace StrChars.Road
open Jvm Sem ClassFile Op Lib Jvm.Stand Jvm.Free Jvm.Free.XT
/-- WHAT COMES BACK, the byte[] as a list of values -/
def QA (Z : State) (x : Addr) (zn : Int32) (cs : List Int32) (h : Heap) (v : Option Value) (h' : Heap) (L : List Loc) : Prop := v = none ∧ (∀ y ∈ L, y.base = x) ∧ RoadKit.Keep h h' [x] ∧ h'.size = h.size + 1 ∧ RoadKit.Exa Z h' x ST ∧ RoadKit.Fld Z h' x ST "value" "[B" (.ref h.size) ∧ RoadKit.Fld Z h' x ST "coder" "B" (.int 0) ∧
  (∃ kb, Z.vm.findClass "[B" = some kb ∧ RoadKit.Arv Z h' h.size kb .byte zn (cs.map fun c => .int (lo8 c)) (.int 0)) ∧
  ∀ (O n d : String) (w : Value), RoadKit.Fld Z h x O n d w → RoadKit.slotOf Z O n d ≠ RoadKit.slotOf Z ST "value" "[B" → RoadKit.slotOf Z O n d ≠ RoadKit.slotOf Z ST "coder" "B" → RoadKit.Fld Z h' x O n d w
/-- **new String(chars) AT A CALL, THE ARRAYS AS LISTS**: the char[] at b holds cs, not empty, no char above 255 -/
theorem backArv {p : Program} {l : Launch} {e : Env} {R : Room} {s : State} {args : Array Value} {below : List Frame} {len W : Nat} {Z : State} {a0 : Array Value} {h : Heap} (hZ : Z.Warmed39 s.vm) (hw : ∀ d ∈ words, d.before a0 Z = true) {kI : Nat} (wi : (Jvm.Cond.instantiable ST kI).before a0 Z = true)
    {x b : Addr} {k : ClassId} {zn z : Int32} {cs : List Int32} {dv v0 c0 : Value} (E : RoadKit.Exa Z h x ST) (V : RoadKit.Fld Z h x ST "value" "[B" v0) (C : RoadKit.Fld Z h x ST "coder" "B" c0) (K : RoadKit.Arv Z h b k .char zn (cs.map Value.int) dv) (S : RoadKit.Sta Z h ST "COMPACT_STRINGS" "Z" (.int z)) (hz : ¬ z = 0)
    (hlen : zn.toNatClampNeg = cs.length) (h0 : 0 < cs.length) (hbig : cs.length ≤ 536870912) (hall : ∀ c ∈ cs, ¬ 255 < c) (hfr : 4 ≤ R.frames) (hlo : W + 65 ≤ R.locals) :
    Back l R p e below s args New1.yN len W (fun P a => a = #[.ref x, .ref b] ∧ P.U.heap = h ∧ P.cells + 1 ≤ R.cells ∧ P.slots + cs.length ≤ R.slots)
      (fun P _ v B => ∃ L, QA Z x zn cs h v B.U.heap L ∧ B.locs = P.locs ++ L ∧ B.cells = P.cells + 1 ∧ B.slots = P.slots + cs.length) := by
  obtain ⟨A, K1, K2, K3, K4, K5, K6⟩ := K
  have e : A.slots.size = cs.length := K3.trans hlen
  have hat : ∀ (i : Nat) (hi : i < cs.length), A.slots[i]? = some (.int cs[i]) := fun i hi => by rw [K5 i (by omega)]; simp [List.getD_eq_getElem?_getD, hi]
  have hcv : ∀ (i : Nat) (hi : i < cs.length), cv A i = cs[i] := fun i hi => by unfold cv; rw [hat i hi]
  have hty : Typed .char A := fun i v hv => by
    have hi : i < A.slots.size := (Array.getElem?_eq_some_iff.mp hv).1
    have q := K5 i hi
    rw [hv] at q
    rw [Option.some.inj q]
    exact K6 i hi
  refine Back.mono (back hZ hw wi E V C K1 hty S hz (by omega) (by omega) (fun i hi => by rw [hcv i (by omega)]; exact hall _ (List.getElem_mem _)) hfr hlo) (fun P a hp => ⟨hp.1, hp.2.1, hp.2.2.1, by rw [e]; exact hp.2.2.2⟩) (fun P a v B hp hq => ?_)
  obtain ⟨L, ⟨q1, q2, q3, q4, q5, q6, q7, ⟨V', v1, v2, v3, v4, v5⟩, q9⟩, hl, hc, hs⟩ := hq
  refine ⟨L, ⟨q1, q2, q3, q4, q5, q6, q7, ⟨V'.cls, v3, V', v1, rfl, by rw [v4, e, hlen], K4, fun i hi => ?_, fun i hi => ?_⟩, q9⟩, hl, hc, by rw [hs, e]⟩
  · have hi' : i < cs.length := by omega
    rw [v5 i (by omega), hcv i hi']; simp [List.getD_eq_getElem?_getD, hi']
  · have hi' : i < cs.length := by omega
    simp only [List.getD_eq_getElem?_getD, List.getElem?_map, List.getElem?_eq_getElem hi', Option.map_some, Option.getD_some]
    exact fits_lo8 _
end StrChars.Road
namespace StrChars.Road
open Jvm Sem ClassFile Op Lib Jvm.Stand Jvm.Free Jvm.Free.XT
/-- WHAT COMES BACK, in the writer's own shape -/
def QV (Z : State) (x : Addr) (N : Int32) (bs : List Int32) (h : Heap) (n0 : Nat) (v : Option Value) (h' : Heap) (L : List Loc) : Prop := v = none ∧ RoadKit.Fr n0 L ∧ RoadKit.Keep h h' [x] ∧ RoadKit.Exa Z h' x ST ∧ RoadKit.Fld Z h' x ST "coder" "B" (.int 0) ∧
  ∃ (t : Addr) (kb : ClassId), n0 ≤ t ∧ h.size ≤ t ∧ ¬ t = x ∧ RoadKit.Fld Z h' x ST "value" "[B" (.ref t) ∧ RoadKit.Arv Z h' t kb .byte N (bs.map Value.int) (.int 0)
/-- **new String(chars) AT A CALL, FOR THE WRITER**: a char[] of n known ints, each 0 to 255 -/
theorem backV {p : Program} {l : Launch} {e : Env} {R : Room} {s : State} {args : Array Value} {below : List Frame} {len W : Nat} {Z : State} {a0 : Array Value} {h : Heap} (hZ : Z.Warmed39 s.vm) (hw : ∀ d ∈ words, d.before a0 Z = true) {kI : Nat} (wi : (Jvm.Cond.instantiable ST kI).before a0 Z = true)
    {x b : Addr} {kC : ClassId} {cs bs : List Int32} {d v0 c0 : Value} {z N : Int32} {n n0 : Nat} (hx0 : n0 ≤ x) (hh0 : n0 ≤ h.size) (E : RoadKit.Exa Z h x ST) (V : RoadKit.Fld Z h x ST "value" "[B" v0) (C : RoadKit.Fld Z h x ST "coder" "B" c0) (K : RoadKit.Arv Z h b kC .char N (cs.map Value.int) d) (S : RoadKit.Sta Z h ST "COMPACT_STRINGS" "Z" (.int z)) (hz : ¬ z = 0)
    (hn : cs.length = n) (hN : N = Int32.ofNat n) (l0 : 0 < n) (l2 : n ≤ 4000) (hp : ∀ c ∈ cs, ¬ c < 0 ∧ ¬ (255 : Int32) < c) (hb : bs = cs.map (fun c => c.toInt8.toInt32)) (hfr : 4 ≤ R.frames) (hlo : W + 65 ≤ R.locals) :
    Back l R p e below s args (⟨"java/lang/String", "<init>", "([C)V"⟩ : MethodName) len W (fun P a => a = #[.ref x, .ref b] ∧ P.U.heap = h ∧ P.cells + 1 ≤ R.cells ∧ P.slots + n ≤ R.slots)
      (fun P _ v B => ∃ L, QV Z x N bs h n0 v B.U.heap L ∧ B.locs = P.locs ++ L ∧ B.cells = P.cells + 1 ∧ B.slots = P.slots + n) := by
  subst hn hN hb
  refine Back.mono (backArv hZ hw wi E V C K S hz (n32 (by omega)) l0 (by omega) (fun c hc => (hp c hc).2) hfr hlo) (fun P a hp => hp) (fun P a v B hp hq => ?_)
  obtain ⟨L, ⟨q1, q2, q3, q4, q5, q6, q7, ⟨kb, v1, v2⟩, q9⟩, hl, hc, hs⟩ := hq
  exact ⟨L, ⟨q1, fun y hy => by rw [q2 y hy]; exact hx0, q3, q5, q7, h.size, kb, hh0, Nat.le_refl _, Nat.ne_of_gt E.lt, q6, by rw [List.map_map]; exact v2⟩, hl, hc, hs⟩
end StrChars.Road
namespace StrChars
open Jvm Sem ClassFile Op Lib Jvm.Stand Jvm.Free.XT Jvm.Free.ALB Jvm.Free.JM Jvm.Free
open Jvm.Lib.Cold (StaticIs)
def hi8 (x : Int32) : Int32 := lo8 (x >>> ((8 : Int32) &&& 31))
/-- what StringUTF16.getChar makes of two bytes -/
def pairCh (u v : Int32) : Int32 := (((u &&& 255) <<< ((0 : Int32) &&& 31)) ||| ((v &&& 255) <<< ((8 : Int32) &&& 31))).toUInt32.toUInt16.toUInt32.toInt32
theorem shr0 (c : Int32) : c >>> ((0 : Int32) &&& 31) = c := by
  have e : ((0 : Int32) &&& 31) = 0 := by decide
  rw [e]
  apply Int32.toBitVec_inj.mp
  rw [Int32.toBitVec_shiftRight]
  have e1 : ((0 : Int32).toBitVec.smod 32) = 0#32 := by decide
  rw [e1, BitVec.sshiftRight_eq']
  exact BitVec.sshiftRight_zero
theorem lo8_and (x : Int32) : (lo8 x &&& 255).toBitVec.toNat = x.toBitVec.toNat % 256 := by
  have h : (lo8 x).toBitVec = (x.toBitVec.signExtend 8).signExtend 32 := by rw [lo8, Int8.toBitVec_toInt32, Int32.toBitVec_toInt8]
  rw [Int32.toBitVec_and, BitVec.toNat_and, h]
  have e : ((x.toBitVec.signExtend 8).signExtend 32).toNat % 256 = x.toBitVec.toNat % 256 := by
    rw [BitVec.toNat_signExtend]
    have hlt := x.toBitVec.isLt
    simp only [BitVec.toNat_setWidth, BitVec.toNat_signExtend]
    split <;> split <;> omega
  rw [← e]
  exact Nat.and_two_pow_sub_one_eq_mod _ 8
theorem pair_says {c : Int32} (h0 : ¬ c < 0) (h1 : ¬ 65535 < c) : pairCh (lo8 c) (hi8 c) = c := by
  rw [Int32.lt_iff_toInt_lt] at h0 h1
  have e0 : (0 : Int32).toInt = 0 := rfl
  have e1 : (65535 : Int32).toInt = 65535 := rfl
  have hc : c.toInt = c.toBitVec.toNat := by
    have := c.toBitVec.isLt
    have e : c.toInt = c.toBitVec.toInt := rfl
    rw [e] at h0 h1
    rw [e]
    rw [BitVec.toInt_eq_toNat_cond] at h0 h1 ⊢
    split at h0 <;> split <;> omega
  have hn : c.toBitVec.toNat < 65536 := by omega
  have a1 := lo8_and c
  have a2 : (hi8 c &&& 255).toBitVec.toNat = c.toBitVec.toNat / 256 := by
    rw [hi8, lo8_and]
    have e : ((8 : Int32) &&& 31) = 8 := by decide
    rw [e, Int32.toBitVec_shiftRight]
    have e2 : ((8 : Int32).toBitVec.smod 32) = 8#32 := by decide
    rw [e2, BitVec.sshiftRight_eq', BitVec.toNat_sshiftRight_of_msb_false (by rw [BitVec.msb_eq_false_iff_two_mul_lt]; omega)]
    show c.toBitVec.toNat >>> 8 % 256 = _
    rw [Nat.shiftRight_eq_div_pow]
    omega
  unfold pairCh
  apply Int32.toBitVec_inj.mp
  apply BitVec.eq_of_toNat_eq
  have f0 : ((0 : Int32) &&& 31) = 0 := by decide
  have f8 : ((8 : Int32) &&& 31) = 8 := by decide
  rw [f0, f8]
  have g : (((lo8 c &&& 255) <<< (0 : Int32)) ||| ((hi8 c &&& 255) <<< (8 : Int32))).toBitVec.toNat = c.toBitVec.toNat := by
    rw [Int32.toBitVec_or, Int32.toBitVec_shiftLeft, Int32.toBitVec_shiftLeft]
    have s0 : ((0 : Int32).toBitVec.smod 32) = 0#32 := by decide
    have s8 : ((8 : Int32).toBitVec.smod 32) = 8#32 := by decide
    rw [s0, s8, BitVec.toNat_or]
    simp only [BitVec.shiftLeft_eq', BitVec.toNat_shiftLeft, a1, a2]
    show (c.toBitVec.toNat % 256) <<< 0 % 2 ^ 32 ||| (c.toBitVec.toNat / 256) <<< 8 % 2 ^ 32 = _
    rw [Nat.shiftLeft_zero, Nat.mod_eq_of_lt (show c.toBitVec.toNat % 256 < 2 ^ 32 by omega), Nat.mod_eq_of_lt (show (c.toBitVec.toNat / 256) <<< 8 < 2 ^ 32 by rw [Nat.shiftLeft_eq]; omega), Nat.or_comm, ← Nat.shiftLeft_add_eq_or_of_lt (by omega), Nat.shiftLeft_eq]
    omega
  show BitVec.toNat (((((lo8 c &&& 255) <<< (0 : Int32)) ||| ((hi8 c &&& 255) <<< (8 : Int32))).toBitVec.setWidth 16).setWidth 32) = _
  rw [BitVec.toNat_setWidth, BitVec.toNat_setWidth, g]
  omega
end StrChars
namespace StrChars
open Jvm Sem ClassFile Op Lib Jvm.Stand Jvm.Free.XT Jvm.Free.ALB Jvm.Free.JM Jvm.Free
open Jvm.Lib.Cold (StaticIs)
theorem shr1 {n : Nat} (h : 2 * n < 2 ^ 31) : Int32.ofNat (2 * n) >>> ((1 : Int32) &&& 31) = Int32.ofNat n := by
  have e : ((1 : Int32) &&& 31) = 1 := by decide
  rw [e]
  apply Int32.toBitVec_inj.mp
  rw [Int32.toBitVec_shiftRight]
  have e1 : ((1 : Int32).toBitVec.smod 32) = 1#32 := by decide
  have hm : (BitVec.ofNat 32 (2 * n)).toNat = 2 * n := by rw [BitVec.toNat_ofNat, Nat.mod_eq_of_lt (by omega)]
  rw [e1, BitVec.sshiftRight_eq']
  apply BitVec.eq_of_toNat_eq
  show ((BitVec.ofNat 32 (2 * n)).sshiftRight 1).toNat = (BitVec.ofNat 32 n).toNat
  rw [BitVec.toNat_sshiftRight_of_msb_false (by rw [BitVec.msb_eq_false_iff_two_mul_lt, hm]; omega), hm, BitVec.toNat_ofNat, Nat.shiftRight_eq_div_pow]
  omega
/-- charAt's cast of a byte read back -/
def chr8 (u : Int32) : Int32 := (u &&& 255).toUInt32.toUInt16.toUInt32.toInt32
theorem chr8_lo8 {c : Int32} (h0 : ¬ c < 0) (h1 : ¬ 255 < c) : chr8 (lo8 c) = c := by
  have t : ∀ k : Fin 256, (Int32.ofNat k.val).toUInt32.toUInt16.toUInt32.toInt32 = Int32.ofNat k.val := by decide +kernel
  unfold chr8
  rw [lo8_mask h0 h1]
  rw [Int32.lt_iff_toInt_lt] at h0 h1
  have e0 : (0 : Int32).toInt = 0 := rfl
  have e1 : (255 : Int32).toInt = 255 := rfl
  obtain ⟨k, hk⟩ : ∃ k : Nat, c.toInt = k := ⟨c.toInt.toNat, by omega⟩
  have hx : c = Int32.ofNat k := Int32.toInt_inj.mp (by rw [hk, Int32.toInt_ofNat_small (by omega)])
  rw [hx]
  exact t ⟨k, by omega⟩
theorem narrow_ch {c : Int32} (h0 : ¬ c < 0) (h1 : ¬ 65535 < c) : narrow .char (.int c) = .int c := by
  have q : narrow .char (.int (pairCh (lo8 c) (hi8 c))) = .int (pairCh (lo8 c) (hi8 c)) := narrow_c _
  rwa [pair_says h0 h1] at q
/-- the array's cell V codes the n chars f 0 .. f (n - 1) by the coder cd, as the JDK does: coder 1 just where some char is above 255 -/
def Cod (cd : Int32) (n : Nat) (f : Nat → Int32) (V : Cell) : Prop := (cd = 0 ∧ V.slots.size = n ∧ ∀ j, j < n → V.slots[j]? = some (.int (lo8 (f j))) ∧ ¬ 255 < f j) ∨ (cd = 1 ∧ V.slots.size = 2 * n ∧ (∀ j, j < n → V.slots[2 * j]? = some (.int (lo8 (f j))) ∧ V.slots[2 * j + 1]? = some (.int (hi8 (f j)))) ∧ ∃ j, j < n ∧ 255 < f j)
theorem Cod.cd {cd : Int32} {n : Nat} {f : Nat → Int32} {V : Cell} (h : Cod cd n f V) : cd = 0 ∨ cd = 1 := h.imp (fun q => q.1) fun q => q.1
theorem Cod.len {cd : Int32} {n : Nat} {f : Nat → Int32} {V : Cell} (h : Cod cd n f V) (hs : V.slots.size < 2 ^ 31) : Int32.ofNat V.slots.size >>> (cd &&& 31) = Int32.ofNat n := by
  rcases h with ⟨rfl, h, -⟩ | ⟨rfl, h, -⟩
  · rw [shr0, h]
  · rw [h, shr1 (by omega)]
/-- **x is a String of the n chars f 0 .. f (n - 1)**, Latin-1 or UTF-16; its array at t has the cell V -/
def Txt (x t : Addr) (V : Cell) (cd : Int32) (n : Nat) (f : Nat → Int32) (U : State) : Prop := Exact "java/lang/String" x U ∧ Has x "java/lang/String" "value" "[B" (.ref t) U ∧ Has x "java/lang/String" "coder" "B" (.int cd) U ∧ XT.Arr .byte t V U ∧ Cod cd n f V ∧ ∀ j, j < n → ¬ f j < 0 ∧ ¬ 65535 < f j
theorem Txt.mv {x t : Addr} {V : Cell} {cd : Int32} {n : Nat} {f : Nat → Int32} {U U' : State} (h : Txt x t V cd n f U) (hal : U.vm.Alike U'.vm) (hh : U'.heap = U.heap) : Txt x t V cd n f U' := ⟨h.1.mv hal hh, h.2.1.mv hal hh, h.2.2.1.mv hal hh, h.2.2.2.1.mv hal hh, h.2.2.2.2⟩
namespace Cdr
def yN : MethodName := ⟨"java/lang/String", "coder", "()B"⟩
abbrev yB : ByteArray := jdk_42_method_152_code
theorem d0 : decode yB 0 = .ok (.getstatic 38, 3) := by decide +kernel
theorem d3 : decode yB 3 = .ok (.ifCond (.eq) 10, 3) := by decide +kernel
theorem d6 : decode yB 6 = .ok (.aload_n 0, 1) := by decide +kernel
theorem d7 : decode yB 7 = .ok (.getfield 15, 3) := by decide +kernel
theorem d10 : decode yB 10 = .ok (.goto 4, 3) := by decide +kernel
theorem d14 : decode yB 14 = .ok (.ireturn, 1) := by decide +kernel
def site : List Cond := [.fieldLink "java/lang/String" 38 "java/lang/String" "COMPACT_STRINGS" "Z", .fieldLink "java/lang/String" 15 "java/lang/String" "coder" "B"]
def tab : Cond := tabOf yN yB 1 (some .byte) site
def P (x : Addr) (cd z : Int32) (args : Array Value) (s : State) : Prop := args = #[.ref x] ∧ Has x "java/lang/String" "coder" "B" (.int cd) s ∧ (cd = 0 ∨ cd = 1) ∧ StaticIs s "java/lang/String" "COMPACT_STRINGS" "Z" (.int z) ∧ ¬ z = 0
def E (cd : Int32) (r : Option Value) (s u : State) : Prop := XT.PureE (some (.int cd)) r s u
theorem law (l : Launch) (x : Addr) (cd z : Int32) : Law l yN 1 0 0 0 yB 1 (some .byte) site (P x cd z) (E cd) [] 0 0 := by
  refine Law.of_walk (plainFor_of_name (by decide +kernel)) (by decide +kernel) (by decide +kernel) (by decide) (fun _ _ h => by rw [h.1]; rfl) (fun _ U U' hal hh h => ⟨h.1, h.2.1.mv hal hh, h.2.2.1, h.2.2.2.1.there hal hh, h.2.2.2.2⟩) (fun r U U' V V' h1 hal h2 h => XT.PureE.mv r U U' V V' h1 hal h2 h) ?_
  intro p e s m args below meth c s₁ X0 hexec hbytes hml hret hlk hnm hown hh0 W hP
  obtain ⟨rfl, hx, hc, s1, hz⟩ := hP
  have c1 : Steps p.tables e below (s₁.setTop (entryFrame m #[.ref x] 1)) (s₁.setTop (mkF m 0 #[.val (.ref x)] [])) := entry rfl
  obtain ⟨T2, X2, q2, st2⟩ := X0.sget hexec hown (wk W (.fieldLink "java/lang/String" 38 "java/lang/String" "COMPACT_STRINGS" "Z")) s1 (fun _ _ h => by rw [hh0]; exact h) (g := (mkF m 0 #[.val (.ref x)] [])) rfl (hb hbytes d0)
  have hh2 := q2.trans hh0
  have c3 : Steps p.tables e below (s₁.setTop (entryFrame m #[.ref x] 1)) (T2.setTop (mkF m 7 #[.val (.ref x)] [.ref x])) := (c1.trans (st2 _ (Steps.refl _))).trans (by
    refine XS.ifNo X2.here hexec rfl (hb hbytes d3) rfl (i0_eq_f hz) ?_
    refine XS.aloadN X2.here hexec rfl (hb hbytes d6) rfl rfl ?_
    exact Steps.refl _)
  obtain ⟨T4, X4, q4, st4⟩ := X2.hget hexec hown (wk W (.fieldLink "java/lang/String" 15 "java/lang/String" "coder" "B")) (hx.mv X2.warmed.alike hh2) (g := (mkF m 7 #[.val (.ref x)] [.ref x])) rfl (rest := []) rfl (hb hbytes d7)
  have c5 : Steps p.tables e below (s₁.setTop (entryFrame m #[.ref x] 1)) (T4.setTop (mkF m 14 #[.val (.ref x)] [.int cd])) := (c3.trans (st4 _ (Steps.refl _))).trans (by
    refine XS.goto X4.here hexec rfl (pc0 := 10) rfl (hb hbytes d10) (by decide) rfl ?_
    exact Steps.refl _)
  exact ⟨T4, some (.int cd), _, _, _, X4, rfl, rfl, rfl, (fun h => by cases h), ⟨rfl, q4.trans hh2⟩, fun fs hl => c5.trans (X4.ireturnOut hexec hret (by rcases hc with rfl | rfl <;> rfl) (Or.inr (Or.inr (Or.inl rfl))) (hb hbytes d14) hl)⟩
end Cdr
namespace Len
def yN : MethodName := ⟨"java/lang/String", "length", "()I"⟩
abbrev yB : ByteArray := jdk_42_method_54_code
theorem d0 : decode yB 0 = .ok (.aload_n 0, 1) := by decide +kernel
theorem d1 : decode yB 1 = .ok (.getfield 9, 3) := by decide +kernel
theorem d4 : decode yB 4 = .ok (.arraylength, 1) := by decide +kernel
theorem d5 : decode yB 5 = .ok (.aload_n 0, 1) := by decide +kernel
theorem d6 : decode yB 6 = .ok (.invokevirtual 335, 3) := by decide +kernel
theorem d9 : decode yB 9 = .ok (.ishr, 1) := by decide +kernel
theorem d10 : decode yB 10 = .ok (.ireturn, 1) := by decide +kernel
def site : List Cond := [.fieldLink "java/lang/String" 9 "java/lang/String" "value" "[B", Cdr.tab] ++ virtW "java/lang/String" 335 "java/lang/String" Cdr.yN Cdr.yN
def tab : Cond := tabOf yN yB 1 (some .int) site
def P (x t : Addr) (V : Cell) (cd : Int32) (n : Nat) (f : Nat → Int32) (z : Int32) (args : Array Value) (s : State) : Prop := args = #[.ref x] ∧ Txt x t V cd n f s ∧ StaticIs s "java/lang/String" "COMPACT_STRINGS" "Z" (.int z) ∧ ¬ z = 0
def E (n : Nat) (r : Option Value) (s u : State) : Prop := XT.PureE (some (.int (Int32.ofNat n))) r s u
/-- length() of a String of n chars, in either coding -/
theorem law (l : Launch) (x t : Addr) (V : Cell) (cd : Int32) (n : Nat) (f : Nat → Int32) (z : Int32) : Law l yN 1 0 1 13 yB 1 (some .int) site (P x t V cd n f z) (E n) [] 0 0 := by
  refine Law.of_walk (plainFor_of_name (by decide +kernel)) (by decide +kernel) (by decide +kernel) (by decide) (fun _ _ h => by rw [h.1]; rfl) (fun _ U U' hal hh h => ⟨h.1, h.2.1.mv hal hh, h.2.2.1.there hal hh, h.2.2.2⟩) (fun r U U' V V' h1 hal h2 h => XT.PureE.mv r U U' V V' h1 hal h2 h) ?_
  intro p e s m args below meth c s₁ X0 hexec hbytes hml hret hlk hnm hown hh0 W hP
  obtain ⟨rfl, hx, s1, hz⟩ := hP
  have v31 := hx.2.2.2.1.2.2.2
  have c1 : Steps p.tables e below (s₁.setTop (entryFrame m #[.ref x] 1)) (s₁.setTop (mkF m 1 #[.val (.ref x)] [.ref x])) := Steps.trans (entry rfl) (by
    show Steps p.tables e below (s₁.setTop (mkF m 0 #[.val (.ref x)] [])) _
    refine XS.aloadN X0.here hexec rfl (hb hbytes d0) rfl rfl ?_
    exact Steps.refl _)
  obtain ⟨T2, X2, q2, st2⟩ := X0.hget hexec hown (wk W (.fieldLink "java/lang/String" 9 "java/lang/String" "value" "[B")) (hx.mv X0.warmed.alike hh0).2.1 (g := (mkF m 1 #[.val (.ref x)] [.ref x])) rfl (rest := []) rfl (hb hbytes d1)
  have hh2 := q2.trans hh0
  have hx2 := hx.mv X2.warmed.alike hh2
  have c3 : Steps p.tables e below (s₁.setTop (entryFrame m #[.ref x] 1)) (T2.setTop (mkF m 6 #[.val (.ref x)] [.ref x, .int (Int32.ofNat V.slots.size)])) := (c1.trans (st2 _ (Steps.refl _))).trans (by
    refine X2.alen hexec hx2.2.2.2.1 rfl rfl (hb hbytes d4) ?_
    refine XS.aloadN X2.here hexec rfl (hb hbytes d5) rfl rfl ?_
    exact Steps.refl _)
  obtain ⟨v4, T4, X4, E4, g4⟩ := X2.callV hexec (Cdr.law l x cd z) hown (wks W (virtW "java/lang/String" 335 "java/lang/String" Cdr.yN Cdr.yN)) rfl (by decide) (wk W Cdr.tab) (W := 1) (Nat.le_of_ble_eq_true rfl) (Nat.le_of_ble_eq_true rfl) (Nat.le_refl _) (Nat.le_refl _) (hx2.1.fc X2.warmed.alike) hx2.1.is (g := (mkF m 6 #[.val (.ref x)] [.ref x, .int (Int32.ofNat V.slots.size)])) rfl (by rw [hml]; rfl) c3 (argsL := []) (rest := [.int (Int32.ofNat V.slots.size)]) rfl rfl (by show 2 * 0 + (1 + 0) ≤ _; decide) (hb hbytes d6) (⟨rfl, hx2.2.2.1, hx.2.2.2.2.1.cd, s1.there X2.warmed.alike hh2, hz⟩)
  obtain ⟨rfl, q4⟩ := E4
  have c5 : Steps p.tables e below (s₁.setTop (entryFrame m #[.ref x] 1)) (T4.setTop (mkF m 10 #[.val (.ref x)] [.int (Int32.ofNat V.slots.size >>> (cd &&& 31))])) := Steps.trans g4 (by
    refine ishr X4.here hexec rfl (hb hbytes d9) rfl ?_
    exact Steps.refl _)
  rw [hx.2.2.2.2.1.len v31] at c5
  exact ⟨T4, some (.int (Int32.ofNat n)), _, _, _, X4, rfl, rfl, rfl, (fun h => by cases h), ⟨rfl, q4.trans hh2⟩, fun fs hl => c5.trans (X4.ireturnOut hexec hret rfl (Or.inl rfl) (hb hbytes d10) hl)⟩
theorem pays {l : Launch} {R : Room} {p : Program} {e : Env} {below : List Frame} {s : State} {sargs : Array Value} {len W : Nat} (x t : Addr) (V : Cell) (cd : Int32) (n : Nat) (f : Nat → Int32) (z : Int32) (htab : tab.before sargs s = true) (hfr : 2 ≤ R.frames) (hlo : W + 25 ≤ R.locals) :
    Back l R p e below s sargs yN len W (fun A₁ a₁ => A₁.cells + 0 ≤ R.cells ∧ A₁.slots + 0 ≤ R.slots ∧ P x t V cd n f z a₁ A₁.U) (fun A₁ _ v₁ B₁ => E n v₁ A₁.U B₁.U ∧ B₁.locs = A₁.locs ++ [] ∧ B₁.cells = A₁.cells + 0 ∧ B₁.slots = A₁.slots + 0) :=
  (law l x t V cd n f z).pays htab hfr (by omega)
end Len
namespace IsL
def yN : MethodName := ⟨"java/lang/String", "isLatin1", "()Z"⟩
abbrev yB : ByteArray := jdk_42_method_154_code
theorem d0 : decode yB 0 = .ok (.getstatic 38, 3) := by decide +kernel
theorem d3 : decode yB 3 = .ok (.ifCond (.eq) 14, 3) := by decide +kernel
theorem d6 : decode yB 6 = .ok (.aload_n 0, 1) := by decide +kernel
theorem d7 : decode yB 7 = .ok (.getfield 15, 3) := by decide +kernel
theorem d10 : decode yB 10 = .ok (.ifCond (.ne) 7, 3) := by decide +kernel
theorem d13 : decode yB 13 = .ok (.iconst 1, 1) := by decide +kernel
theorem d14 : decode yB 14 = .ok (.goto 4, 3) := by decide +kernel
theorem d17 : decode yB 17 = .ok (.iconst 0, 1) := by decide +kernel
theorem d18 : decode yB 18 = .ok (.ireturn, 1) := by decide +kernel
def site : List Cond := [.fieldLink "java/lang/String" 38 "java/lang/String" "COMPACT_STRINGS" "Z", .fieldLink "java/lang/String" 15 "java/lang/String" "coder" "B"]
def tab : Cond := tabOf yN yB 1 (some .boolean) site
def P (x : Addr) (cd z : Int32) (args : Array Value) (s : State) : Prop := args = #[.ref x] ∧ Has x "java/lang/String" "coder" "B" (.int cd) s ∧ (cd = 0 ∨ cd = 1) ∧ StaticIs s "java/lang/String" "COMPACT_STRINGS" "Z" (.int z) ∧ ¬ z = 0
def E (cd : Int32) (r : Option Value) (s u : State) : Prop := XT.PureE (some (.int (1 - cd))) r s u
theorem law (l : Launch) (x : Addr) (cd z : Int32) : Law l yN 1 0 0 0 yB 1 (some .boolean) site (P x cd z) (E cd) [] 0 0 := by
  refine Law.of_walk (plainFor_of_name (by decide +kernel)) (by decide +kernel) (by decide +kernel) (by decide) (fun _ _ h => by rw [h.1]; rfl) (fun _ U U' hal hh h => ⟨h.1, h.2.1.mv hal hh, h.2.2.1, h.2.2.2.1.there hal hh, h.2.2.2.2⟩) (fun r U U' V V' h1 hal h2 h => XT.PureE.mv r U U' V V' h1 hal h2 h) ?_
  intro p e s m args below meth c s₁ X0 hexec hbytes hml hret hlk hnm hown hh0 W hP
  obtain ⟨rfl, hx, hc, s1, hz⟩ := hP
  have c1 : Steps p.tables e below (s₁.setTop (entryFrame m #[.ref x] 1)) (s₁.setTop (mkF m 0 #[.val (.ref x)] [])) := entry rfl
  obtain ⟨T2, X2, q2, st2⟩ := X0.sget hexec hown (wk W (.fieldLink "java/lang/String" 38 "java/lang/String" "COMPACT_STRINGS" "Z")) s1 (fun _ _ h => by rw [hh0]; exact h) (g := (mkF m 0 #[.val (.ref x)] [])) rfl (hb hbytes d0)
  have hh2 := q2.trans hh0
  have c3 : Steps p.tables e below (s₁.setTop (entryFrame m #[.ref x] 1)) (T2.setTop (mkF m 7 #[.val (.ref x)] [.ref x])) := (c1.trans (st2 _ (Steps.refl _))).trans (by
    refine XS.ifNo X2.here hexec rfl (hb hbytes d3) rfl (i0_eq_f hz) ?_
    refine XS.aloadN X2.here hexec rfl (hb hbytes d6) rfl rfl ?_
    exact Steps.refl _)
  obtain ⟨T4, X4, q4, st4⟩ := X2.hget hexec hown (wk W (.fieldLink "java/lang/String" 15 "java/lang/String" "coder" "B")) (hx.mv X2.warmed.alike hh2) (g := (mkF m 7 #[.val (.ref x)] [.ref x])) rfl (rest := []) rfl (hb hbytes d7)
  have c5 : Steps p.tables e below (s₁.setTop (entryFrame m #[.ref x] 1)) (T4.setTop (mkF m 10 #[.val (.ref x)] [.int cd])) := c3.trans (st4 _ (Steps.refl _))
  have c6 : Steps p.tables e below (s₁.setTop (entryFrame m #[.ref x] 1)) (T4.setTop (mkF m 18 #[.val (.ref x)] [.int (1 - cd)])) := by
    rcases hc with rfl | rfl
    · exact c5.trans (by
        refine XS.ifNo X4.here hexec rfl (hb hbytes d10) rfl (i0_ne_f rfl) ?_
        refine iconstV X4.here hexec rfl 1 (hb hbytes d13) (by decide) ?_
        refine XS.goto X4.here hexec rfl (pc0 := 14) rfl (hb hbytes d14) (by decide) rfl ?_
        exact Steps.refl _)
    · exact c5.trans (by
        refine XS.ifYes X4.here hexec rfl (pc0 := 10) rfl (hb hbytes d10) rfl (i0_ne_t (by decide)) (by decide) rfl ?_
        refine iconstV X4.here hexec rfl 0 (hb hbytes d17) (by decide) ?_
        exact Steps.refl _)
  exact ⟨T4, some (.int (1 - cd)), _, _, _, X4, rfl, rfl, rfl, (fun h => by cases h), ⟨rfl, q4.trans hh2⟩, fun fs hl => c6.trans (X4.ireturnOut hexec hret (by rcases hc with rfl | rfl <;> rfl) (Or.inr (Or.inl rfl)) (hb hbytes d18) hl)⟩
end IsL
namespace LChA
def yN : MethodName := ⟨"java/lang/StringLatin1", "charAt", "([BI)C"⟩
abbrev yB : ByteArray := jdk_43_method_2_code
theorem d0 : decode yB 0 = .ok (.iload_n 1, 1) := by decide +kernel
theorem d1 : decode yB 1 = .ok (.aload_n 0, 1) := by decide +kernel
theorem d2 : decode yB 2 = .ok (.arraylength, 1) := by decide +kernel
theorem d3 : decode yB 3 = .ok (.invokestatic 9, 3) := by decide +kernel
theorem d6 : decode yB 6 = .ok (.aload_n 0, 1) := by decide +kernel
theorem d7 : decode yB 7 = .ok (.iload_n 1, 1) := by decide +kernel
theorem d8 : decode yB 8 = .ok (.baload, 1) := by decide +kernel
theorem d9 : decode yB 9 = .ok (.sipush 255, 3) := by decide +kernel
theorem d12 : decode yB 12 = .ok (.iand, 1) := by decide +kernel
theorem d13 : decode yB 13 = .ok (.i2c, 1) := by decide +kernel
theorem d14 : decode yB 14 = .ok (.ireturn, 1) := by decide +kernel
def site : List Cond := [JO.Str_checkIndex.tab] ++ staticW "java/lang/StringLatin1" 9 JO.Str_checkIndex.yN
def tab : Cond := tabOf yN yB 2 (some .char) site
def P (t : Addr) (V : Cell) (i : Nat) (u : Int32) (fm : Value) (args : Array Value) (s : State) : Prop := args = #[.ref t, .int (Int32.ofNat i)] ∧ XT.Arr .byte t V s ∧ V.slots[i]? = some (.int u) ∧ (StaticIs s "jdk/internal/util/Preconditions" "SIOOBE_FORMATTER" "Ljava/util/function/BiFunction;" fm ∧ fm.isRef = true)
def E (u : Int32) (r : Option Value) (s w : State) : Prop := XT.PureE (some (.int (chr8 u))) r s w
theorem law (l : Launch) (t : Addr) (V : Cell) (i : Nat) (u : Int32) (fm : Value) : Law l yN 2 2 2 27 yB 2 (some .char) site (P t V i u fm) (E u) [] 0 0 := by
  refine Law.of_walk (plainFor_of_name (by decide +kernel)) (by decide +kernel) (by decide +kernel) (by decide) (fun _ _ h => by rw [h.1]; rfl) (fun _ U U' hal hh h => ⟨h.1, h.2.1.mv hal hh, h.2.2.1, h.2.2.2.1.there hal hh, h.2.2.2.2⟩) (fun r U U' V V' h1 hal h2 h => XT.PureE.mv r U U' V V' h1 hal h2 h) ?_
  intro p e s m args below meth c s₁ X0 hexec hbytes hml hret hlk hnm hown hh0 W hP
  obtain ⟨rfl, hV, hu, s1, rf⟩ := hP
  have v31 := hV.2.2.2
  have hi : i < V.slots.size := (Array.getElem?_eq_some_iff.mp hu).1
  have c1 : Steps p.tables e below (s₁.setTop (entryFrame m #[.ref t, .int (Int32.ofNat i)] 2)) (s₁.setTop (mkF m 0 #[.val (.ref t), .val (.int (Int32.ofNat i))] [])) := entry rfl
  have c2 : Steps p.tables e below (s₁.setTop (entryFrame m #[.ref t, .int (Int32.ofNat i)] 2)) (s₁.setTop (mkF m 3 #[.val (.ref t), .val (.int (Int32.ofNat i))] [.int (Int32.ofNat V.slots.size), .int (Int32.ofNat i)])) := c1.trans (by
    refine XS.iloadN X0.here hexec rfl (hb hbytes d0) rfl ?_
    refine XS.aloadN X0.here hexec rfl (hb hbytes d1) rfl rfl ?_
    refine X0.alen hexec (hV.mv X0.warmed.alike hh0) rfl rfl (hb hbytes d2) ?_
    exact Steps.refl _)
  obtain ⟨v3, T3, X3, E3, g3⟩ := X0.callS hexec (JO.Str_checkIndex.law l (Int32.ofNat i) (Int32.ofNat V.slots.size) fm) hown (wks W (staticW "java/lang/StringLatin1" 9 JO.Str_checkIndex.yN)) (wk W JO.Str_checkIndex.tab) (W := 0) (Nat.le_of_ble_eq_true rfl) (Nat.le_of_ble_eq_true rfl) (Nat.le_refl _) (Nat.le_refl _) (g := (mkF m 3 #[.val (.ref t), .val (.int (Int32.ofNat i))] [.int (Int32.ofNat V.slots.size), .int (Int32.ofNat i)])) rfl (by rw [hml]; rfl) c2 (argsL := [.int (Int32.ofNat i), .int (Int32.ofNat V.slots.size)]) (rest := []) rfl rfl (by show 2 * 0 + 0 ≤ _; decide) (hb hbytes d3) (⟨rfl, rf, s1.there X0.warmed.alike hh0, Int32.ofNat_not_neg (by omega), lt32 v31 hi⟩)
  obtain ⟨rfl, q3⟩ := E3
  have hh3 := q3.trans hh0
  have c4 : Steps p.tables e below (s₁.setTop (entryFrame m #[.ref t, .int (Int32.ofNat i)] 2)) (T3.setTop (mkF m 14 #[.val (.ref t), .val (.int (Int32.ofNat i))] [.int (chr8 u)])) := Steps.trans g3 (by
    refine XS.aloadN X3.here hexec rfl (hb hbytes d6) rfl rfl ?_
    refine XS.iloadN X3.here hexec rfl (hb hbytes d7) rfl ?_
    refine X3.aget hexec (hV.mv X3.warmed.alike hh3) rfl hu rfl rfl (hb hbytes d8) ?_
    refine sipushV X3.here hexec rfl 255 (hb hbytes d9) (by decide) ?_
    refine XS.iand X3.here hexec rfl (hb hbytes d12) rfl ?_
    refine i2c X3.here hexec rfl (hb hbytes d13) rfl ?_
    exact Steps.refl _)
  exact ⟨T3, some (.int (chr8 u)), _, _, _, X3, rfl, rfl, rfl, (fun h => by cases h), ⟨rfl, hh3⟩, fun fs hl => c4.trans (X3.ireturnOut hexec hret (narrow_c _) (Or.inr (Or.inr (Or.inr (Or.inl rfl)))) (hb hbytes d14) hl)⟩
end LChA
end StrChars
namespace StrChars.Road
open Jvm Sem ClassFile Op Lib Jvm.Stand Jvm.Free Jvm.Free.XT
open Jvm.Lib.Cold (StaticIs)
theorem consq {a : Array Value} {s : State} {c : Jvm.Cond} {L : List Jvm.Cond} (h0 : c.before a s = true) (h : ∀ w ∈ L, w.before a s = true) : ∀ w ∈ c :: L, w.before a s = true := fun w hw => (List.mem_cons.mp hw).elim (fun e => e ▸ h0) (h w)
/-- the words of String.length(), either coding -/
abbrev wordsLen : List Jvm.Cond := [.code Len.yN Len.yB 1 (some .int), .initialized ST, .fieldLink ST 9 ST "value" "[B", .fieldLink ST 38 ST "COMPACT_STRINGS" "Z", .fieldLink ST 15 ST "coder" "B", .code Cdr.yN Cdr.yB 1 (some .byte), .methodLink ST 335 Cdr.yN, .declares Cdr.yN, .selects ST Cdr.yN Cdr.yN, .instanceMethod Cdr.yN]
theorem tabLen_of {a : Array Value} {s : State} (h : ∀ w ∈ wordsLen, w.before a s = true) : Len.tab.before a s = true := by
  have hc : Cdr.tab.before a s = true := unparts (wk h (.code Cdr.yN Cdr.yB 1 (some .byte))) (wks h (.initialized Cdr.yN.cls :: Cdr.site))
  have q := consq hc h
  exact unparts (wk q (.code Len.yN Len.yB 1 (some .int))) (wks q (.initialized Len.yN.cls :: Len.site))
theorem movedLen {Z s : State} {a0 args : Array Value} (hZ : Z.Warmed39 s.vm) (hw : ∀ d ∈ wordsLen, d.before a0 Z = true) : ∀ d ∈ wordsLen, d.before args s = true := fun d hd => by
  have q := hw d hd
  have t : ∀ d ∈ wordsLen, d = .arrayClass .byte ∨ (d.onTables && d.keepsFace) = true := by decide +kernel
  rcases t d hd with rfl | t
  · exact RoadKit.mvA hZ q
  · exact RoadKit.mv hZ q t
/-- the bytes of the chars cs, low before high -/
def wideBytes : List Int32 → List Value
  | [] => []
  | c :: cs => .int (lo8 c) :: .int (hi8 c) :: wideBytes cs
theorem wide_lo (d : Value) : ∀ (cs : List Int32) (j : Nat), j < cs.length → (wideBytes cs).getD (2 * j) d = .int (lo8 (cs.getD j 0))
  | [], j, h => absurd h (Nat.not_lt_zero j)
  | c :: cs, 0, _ => rfl
  | c :: cs, j + 1, h => by
    have q := wide_lo d cs j (by simpa using h)
    rw [show 2 * (j + 1) = 2 * j + 1 + 1 from by omega]
    simpa [wideBytes] using q
theorem wide_hi (d : Value) : ∀ (cs : List Int32) (j : Nat), j < cs.length → (wideBytes cs).getD (2 * j + 1) d = .int (hi8 (cs.getD j 0))
  | [], j, h => absurd h (Nat.not_lt_zero j)
  | c :: cs, 0, _ => rfl
  | c :: cs, j + 1, h => by
    have q := wide_hi d cs j (by simpa using h)
    rw [show 2 * (j + 1) + 1 = 2 * j + 1 + 1 + 1 from by omega]
    simpa [wideBytes] using q
theorem low_at (d : Value) (cs : List Int32) (j : Nat) (h : j < cs.length) : (cs.map fun c => Value.int (lo8 c)).getD j d = .int (lo8 (cs.getD j 0)) := by
  simp [List.getD_eq_getElem?_getD, h]
/-- an array of N2 bytes vs codes the chars cs by the coder cd -/
def CodA (cs : List Int32) (cd N2 : Int32) (vs : List Value) : Prop := (cd = 0 ∧ N2 = Int32.ofNat cs.length ∧ vs = (cs.map fun c => Value.int (lo8 c)) ∧ ∀ c ∈ cs, ¬ 255 < c) ∨ (cd = 1 ∧ N2 = Int32.ofNat (2 * cs.length) ∧ vs = wideBytes cs ∧ ∃ c ∈ cs, 255 < c)
theorem CodA.cod {cs : List Int32} {cd N2 : Int32} {vs : List Value} {V : Cell} (h : CodA cs cd N2 vs) (hn : 2 * cs.length < 2 ^ 31) (hs : V.slots.size = N2.toNatClampNeg) (hv : RoadKit.Has V vs (.int 0)) : Cod cd cs.length (fun j => cs.getD j 0) V := by
  rcases h with ⟨rfl, rfl, rfl, h⟩ | ⟨rfl, rfl, rfl, c, hc, hw⟩
  · rw [n32 (by omega)] at hs
    exact Or.inl ⟨rfl, hs, fun j hj => ⟨by rw [hv j (by omega), low_at _ _ _ hj], by
      have e : cs.getD j 0 = cs[j] := by simp [List.getD_eq_getElem?_getD, hj]
      show ¬ 255 < cs.getD j 0
      rw [e]; exact h _ (List.getElem_mem _)⟩⟩
  · rw [n32 (by omega)] at hs
    obtain ⟨j, hj, rfl⟩ := List.getElem_of_mem hc
    exact Or.inr ⟨rfl, hs, fun j hj => ⟨by rw [hv _ (by omega), wide_lo _ _ _ hj], by rw [hv _ (by omega), wide_hi _ _ _ hj]⟩, j, hj, by
      have e : cs.getD j 0 = cs[j] := by simp [List.getD_eq_getElem?_getD, hj]
      show 255 < cs.getD j 0
      rw [e]; exact hw⟩
/-- an object of exactly java/lang/String, its two fields found: as the laws ask it -/
theorem strObj {Z U : State} {a0 : Array Value} {kI : Nat} (wi : (Jvm.Cond.instantiable ST kI).before a0 Z = true) (al : Z.vm.Alike U.vm) {x : Addr} {v0 c0 : Value} (E : RoadKit.Exa Z U.heap x ST) (V : RoadKit.Fld Z U.heap x ST "value" "[B" v0) (C : RoadKit.Fld Z U.heap x ST "coder" "B" c0) :
    ∃ (D : Cell) (fV fC : Field), Blank ST x D U ∧ Found ST "value" "[B" fV U ∧ Found ST "coder" "B" fC U ∧ D.slots[fV.slot]? = some v0 ∧ D.slots[fC.slot]? = some c0 ∧ RoadKit.slotOf Z ST "value" "[B" = fV.slot ∧ RoadKit.slotOf Z ST "coder" "B" = fC.slot := by
  obtain ⟨D, cfV, kV, iV, fV, hD, gV, stV, knV, obV, asV, slV⟩ := V
  obtain ⟨D', cfC, kC, iC, fC, hD', gC, stC, -, -, asC, slC⟩ := C
  cases hD.symm.trans hD'
  obtain ⟨D2, kD, e1, e2, e3, e4, e5⟩ := E
  cases hD.symm.trans e1
  obtain ⟨c2, k2, i1, i2, i3, -⟩ := Cond.instantiable_spec wi
  cases e2.symm.trans i1
  cases e3.symm.trans i2
  obtain ⟨kU, u1, u2⟩ := al.2.2 _ _ e3
  exact ⟨D, fV, fC, ⟨hD, ⟨knV, fun q hq => by rw [hq] at obV; cases obV⟩, by rw [al.findClass]; exact e2, kU, u1, by rw [u2]; exact i3, by rw [u2]; exact e5 i3⟩, ⟨SBG.found_only al ⟨cfV, kV, iV, gV⟩, stV⟩, ⟨SBG.found_only al ⟨cfC, kC, iC, gC⟩, stC⟩, slV, slC, by simp [RoadKit.slotOf, gV], by simp [RoadKit.slotOf, gC]⟩
theorem sta_is {Z U : State} (al : Z.vm.Alike U.vm) {C n d : String} {v : Value} (S : RoadKit.Sta Z U.heap C n d v) : StaticIs U C n d v := by
  obtain ⟨cfS, iS, kS, fS, st, cS, t1, t2, t3, t4, t5, t6, t7⟩ := S
  exact StaticIs.there (s := { Z with heap := U.heap }) ⟨cfS, iS, kS, fS, st, cS, t1, t2, t3, t4, t5, (fun q => by rw [q] at t6; cases t6), t7⟩ al rfl
/-- **length() OF SUCH A STRING** -/
theorem lenW {p : Program} {l : Launch} {e : Env} {R : Room} {s : State} {args : Array Value} {below : List Frame} {len W : Nat} {Z : State} {a0 : Array Value} {h : Heap} (hZ : Z.Warmed39 s.vm) (hw : ∀ d ∈ wordsLen, d.before a0 Z = true) {kI : Nat} (wi : (Jvm.Cond.instantiable ST kI).before a0 Z = true)
    {x t : Addr} {kb : ClassId} {cs : List Int32} {cd N2 z : Int32} {vs : List Value} (E : RoadKit.Exa Z h x ST) (V : RoadKit.Fld Z h x ST "value" "[B" (.ref t)) (C : RoadKit.Fld Z h x ST "coder" "B" (.int cd)) (K : RoadKit.Arv Z h t kb .byte N2 vs (.int 0)) (hc : CodA cs cd N2 vs) (hb : ∀ c ∈ cs, ¬ c < 0 ∧ ¬ (65535 : Int32) < c)
    (S : RoadKit.Sta Z h ST "COMPACT_STRINGS" "Z" (.int z)) (hz : ¬ z = 0) (l2 : cs.length ≤ 4000) (hfr : 2 ≤ R.frames) (hlo : W + 25 ≤ R.locals) :
    Back l R p e below s args (⟨"java/lang/String", "length", "()I"⟩ : MethodName) len W (fun P a => a = #[.ref x] ∧ P.U.heap = h ∧ P.cells + 0 ≤ R.cells ∧ P.slots + 0 ≤ R.slots)
      (fun P _ v B => ∃ L, (v = some (.int (Int32.ofNat cs.length)) ∧ L = [] ∧ B.U.heap = h) ∧ B.locs = P.locs ++ L ∧ B.cells = P.cells + 0 ∧ B.slots = P.slots + 0) := by
  obtain ⟨A, K1, K2, K3, K4, K5, K6⟩ := K
  have hcod := hc.cod (by omega) K3 K5
  intro m meth c P g ig mk a X hg hsize hdg hW hn hp'
  obtain ⟨rfl, rfl, r1, r2⟩ := hp'
  have al : Z.vm.Alike P.U.vm := hZ.alike.trans X.warmed.alike
  obtain ⟨D, fV, fC, hB, F1, F2, g1, g2, -, -⟩ := strObj wi al E V C
  have hx : Txt x t A cd cs.length (fun j => cs.getD j 0) P.U := ⟨⟨_, hB.2.2.1, D, hB.1, rfl, by cases q : D.vm <;> first | rfl | exact absurd q (hB.2.1.2 _)⟩, Has.of hB F1 g1, Has.of hB F2 g2, ⟨K1.1, State.isArrayOf_alike al K1.2.1, K1.2.2, by rcases hcod with ⟨-, q, -⟩ | ⟨-, q, -⟩ <;> omega⟩, hcod, fun j hj => by
    have e : cs.getD j 0 = cs[j] := by simp [List.getD_eq_getElem?_getD, hj]
    show ¬ cs.getD j 0 < 0 ∧ ¬ 65535 < cs.getD j 0
    rw [e]; exact hb _ (List.getElem_mem _)⟩
  obtain ⟨v, B, X', ⟨⟨hv, hh⟩, hl, hk, hs⟩, st⟩ := Len.pays x t A cd cs.length (fun j => cs.getD j 0) z (tabLen_of (movedLen hZ hw)) hfr hlo m meth c P g ig mk _ X hg hsize hdg hW hn ⟨r1, r2, rfl, hx, sta_is al S, hz⟩
  exact ⟨v, B, X', ⟨[], ⟨hv, rfl, hh⟩, hl, hk, hs⟩, st⟩
end StrChars.Road
namespace StrChars.Road
open Jvm Sem ClassFile Op Lib Jvm.Stand Jvm.Free Jvm.Free.XT
open Jvm.Lib.Cold (StaticIs)
/-- the road's facts of a String, as the laws ask it -/
theorem txt_of {Z U : State} {a0 : Array Value} {kI : Nat} (wi : (Jvm.Cond.instantiable ST kI).before a0 Z = true) (al : Z.vm.Alike U.vm) {x t : Addr} {kb : ClassId} {cs : List Int32} {cd N2 : Int32} {vs : List Value} (E : RoadKit.Exa Z U.heap x ST) (V : RoadKit.Fld Z U.heap x ST "value" "[B" (.ref t)) (C : RoadKit.Fld Z U.heap x ST "coder" "B" (.int cd)) (K : RoadKit.Arv Z U.heap t kb .byte N2 vs (.int 0)) (hc : CodA cs cd N2 vs) (hb : ∀ c ∈ cs, ¬ c < 0 ∧ ¬ (65535 : Int32) < c) (l2 : cs.length ≤ 4000) :
    ∃ A, Txt x t A cd cs.length (fun j => cs.getD j 0) U := by
  obtain ⟨A, K1, K2, K3, K4, K5, K6⟩ := K
  have hcod := hc.cod (by omega) K3 K5
  obtain ⟨D, fV, fC, hB, F1, F2, g1, g2, -, -⟩ := strObj wi al E V C
  exact ⟨A, ⟨_, hB.2.2.1, D, hB.1, rfl, by cases q : D.vm <;> first | rfl | exact absurd q (hB.2.1.2 _)⟩, Has.of hB F1 g1, Has.of hB F2 g2, ⟨K1.1, State.isArrayOf_alike al K1.2.1, K1.2.2, by rcases hcod with ⟨-, q, -⟩ | ⟨-, q, -⟩ <;> omega⟩, hcod, fun j hj => by
    have e : cs.getD j 0 = cs[j] := by simp [List.getD_eq_getElem?_getD, hj]
    show ¬ cs.getD j 0 < 0 ∧ ¬ 65535 < cs.getD j 0
    rw [e]; exact hb _ (List.getElem_mem _)⟩
end StrChars.Road
namespace StrChars
open Jvm Sem ClassFile Op Lib Jvm.Stand Jvm.Free.XT Jvm.Free.ALB Jvm.Free.JM Jvm.Free
open Jvm.Lib.Cold (StaticIs)
namespace ChN
def yN : MethodName := ⟨"java/lang/String", "charAt", "(I)C"⟩
abbrev yB : ByteArray := jdk_42_method_56_code
theorem d0 : decode yB 0 = .ok (.aload_n 0, 1) := by decide +kernel
theorem d1 : decode yB 1 = .ok (.invokevirtual 492, 3) := by decide +kernel
theorem d4 : decode yB 4 = .ok (.ifCond (.eq) 12, 3) := by decide +kernel
theorem d7 : decode yB 7 = .ok (.aload_n 0, 1) := by decide +kernel
theorem d8 : decode yB 8 = .ok (.getfield 9, 3) := by decide +kernel
theorem d11 : decode yB 11 = .ok (.iload_n 1, 1) := by decide +kernel
theorem d12 : decode yB 12 = .ok (.invokestatic 495, 3) := by decide +kernel
theorem d15 : decode yB 15 = .ok (.ireturn, 1) := by decide +kernel
def site : List Cond := [.fieldLink "java/lang/String" 9 "java/lang/String" "value" "[B", IsL.tab, LChA.tab] ++ virtW "java/lang/String" 492 "java/lang/String" IsL.yN IsL.yN ++ staticW "java/lang/String" 495 LChA.yN
def tab : Cond := tabOf yN yB 2 (some .char) site
def P (x t : Addr) (V : Cell) (n : Nat) (f : Nat → Int32) (z : Int32) (fm : Value) (i : Nat) (args : Array Value) (s : State) : Prop := args = #[.ref x, .int (Int32.ofNat i)] ∧ Txt x t V 0 n f s ∧ i < n ∧ StaticIs s "java/lang/String" "COMPACT_STRINGS" "Z" (.int z) ∧ ¬ z = 0 ∧ StaticIs s "jdk/internal/util/Preconditions" "SIOOBE_FORMATTER" "Ljava/util/function/BiFunction;" fm ∧ fm.isRef = true
def E (f : Nat → Int32) (i : Nat) (r : Option Value) (s u : State) : Prop := XT.PureE (some (.int (f i))) r s u
/-- charAt(i) of a Latin-1 String of n chars, i < n: f i -/
theorem law (l : Launch) (x t : Addr) (V : Cell) (n : Nat) (f : Nat → Int32) (z : Int32) (fm : Value) (i : Nat) : Law l yN 2 1 3 40 yB 2 (some .char) site (P x t V n f z fm i) (E f i) [] 0 0 := by
  refine Law.of_walk (plainFor_of_name (by decide +kernel)) (by decide +kernel) (by decide +kernel) (by decide) (fun _ _ h => by rw [h.1]; rfl) (fun _ U U' hal hh h => ⟨h.1, h.2.1.mv hal hh, h.2.2.1, h.2.2.2.1.there hal hh, h.2.2.2.2.1, h.2.2.2.2.2.1.there hal hh, h.2.2.2.2.2.2⟩) (fun r U U' V V' h1 hal h2 h => XT.PureE.mv r U U' V V' h1 hal h2 h) ?_
  intro p e s m args below meth c s₁ X0 hexec hbytes hml hret hlk hnm hown hh0 W hP
  obtain ⟨rfl, hx, hi, s1, hz, s3, rf⟩ := hP
  have v31 := hx.2.2.2.1.2.2.2
  have hr := hx.2.2.2.2.2 i hi
  have hx0 := hx.mv X0.warmed.alike hh0
  have c1 : Steps p.tables e below (s₁.setTop (entryFrame m #[.ref x, .int (Int32.ofNat i)] 2)) (s₁.setTop (mkF m 1 #[.val (.ref x), .val (.int (Int32.ofNat i))] [.ref x])) := Steps.trans (entry rfl) (by
    show Steps p.tables e below (s₁.setTop (mkF m 0 #[.val (.ref x), .val (.int (Int32.ofNat i))] [])) _
    refine XS.aloadN X0.here hexec rfl (hb hbytes d0) rfl rfl ?_
    exact Steps.refl _)
  obtain ⟨v2, T2, X2, E2, g2⟩ := X0.callV hexec (IsL.law l x 0 z) hown (wks W (virtW "java/lang/String" 492 "java/lang/String" IsL.yN IsL.yN)) rfl (by decide) (wk W IsL.tab) (W := 0) (Nat.le_of_ble_eq_true rfl) (Nat.le_of_ble_eq_true rfl) (Nat.le_refl _) (Nat.le_refl _) (hx0.1.fc X0.warmed.alike) hx0.1.is (g := (mkF m 1 #[.val (.ref x), .val (.int (Int32.ofNat i))] [.ref x])) rfl (by rw [hml]; rfl) c1 (argsL := []) (rest := []) rfl rfl (by show 2 * 0 + 0 ≤ _; decide) (hb hbytes d1) (⟨rfl, hx0.2.2.1, hx.2.2.2.2.1.cd, s1.there X0.warmed.alike hh0, hz⟩)
  obtain ⟨rfl, q2⟩ := E2
  have hh2 := q2.trans hh0
  have hx2 := hx.mv X2.warmed.alike hh2
  obtain ⟨-, k1, k2⟩ | ⟨k0, -⟩ := hx.2.2.2.2.1
  · have c3 : Steps p.tables e below (s₁.setTop (entryFrame m #[.ref x, .int (Int32.ofNat i)] 2)) (T2.setTop (mkF m 8 #[.val (.ref x), .val (.int (Int32.ofNat i))] [.ref x])) := Steps.trans g2 (by
      refine XS.ifNo X2.here hexec rfl (hb hbytes d4) rfl (i0_eq_f (by decide)) ?_
      refine XS.aloadN X2.here hexec rfl (hb hbytes d7) rfl rfl ?_
      exact Steps.refl _)
    obtain ⟨T4, X4, q4, st4⟩ := X2.hget hexec hown (wk W (.fieldLink "java/lang/String" 9 "java/lang/String" "value" "[B")) hx2.2.1 (g := (mkF m 8 #[.val (.ref x), .val (.int (Int32.ofNat i))] [.ref x])) rfl (rest := []) rfl (hb hbytes d8)
    have hh4 := q4.trans hh2
    have c5 : Steps p.tables e below (s₁.setTop (entryFrame m #[.ref x, .int (Int32.ofNat i)] 2)) (T4.setTop (mkF m 12 #[.val (.ref x), .val (.int (Int32.ofNat i))] [.int (Int32.ofNat i), .ref t])) := (c3.trans (st4 _ (Steps.refl _))).trans (by
      refine XS.iloadN X4.here hexec rfl (hb hbytes d11) rfl ?_
      exact Steps.refl _)
    obtain ⟨v6, T6, X6, E6, g6⟩ := X4.callS hexec (LChA.law l t V i (lo8 (f i)) fm) hown (wks W (staticW "java/lang/String" 495 LChA.yN)) (wk W LChA.tab) (W := 0) (Nat.le_of_ble_eq_true rfl) (Nat.le_of_ble_eq_true rfl) (Nat.le_refl _) (Nat.le_refl _) (g := (mkF m 12 #[.val (.ref x), .val (.int (Int32.ofNat i))] [.int (Int32.ofNat i), .ref t])) rfl (by rw [hml]; rfl) c5 (argsL := [.ref t, .int (Int32.ofNat i)]) (rest := []) rfl rfl (by show 2 * 0 + 0 ≤ _; decide) (hb hbytes d12) (⟨rfl, hx.2.2.2.1.mv X4.warmed.alike hh4, (k2 i hi).1, s3.there X4.warmed.alike hh4, rf⟩)
    obtain ⟨rfl, q6⟩ := E6
    rw [chr8_lo8 hr.1 (k2 i hi).2] at g6
    exact ⟨T6, some (.int (f i)), _, _, _, X6, rfl, rfl, rfl, (fun h => by cases h), ⟨rfl, q6.trans hh4⟩, fun fs hl => Steps.trans g6 (X6.ireturnOut hexec hret (narrow_ch hr.1 hr.2) (Or.inr (Or.inr (Or.inr (Or.inl rfl)))) (hb hbytes d15) hl)⟩
  · exact absurd k0 (by decide)
theorem pays {l : Launch} {R : Room} {p : Program} {e : Env} {below : List Frame} {s : State} {sargs : Array Value} {len W : Nat} (x t : Addr) (V : Cell) (n : Nat) (f : Nat → Int32) (z : Int32) (fm : Value) (i : Nat) (htab : tab.before sargs s = true) (hfr : 4 ≤ R.frames) (hlo : W + 53 ≤ R.locals) :
    Back l R p e below s sargs yN len W (fun A₁ a₁ => A₁.cells + 0 ≤ R.cells ∧ A₁.slots + 0 ≤ R.slots ∧ P x t V n f z fm i a₁ A₁.U) (fun A₁ _ v₁ B₁ => E f i v₁ A₁.U B₁.U ∧ B₁.locs = A₁.locs ++ [] ∧ B₁.cells = A₁.cells + 0 ∧ B₁.slots = A₁.slots + 0) :=
  (law l x t V n f z fm i).pays htab hfr (by omega)
end ChN
end StrChars
namespace StrChars.Road
open Jvm Sem ClassFile Op Lib Jvm.Stand Jvm.Free Jvm.Free.XT
open Jvm.Lib.Cold (StaticIs)
/-- the words of String.charAt(int), the Latin-1 road alone -/
abbrev wordsChN : List Jvm.Cond := [.code ChN.yN ChN.yB 2 (some .char), .initialized ST, .fieldLink ST 9 ST "value" "[B", .fieldLink ST 38 ST "COMPACT_STRINGS" "Z", .fieldLink ST 15 ST "coder" "B", .code IsL.yN IsL.yB 1 (some .boolean), .methodLink ST 492 IsL.yN, .declares IsL.yN, .selects ST IsL.yN IsL.yN, .instanceMethod IsL.yN,
  .methodLink ST 495 LChA.yN, .static LChA.yN, .code LChA.yN LChA.yB 2 (some .char), .initialized "java/lang/StringLatin1", .methodLink "java/lang/StringLatin1" 9 JO.Str_checkIndex.yN, .static JO.Str_checkIndex.yN, .code JO.Str_checkIndex.yN JO.Str_checkIndex.yB 2 none,
  .fieldLink ST 1053 "jdk/internal/util/Preconditions" "SIOOBE_FORMATTER" "Ljava/util/function/BiFunction;", .methodLink ST 1059 JC.PreCheck.yN, .static JC.PreCheck.yN, .code JC.PreCheck.yN JC.PreCheck.yB 3 (some .int), .initialized "jdk/internal/util/Preconditions"]
theorem tabChN_of {a : Array Value} {s : State} (h : ∀ w ∈ wordsChN, w.before a s = true) : ChN.tab.before a s = true := by
  have hp : JC.PreCheck.tab.before a s = true := unparts (wk h (.code JC.PreCheck.yN JC.PreCheck.yB 3 (some .int))) (wks h (.initialized JC.PreCheck.yN.cls :: JC.PreCheck.site))
  have qk := consq hp h
  have hk : JO.Str_checkIndex.tab.before a s = true := unparts (wk qk (.code JO.Str_checkIndex.yN JO.Str_checkIndex.yB 2 none)) (wks qk (.initialized JO.Str_checkIndex.yN.cls :: JO.Str_checkIndex.site))
  have ql := consq hk h
  have hl : LChA.tab.before a s = true := unparts (wk ql (.code LChA.yN LChA.yB 2 (some .char))) (wks ql (.initialized LChA.yN.cls :: LChA.site))
  have hi : IsL.tab.before a s = true := unparts (wk h (.code IsL.yN IsL.yB 1 (some .boolean))) (wks h (.initialized IsL.yN.cls :: IsL.site))
  have q := consq hi (consq hl h)
  exact unparts (wk q (.code ChN.yN ChN.yB 2 (some .char))) (wks q (.initialized ChN.yN.cls :: ChN.site))
theorem movedChN {Z s : State} {a0 args : Array Value} (hZ : Z.Warmed39 s.vm) (hw : ∀ d ∈ wordsChN, d.before a0 Z = true) : ∀ d ∈ wordsChN, d.before args s = true := fun d hd => by
  have t : ∀ d ∈ wordsChN, (d.onTables && d.keepsFace) = true := by decide +kernel
  exact RoadKit.mv hZ (hw d hd) (t d hd)
/-- **charAt(i) OF A LATIN-1 STRING**, i < n: the char -/
theorem chN {p : Program} {l : Launch} {e : Env} {R : Room} {s : State} {args : Array Value} {below : List Frame} {len W : Nat} {Z : State} {a0 : Array Value} {h : Heap} (hZ : Z.Warmed39 s.vm) (hw : ∀ d ∈ wordsChN, d.before a0 Z = true) {kI : Nat} (wi : (Jvm.Cond.instantiable ST kI).before a0 Z = true)
    {x t : Addr} {kb : ClassId} {cs : List Int32} {N2 z : Int32} {vs : List Value} {fm : Value} {i : Nat} {j : Int32} (E : RoadKit.Exa Z h x ST) (V : RoadKit.Fld Z h x ST "value" "[B" (.ref t)) (C : RoadKit.Fld Z h x ST "coder" "B" (.int 0)) (K : RoadKit.Arv Z h t kb .byte N2 vs (.int 0)) (hc : CodA cs 0 N2 vs) (hb : ∀ c ∈ cs, ¬ c < 0 ∧ ¬ (65535 : Int32) < c)
    (S : RoadKit.Sta Z h ST "COMPACT_STRINGS" "Z" (.int z)) (hz : ¬ z = 0) (F : RoadKit.Sta Z h "jdk/internal/util/Preconditions" "SIOOBE_FORMATTER" "Ljava/util/function/BiFunction;" fm) (rf : fm.isRef = true) (l2 : cs.length ≤ 4000) (hi : i < cs.length) (hj : j = Int32.ofNat i) (hfr : 4 ≤ R.frames) (hlo : W + 53 ≤ R.locals) :
    Back l R p e below s args (⟨"java/lang/String", "charAt", "(I)C"⟩ : MethodName) len W (fun P a => a = #[.ref x, .int j] ∧ P.U.heap = h ∧ P.cells + 0 ≤ R.cells ∧ P.slots + 0 ≤ R.slots)
      (fun P _ v B => ∃ L, (v = some (.int (cs.getD i 0)) ∧ L = [] ∧ B.U.heap = h) ∧ B.locs = P.locs ++ L ∧ B.cells = P.cells + 0 ∧ B.slots = P.slots + 0) := by
  subst hj
  intro m meth c P g ig mk a X hg hsize hdg hW hn hp'
  obtain ⟨rfl, rfl, r1, r2⟩ := hp'
  have al : Z.vm.Alike P.U.vm := hZ.alike.trans X.warmed.alike
  obtain ⟨A, hx⟩ := txt_of wi al E V C K hc hb l2
  obtain ⟨v, B, X', ⟨⟨hv, hh⟩, hl, hk, hs⟩, st⟩ := ChN.pays x t A cs.length (fun j => cs.getD j 0) z fm i (tabChN_of (movedChN hZ hw)) hfr hlo m meth c P g ig mk _ X hg hsize hdg hW hn ⟨r1, r2, rfl, hx, hi, sta_is al S, hz, sta_is al F, rf⟩
  exact ⟨v, B, X', ⟨[], ⟨hv, rfl, hh⟩, hl, hk, hs⟩, st⟩
/-- what backV says of its String, as the contracts of this text ask it: cs's low bytes, coder 0 -/
theorem codOf {cs : List Int32} {n : Nat} (hn : cs.length = n) (hb : ∀ c ∈ cs, ¬ 255 < c) : CodA cs 0 (Int32.ofNat n) ((cs.map lo8).map Value.int) := Or.inl ⟨rfl, by rw [hn], by simp [List.map_map, Function.comp_def], hb⟩
end StrChars.Road
end Jvm.Pilot.@@N@@
namespace Jvm.Pilot.@@N@@
open Jvm Jvm.ClassFile Sem Op Lib Jvm.Free Jvm.Stand Jvm.LawKit Jvm.RoadKit Jvm.OwnKit Bundle Jvm.Pilot.@@N@@.Jvm.D
def EL1 : List (String × Nat) := [("com/example/wachter/wachter/policy/Decision", 21), ("com/example/wachter/wachter/policy/Decision", 35), ("com/example/wachter/wachter/policy/Decision", 37), ("com/example/wachter/wachter/policy/DecisionAllowedByPinLaw", 37)]
abbrev HW (a0 : Array Value) (Z : State) : Prop := ∀ d ∈ tables_1, d.before a0 Z = true
theorem w0 {a0 : Array Value} {Z : State} (hw : HW a0 Z) : (Jvm.Cond.constant "com/example/wachter/wachter/policy/DecisionAllowedByPinLaw" (7 : Nat) (2147483647 : Int32) : Jvm.Cond).before a0 Z = true := hw _ (List.mem_of_getElem? (i := 0) rfl)
theorem w1 {a0 : Array Value} {Z : State} (hw : HW a0 Z) : (Jvm.Cond.classLink "com/example/wachter/wachter/policy/DecisionAllowedByPinLaw" (8 : Nat) "java/lang/String" : Jvm.Cond).before a0 Z = true := hw _ (List.mem_of_getElem? (i := 1) rfl)
theorem w2 {a0 : Array Value} {Z : State} (hw : HW a0 Z) : (Jvm.Cond.instantiable "java/lang/String" (4 : Nat) : Jvm.Cond).before a0 Z = true := hw _ (List.mem_of_getElem? (i := 2) rfl)
theorem w3 {a0 : Array Value} {Z : State} (hw : HW a0 Z) : (Jvm.Cond.initialized "java/lang/String" : Jvm.Cond).before a0 Z = true := hw _ (List.mem_of_getElem? (i := 3) rfl)
theorem w4 {a0 : Array Value} {Z : State} (hw : HW a0 Z) : (Jvm.Cond.arrayClass Jvm.ClassFile.FieldType.char : Jvm.Cond).before a0 Z = true := hw _ (List.mem_of_getElem? (i := 4) rfl)
theorem w5 {a0 : Array Value} {Z : State} (hw : HW a0 Z) : (Jvm.Cond.methodLink "com/example/wachter/wachter/policy/DecisionAllowedByPinLaw" (10 : Nat) ({ cls := "java/lang/String", name := "<init>", desc := "([C)V" } : Jvm.MethodName) : Jvm.Cond).before a0 Z = true := hw _ (List.mem_of_getElem? (i := 5) rfl)
theorem w6 {a0 : Array Value} {Z : State} (hw : HW a0 Z) : (Jvm.Cond.instanceMethod ({ cls := "java/lang/String", name := "<init>", desc := "([C)V" } : Jvm.MethodName) : Jvm.Cond).before a0 Z = true := hw _ (List.mem_of_getElem? (i := 6) rfl)
theorem w7 {a0 : Array Value} {Z : State} (hw : HW a0 Z) : (Jvm.Cond.code ({ cls := "java/lang/String", name := "<init>", desc := "([C)V" } : Jvm.MethodName) jdk_42_method_3_code (2 : Nat) (Option.none : Option Jvm.ClassFile.FieldType) : Jvm.Cond).before a0 Z = true := hw _ (List.mem_of_getElem? (i := 7) rfl)
theorem w12 {a0 : Array Value} {Z : State} (hw : HW a0 Z) : (Jvm.Cond.methodLink "java/lang/String" (1 : Nat) ({ cls := "java/lang/Object", name := "<init>", desc := "()V" } : Jvm.MethodName) : Jvm.Cond).before a0 Z = true := hw _ (List.mem_of_getElem? (i := 12) rfl)
theorem w13 {a0 : Array Value} {Z : State} (hw : HW a0 Z) : (Jvm.Cond.instanceMethod ({ cls := "java/lang/Object", name := "<init>", desc := "()V" } : Jvm.MethodName) : Jvm.Cond).before a0 Z = true := hw _ (List.mem_of_getElem? (i := 13) rfl)
theorem w14 {a0 : Array Value} {Z : State} (hw : HW a0 Z) : (Jvm.Cond.code ({ cls := "java/lang/Object", name := "<init>", desc := "()V" } : Jvm.MethodName) object_method_1_code (1 : Nat) (Option.none : Option Jvm.ClassFile.FieldType) : Jvm.Cond).before a0 Z = true := hw _ (List.mem_of_getElem? (i := 14) rfl)
theorem w15 {a0 : Array Value} {Z : State} (hw : HW a0 Z) : (Jvm.Cond.fieldLink "java/lang/String" (38 : Nat) "java/lang/String" "COMPACT_STRINGS" "Z" : Jvm.Cond).before a0 Z = true := hw _ (List.mem_of_getElem? (i := 15) rfl)
theorem w20 {a0 : Array Value} {Z : State} (hw : HW a0 Z) : (Jvm.Cond.arrayClass Jvm.ClassFile.FieldType.byte : Jvm.Cond).before a0 Z = true := hw _ (List.mem_of_getElem? (i := 20) rfl)
theorem w27 {a0 : Array Value} {Z : State} (hw : HW a0 Z) : (Jvm.Cond.fieldLink "java/lang/String" (15 : Nat) "java/lang/String" "coder" "B" : Jvm.Cond).before a0 Z = true := hw _ (List.mem_of_getElem? (i := 27) rfl)
theorem w28 {a0 : Array Value} {Z : State} (hw : HW a0 Z) : (Jvm.Cond.laysFinal "java/lang/String" "java/lang/String" "coder" "B" : Jvm.Cond).before a0 Z = true := hw _ (List.mem_of_getElem? (i := 28) rfl)
theorem w29 {a0 : Array Value} {Z : State} (hw : HW a0 Z) : (Jvm.Cond.fieldLink "java/lang/String" (9 : Nat) "java/lang/String" "value" "[B" : Jvm.Cond).before a0 Z = true := hw _ (List.mem_of_getElem? (i := 29) rfl)
theorem w30 {a0 : Array Value} {Z : State} (hw : HW a0 Z) : (Jvm.Cond.laysFinal "java/lang/String" "java/lang/String" "value" "[B" : Jvm.Cond).before a0 Z = true := hw _ (List.mem_of_getElem? (i := 30) rfl)
theorem w31 {a0 : Array Value} {Z : State} (hw : HW a0 Z) : (Jvm.Cond.methodLink "com/example/wachter/wachter/policy/DecisionAllowedByPinLaw" (13 : Nat) ({ cls := "com/example/wachter/wachter/policy/Decision", name := "allowedBy", desc := "(I)Lcom/example/wachter/wachter/policy/Decision;" } : Jvm.MethodName) : Jvm.Cond).before a0 Z = true := hw _ (List.mem_of_getElem? (i := 31) rfl)
theorem w32 {a0 : Array Value} {Z : State} (hw : HW a0 Z) : (Jvm.Cond.static ({ cls := "com/example/wachter/wachter/policy/Decision", name := "allowedBy", desc := "(I)Lcom/example/wachter/wachter/policy/Decision;" } : Jvm.MethodName) : Jvm.Cond).before a0 Z = true := hw _ (List.mem_of_getElem? (i := 32) rfl)
theorem w33 {a0 : Array Value} {Z : State} (hw : HW a0 Z) : (Jvm.Cond.initialized "com/example/wachter/wachter/policy/Decision" : Jvm.Cond).before a0 Z = true := hw _ (List.mem_of_getElem? (i := 33) rfl)
theorem w34 {a0 : Array Value} {Z : State} (hw : HW a0 Z) : (Jvm.Cond.code ({ cls := "com/example/wachter/wachter/policy/Decision", name := "allowedBy", desc := "(I)Lcom/example/wachter/wachter/policy/Decision;" } : Jvm.MethodName) prog_13_method_2_code (1 : Nat) (Option.some (Jvm.ClassFile.FieldType.object "com/example/wachter/wachter/policy/Decision")) : Jvm.Cond).before a0 Z = true := hw _ (List.mem_of_getElem? (i := 34) rfl)
theorem w35 {a0 : Array Value} {Z : State} (hw : HW a0 Z) : (Jvm.Cond.classLink "com/example/wachter/wachter/policy/Decision" (8 : Nat) "com/example/wachter/wachter/policy/Decision" : Jvm.Cond).before a0 Z = true := hw _ (List.mem_of_getElem? (i := 35) rfl)
theorem w36 {a0 : Array Value} {Z : State} (hw : HW a0 Z) : (Jvm.Cond.instantiable "com/example/wachter/wachter/policy/Decision" (3 : Nat) : Jvm.Cond).before a0 Z = true := hw _ (List.mem_of_getElem? (i := 36) rfl)
theorem w40 {a0 : Array Value} {Z : State} (hw : HW a0 Z) : (Jvm.Cond.methodLink "com/example/wachter/wachter/policy/Decision" (23 : Nat) ({ cls := "com/example/wachter/wachter/policy/Decision", name := "<init>", desc := "(ZLjava/lang/String;I)V" } : Jvm.MethodName) : Jvm.Cond).before a0 Z = true := hw _ (List.mem_of_getElem? (i := 40) rfl)
theorem w41 {a0 : Array Value} {Z : State} (hw : HW a0 Z) : (Jvm.Cond.instanceMethod ({ cls := "com/example/wachter/wachter/policy/Decision", name := "<init>", desc := "(ZLjava/lang/String;I)V" } : Jvm.MethodName) : Jvm.Cond).before a0 Z = true := hw _ (List.mem_of_getElem? (i := 41) rfl)
theorem w42 {a0 : Array Value} {Z : State} (hw : HW a0 Z) : (Jvm.Cond.code ({ cls := "com/example/wachter/wachter/policy/Decision", name := "<init>", desc := "(ZLjava/lang/String;I)V" } : Jvm.MethodName) prog_13_method_1_code (4 : Nat) (Option.none : Option Jvm.ClassFile.FieldType) : Jvm.Cond).before a0 Z = true := hw _ (List.mem_of_getElem? (i := 42) rfl)
theorem w43 {a0 : Array Value} {Z : State} (hw : HW a0 Z) : (Jvm.Cond.methodLink "com/example/wachter/wachter/policy/Decision" (1 : Nat) ({ cls := "java/lang/Object", name := "<init>", desc := "()V" } : Jvm.MethodName) : Jvm.Cond).before a0 Z = true := hw _ (List.mem_of_getElem? (i := 43) rfl)
theorem w44 {a0 : Array Value} {Z : State} (hw : HW a0 Z) : (Jvm.Cond.fieldLink "com/example/wachter/wachter/policy/Decision" (7 : Nat) "com/example/wachter/wachter/policy/Decision" "allowed" "Z" : Jvm.Cond).before a0 Z = true := hw _ (List.mem_of_getElem? (i := 44) rfl)
theorem w45 {a0 : Array Value} {Z : State} (hw : HW a0 Z) : (Jvm.Cond.laysFinal "com/example/wachter/wachter/policy/Decision" "com/example/wachter/wachter/policy/Decision" "allowed" "Z" : Jvm.Cond).before a0 Z = true := hw _ (List.mem_of_getElem? (i := 45) rfl)
theorem w46 {a0 : Array Value} {Z : State} (hw : HW a0 Z) : (Jvm.Cond.fieldLink "com/example/wachter/wachter/policy/Decision" (13 : Nat) "com/example/wachter/wachter/policy/Decision" "reason" "Ljava/lang/String;" : Jvm.Cond).before a0 Z = true := hw _ (List.mem_of_getElem? (i := 46) rfl)
theorem w47 {a0 : Array Value} {Z : State} (hw : HW a0 Z) : (Jvm.Cond.laysFinal "com/example/wachter/wachter/policy/Decision" "com/example/wachter/wachter/policy/Decision" "reason" "Ljava/lang/String;" : Jvm.Cond).before a0 Z = true := hw _ (List.mem_of_getElem? (i := 47) rfl)
theorem w48 {a0 : Array Value} {Z : State} (hw : HW a0 Z) : (Jvm.Cond.fieldLink "com/example/wachter/wachter/policy/Decision" (17 : Nat) "com/example/wachter/wachter/policy/Decision" "line" "I" : Jvm.Cond).before a0 Z = true := hw _ (List.mem_of_getElem? (i := 48) rfl)
theorem w49 {a0 : Array Value} {Z : State} (hw : HW a0 Z) : (Jvm.Cond.laysFinal "com/example/wachter/wachter/policy/Decision" "com/example/wachter/wachter/policy/Decision" "line" "I" : Jvm.Cond).before a0 Z = true := hw _ (List.mem_of_getElem? (i := 49) rfl)
theorem w50 {a0 : Array Value} {Z : State} (hw : HW a0 Z) : (Jvm.Cond.methodLink "com/example/wachter/wachter/policy/DecisionAllowedByPinLaw" (19 : Nat) ({ cls := "com/example/wachter/wachter/policy/Decision", name := "allowed", desc := "()Z" } : Jvm.MethodName) : Jvm.Cond).before a0 Z = true := hw _ (List.mem_of_getElem? (i := 50) rfl)
theorem w51 {a0 : Array Value} {Z : State} (hw : HW a0 Z) : (Jvm.Cond.declares ({ cls := "com/example/wachter/wachter/policy/Decision", name := "allowed", desc := "()Z" } : Jvm.MethodName) : Jvm.Cond).before a0 Z = true := hw _ (List.mem_of_getElem? (i := 51) rfl)
theorem w52 {a0 : Array Value} {Z : State} (hw : HW a0 Z) : (Jvm.Cond.instanceMethod ({ cls := "com/example/wachter/wachter/policy/Decision", name := "allowed", desc := "()Z" } : Jvm.MethodName) : Jvm.Cond).before a0 Z = true := hw _ (List.mem_of_getElem? (i := 52) rfl)
theorem w53 {a0 : Array Value} {Z : State} (hw : HW a0 Z) : (Jvm.Cond.selects "com/example/wachter/wachter/policy/Decision" ({ cls := "com/example/wachter/wachter/policy/Decision", name := "allowed", desc := "()Z" } : Jvm.MethodName) ({ cls := "com/example/wachter/wachter/policy/Decision", name := "allowed", desc := "()Z" } : Jvm.MethodName) : Jvm.Cond).before a0 Z = true := hw _ (List.mem_of_getElem? (i := 53) rfl)
theorem w54 {a0 : Array Value} {Z : State} (hw : HW a0 Z) : (Jvm.Cond.code ({ cls := "com/example/wachter/wachter/policy/Decision", name := "allowed", desc := "()Z" } : Jvm.MethodName) prog_13_method_4_code (1 : Nat) (Option.some Jvm.ClassFile.FieldType.boolean) : Jvm.Cond).before a0 Z = true := hw _ (List.mem_of_getElem? (i := 54) rfl)
theorem w55 {a0 : Array Value} {Z : State} (hw : HW a0 Z) : (Jvm.Cond.methodLink "com/example/wachter/wachter/policy/DecisionAllowedByPinLaw" (23 : Nat) ({ cls := "com/example/wachter/wachter/policy/Decision", name := "because", desc := "(Ljava/lang/String;)Ljava/lang/String;" } : Jvm.MethodName) : Jvm.Cond).before a0 Z = true := hw _ (List.mem_of_getElem? (i := 55) rfl)
theorem w56 {a0 : Array Value} {Z : State} (hw : HW a0 Z) : (Jvm.Cond.declares ({ cls := "com/example/wachter/wachter/policy/Decision", name := "because", desc := "(Ljava/lang/String;)Ljava/lang/String;" } : Jvm.MethodName) : Jvm.Cond).before a0 Z = true := hw _ (List.mem_of_getElem? (i := 56) rfl)
theorem w57 {a0 : Array Value} {Z : State} (hw : HW a0 Z) : (Jvm.Cond.instanceMethod ({ cls := "com/example/wachter/wachter/policy/Decision", name := "because", desc := "(Ljava/lang/String;)Ljava/lang/String;" } : Jvm.MethodName) : Jvm.Cond).before a0 Z = true := hw _ (List.mem_of_getElem? (i := 57) rfl)
theorem w58 {a0 : Array Value} {Z : State} (hw : HW a0 Z) : (Jvm.Cond.selects "com/example/wachter/wachter/policy/Decision" ({ cls := "com/example/wachter/wachter/policy/Decision", name := "because", desc := "(Ljava/lang/String;)Ljava/lang/String;" } : Jvm.MethodName) ({ cls := "com/example/wachter/wachter/policy/Decision", name := "because", desc := "(Ljava/lang/String;)Ljava/lang/String;" } : Jvm.MethodName) : Jvm.Cond).before a0 Z = true := hw _ (List.mem_of_getElem? (i := 58) rfl)
theorem w59 {a0 : Array Value} {Z : State} (hw : HW a0 Z) : (Jvm.Cond.code ({ cls := "com/example/wachter/wachter/policy/Decision", name := "because", desc := "(Ljava/lang/String;)Ljava/lang/String;" } : Jvm.MethodName) prog_13_method_5_code (2 : Nat) (Option.some (Jvm.ClassFile.FieldType.object "java/lang/String")) : Jvm.Cond).before a0 Z = true := hw _ (List.mem_of_getElem? (i := 59) rfl)
theorem w60 {a0 : Array Value} {Z : State} (hw : HW a0 Z) : (Jvm.Cond.classLink "com/example/wachter/wachter/policy/Decision" (28 : Nat) "java/lang/StringBuilder" : Jvm.Cond).before a0 Z = true := hw _ (List.mem_of_getElem? (i := 60) rfl)
theorem w61 {a0 : Array Value} {Z : State} (hw : HW a0 Z) : (Jvm.Cond.instantiable "java/lang/StringBuilder" (4 : Nat) : Jvm.Cond).before a0 Z = true := hw _ (List.mem_of_getElem? (i := 61) rfl)
theorem w62 {a0 : Array Value} {Z : State} (hw : HW a0 Z) : (Jvm.Cond.initialized "java/lang/StringBuilder" : Jvm.Cond).before a0 Z = true := hw _ (List.mem_of_getElem? (i := 62) rfl)
theorem w63 {a0 : Array Value} {Z : State} (hw : HW a0 Z) : (Jvm.Cond.methodLink "com/example/wachter/wachter/policy/Decision" (30 : Nat) ({ cls := "java/lang/StringBuilder", name := "<init>", desc := "()V" } : Jvm.MethodName) : Jvm.Cond).before a0 Z = true := hw _ (List.mem_of_getElem? (i := 63) rfl)
theorem w64 {a0 : Array Value} {Z : State} (hw : HW a0 Z) : (Jvm.Cond.instanceMethod ({ cls := "java/lang/StringBuilder", name := "<init>", desc := "()V" } : Jvm.MethodName) : Jvm.Cond).before a0 Z = true := hw _ (List.mem_of_getElem? (i := 64) rfl)
theorem w65 {a0 : Array Value} {Z : State} (hw : HW a0 Z) : (Jvm.Cond.code ({ cls := "java/lang/StringBuilder", name := "<init>", desc := "()V" } : Jvm.MethodName) jdk_67_method_1_code (1 : Nat) (Option.none : Option Jvm.ClassFile.FieldType) : Jvm.Cond).before a0 Z = true := hw _ (List.mem_of_getElem? (i := 65) rfl)
theorem w66 {a0 : Array Value} {Z : State} (hw : HW a0 Z) : (Jvm.Cond.methodLink "java/lang/StringBuilder" (1 : Nat) ({ cls := "java/lang/AbstractStringBuilder", name := "<init>", desc := "(I)V" } : Jvm.MethodName) : Jvm.Cond).before a0 Z = true := hw _ (List.mem_of_getElem? (i := 66) rfl)
theorem w67 {a0 : Array Value} {Z : State} (hw : HW a0 Z) : (Jvm.Cond.instanceMethod ({ cls := "java/lang/AbstractStringBuilder", name := "<init>", desc := "(I)V" } : Jvm.MethodName) : Jvm.Cond).before a0 Z = true := hw _ (List.mem_of_getElem? (i := 67) rfl)
theorem w70 {a0 : Array Value} {Z : State} (hw : HW a0 Z) : (Jvm.Cond.initialized "java/lang/AbstractStringBuilder" : Jvm.Cond).before a0 Z = true := hw _ (List.mem_of_getElem? (i := 70) rfl)
theorem w71 {a0 : Array Value} {Z : State} (hw : HW a0 Z) : (Jvm.Cond.code ({ cls := "java/lang/AbstractStringBuilder", name := "<init>", desc := "(I)V" } : Jvm.MethodName) jdk_68_method_2_code (2 : Nat) (Option.none : Option Jvm.ClassFile.FieldType) : Jvm.Cond).before a0 Z = true := hw _ (List.mem_of_getElem? (i := 71) rfl)
theorem w72 {a0 : Array Value} {Z : State} (hw : HW a0 Z) : (Jvm.Cond.methodLink "java/lang/AbstractStringBuilder" (3 : Nat) ({ cls := "java/lang/Object", name := "<init>", desc := "()V" } : Jvm.MethodName) : Jvm.Cond).before a0 Z = true := hw _ (List.mem_of_getElem? (i := 72) rfl)
theorem w73 {a0 : Array Value} {Z : State} (hw : HW a0 Z) : (Jvm.Cond.fieldLink "java/lang/AbstractStringBuilder" (18 : Nat) "java/lang/String" "COMPACT_STRINGS" "Z" : Jvm.Cond).before a0 Z = true := hw _ (List.mem_of_getElem? (i := 73) rfl)
theorem w74 {a0 : Array Value} {Z : State} (hw : HW a0 Z) : (Jvm.Cond.fieldLink "java/lang/AbstractStringBuilder" (15 : Nat) "java/lang/AbstractStringBuilder" "value" "[B" : Jvm.Cond).before a0 Z = true := hw _ (List.mem_of_getElem? (i := 74) rfl)
theorem w75 {a0 : Array Value} {Z : State} (hw : HW a0 Z) : (Jvm.Cond.lays "java/lang/StringBuilder" "java/lang/AbstractStringBuilder" "value" "[B" : Jvm.Cond).before a0 Z = true := hw _ (List.mem_of_getElem? (i := 75) rfl)
theorem w76 {a0 : Array Value} {Z : State} (hw : HW a0 Z) : (Jvm.Cond.fieldLink "java/lang/AbstractStringBuilder" (22 : Nat) "java/lang/AbstractStringBuilder" "coder" "B" : Jvm.Cond).before a0 Z = true := hw _ (List.mem_of_getElem? (i := 76) rfl)
theorem w77 {a0 : Array Value} {Z : State} (hw : HW a0 Z) : (Jvm.Cond.lays "java/lang/StringBuilder" "java/lang/AbstractStringBuilder" "coder" "B" : Jvm.Cond).before a0 Z = true := hw _ (List.mem_of_getElem? (i := 77) rfl)
theorem w78 {a0 : Array Value} {Z : State} (hw : HW a0 Z) : (Jvm.Cond.methodLink "com/example/wachter/wachter/policy/Decision" (31 : Nat) ({ cls := "java/lang/StringBuilder", name := "append", desc := "(Ljava/lang/String;)Ljava/lang/StringBuilder;" } : Jvm.MethodName) : Jvm.Cond).before a0 Z = true := hw _ (List.mem_of_getElem? (i := 78) rfl)
theorem w79 {a0 : Array Value} {Z : State} (hw : HW a0 Z) : (Jvm.Cond.declares ({ cls := "java/lang/StringBuilder", name := "append", desc := "(Ljava/lang/String;)Ljava/lang/StringBuilder;" } : Jvm.MethodName) : Jvm.Cond).before a0 Z = true := hw _ (List.mem_of_getElem? (i := 79) rfl)
theorem w80 {a0 : Array Value} {Z : State} (hw : HW a0 Z) : (Jvm.Cond.instanceMethod ({ cls := "java/lang/StringBuilder", name := "append", desc := "(Ljava/lang/String;)Ljava/lang/StringBuilder;" } : Jvm.MethodName) : Jvm.Cond).before a0 Z = true := hw _ (List.mem_of_getElem? (i := 80) rfl)
theorem w81 {a0 : Array Value} {Z : State} (hw : HW a0 Z) : (Jvm.Cond.selects "java/lang/StringBuilder" ({ cls := "java/lang/StringBuilder", name := "append", desc := "(Ljava/lang/String;)Ljava/lang/StringBuilder;" } : Jvm.MethodName) ({ cls := "java/lang/StringBuilder", name := "append", desc := "(Ljava/lang/String;)Ljava/lang/StringBuilder;" } : Jvm.MethodName) : Jvm.Cond).before a0 Z = true := hw _ (List.mem_of_getElem? (i := 81) rfl)
theorem w82 {a0 : Array Value} {Z : State} (hw : HW a0 Z) : (Jvm.Cond.code ({ cls := "java/lang/StringBuilder", name := "append", desc := "(Ljava/lang/String;)Ljava/lang/StringBuilder;" } : Jvm.MethodName) jdk_67_method_7_code (2 : Nat) (Option.some (Jvm.ClassFile.FieldType.object "java/lang/StringBuilder")) : Jvm.Cond).before a0 Z = true := hw _ (List.mem_of_getElem? (i := 82) rfl)
theorem w83 {a0 : Array Value} {Z : State} (hw : HW a0 Z) : (Jvm.Cond.methodLink "java/lang/StringBuilder" (29 : Nat) ({ cls := "java/lang/AbstractStringBuilder", name := "append", desc := "(Ljava/lang/String;)Ljava/lang/AbstractStringBuilder;" } : Jvm.MethodName) : Jvm.Cond).before a0 Z = true := hw _ (List.mem_of_getElem? (i := 83) rfl)
theorem w84 {a0 : Array Value} {Z : State} (hw : HW a0 Z) : (Jvm.Cond.instanceMethod ({ cls := "java/lang/AbstractStringBuilder", name := "append", desc := "(Ljava/lang/String;)Ljava/lang/AbstractStringBuilder;" } : Jvm.MethodName) : Jvm.Cond).before a0 Z = true := hw _ (List.mem_of_getElem? (i := 84) rfl)
theorem w85 {a0 : Array Value} {Z : State} (hw : HW a0 Z) : (Jvm.Cond.superclass "java/lang/StringBuilder" "java/lang/AbstractStringBuilder" : Jvm.Cond).before a0 Z = true := hw _ (List.mem_of_getElem? (i := 85) rfl)
theorem w87 {a0 : Array Value} {Z : State} (hw : HW a0 Z) : (Jvm.Cond.code ({ cls := "java/lang/AbstractStringBuilder", name := "append", desc := "(Ljava/lang/String;)Ljava/lang/AbstractStringBuilder;" } : Jvm.MethodName) jdk_68_method_22_code (3 : Nat) (Option.some (Jvm.ClassFile.FieldType.object "java/lang/AbstractStringBuilder")) : Jvm.Cond).before a0 Z = true := hw _ (List.mem_of_getElem? (i := 87) rfl)
theorem w88 {a0 : Array Value} {Z : State} (hw : HW a0 Z) : (Jvm.Cond.methodLink "java/lang/AbstractStringBuilder" (32 : Nat) ({ cls := "java/lang/String", name := "length", desc := "()I" } : Jvm.MethodName) : Jvm.Cond).before a0 Z = true := hw _ (List.mem_of_getElem? (i := 88) rfl)
theorem w89 {a0 : Array Value} {Z : State} (hw : HW a0 Z) : (Jvm.Cond.declares ({ cls := "java/lang/String", name := "length", desc := "()I" } : Jvm.MethodName) : Jvm.Cond).before a0 Z = true := hw _ (List.mem_of_getElem? (i := 89) rfl)
theorem w90 {a0 : Array Value} {Z : State} (hw : HW a0 Z) : (Jvm.Cond.instanceMethod ({ cls := "java/lang/String", name := "length", desc := "()I" } : Jvm.MethodName) : Jvm.Cond).before a0 Z = true := hw _ (List.mem_of_getElem? (i := 90) rfl)
theorem w91 {a0 : Array Value} {Z : State} (hw : HW a0 Z) : (Jvm.Cond.selects "java/lang/String" ({ cls := "java/lang/String", name := "length", desc := "()I" } : Jvm.MethodName) ({ cls := "java/lang/String", name := "length", desc := "()I" } : Jvm.MethodName) : Jvm.Cond).before a0 Z = true := hw _ (List.mem_of_getElem? (i := 91) rfl)
theorem w92 {a0 : Array Value} {Z : State} (hw : HW a0 Z) : (Jvm.Cond.code ({ cls := "java/lang/String", name := "length", desc := "()I" } : Jvm.MethodName) jdk_42_method_54_code (1 : Nat) (Option.some Jvm.ClassFile.FieldType.int) : Jvm.Cond).before a0 Z = true := hw _ (List.mem_of_getElem? (i := 92) rfl)
theorem w93 {a0 : Array Value} {Z : State} (hw : HW a0 Z) : (Jvm.Cond.methodLink "java/lang/String" (335 : Nat) ({ cls := "java/lang/String", name := "coder", desc := "()B" } : Jvm.MethodName) : Jvm.Cond).before a0 Z = true := hw _ (List.mem_of_getElem? (i := 93) rfl)
theorem w94 {a0 : Array Value} {Z : State} (hw : HW a0 Z) : (Jvm.Cond.declares ({ cls := "java/lang/String", name := "coder", desc := "()B" } : Jvm.MethodName) : Jvm.Cond).before a0 Z = true := hw _ (List.mem_of_getElem? (i := 94) rfl)
theorem w95 {a0 : Array Value} {Z : State} (hw : HW a0 Z) : (Jvm.Cond.instanceMethod ({ cls := "java/lang/String", name := "coder", desc := "()B" } : Jvm.MethodName) : Jvm.Cond).before a0 Z = true := hw _ (List.mem_of_getElem? (i := 95) rfl)
theorem w96 {a0 : Array Value} {Z : State} (hw : HW a0 Z) : (Jvm.Cond.selects "java/lang/String" ({ cls := "java/lang/String", name := "coder", desc := "()B" } : Jvm.MethodName) ({ cls := "java/lang/String", name := "coder", desc := "()B" } : Jvm.MethodName) : Jvm.Cond).before a0 Z = true := hw _ (List.mem_of_getElem? (i := 96) rfl)
theorem w97 {a0 : Array Value} {Z : State} (hw : HW a0 Z) : (Jvm.Cond.code ({ cls := "java/lang/String", name := "coder", desc := "()B" } : Jvm.MethodName) jdk_42_method_152_code (1 : Nat) (Option.some Jvm.ClassFile.FieldType.byte) : Jvm.Cond).before a0 Z = true := hw _ (List.mem_of_getElem? (i := 97) rfl)
theorem w98 {a0 : Array Value} {Z : State} (hw : HW a0 Z) : (Jvm.Cond.fieldLink "java/lang/AbstractStringBuilder" (79 : Nat) "java/lang/AbstractStringBuilder" "count" "I" : Jvm.Cond).before a0 Z = true := hw _ (List.mem_of_getElem? (i := 98) rfl)
theorem w99 {a0 : Array Value} {Z : State} (hw : HW a0 Z) : (Jvm.Cond.lays "java/lang/StringBuilder" "java/lang/AbstractStringBuilder" "count" "I" : Jvm.Cond).before a0 Z = true := hw _ (List.mem_of_getElem? (i := 99) rfl)
theorem w100 {a0 : Array Value} {Z : State} (hw : HW a0 Z) : (Jvm.Cond.methodLink "java/lang/AbstractStringBuilder" (100 : Nat) ({ cls := "java/lang/AbstractStringBuilder", name := "ensureCapacityInternal", desc := "(I)V" } : Jvm.MethodName) : Jvm.Cond).before a0 Z = true := hw _ (List.mem_of_getElem? (i := 100) rfl)
theorem w101 {a0 : Array Value} {Z : State} (hw : HW a0 Z) : (Jvm.Cond.instanceMethod ({ cls := "java/lang/AbstractStringBuilder", name := "ensureCapacityInternal", desc := "(I)V" } : Jvm.MethodName) : Jvm.Cond).before a0 Z = true := hw _ (List.mem_of_getElem? (i := 101) rfl)
theorem w102 {a0 : Array Value} {Z : State} (hw : HW a0 Z) : (Jvm.Cond.privateMethod ({ cls := "java/lang/AbstractStringBuilder", name := "ensureCapacityInternal", desc := "(I)V" } : Jvm.MethodName) : Jvm.Cond).before a0 Z = true := hw _ (List.mem_of_getElem? (i := 102) rfl)
theorem w103 {a0 : Array Value} {Z : State} (hw : HW a0 Z) : (Jvm.Cond.selects "java/lang/StringBuilder" ({ cls := "java/lang/AbstractStringBuilder", name := "ensureCapacityInternal", desc := "(I)V" } : Jvm.MethodName) ({ cls := "java/lang/AbstractStringBuilder", name := "ensureCapacityInternal", desc := "(I)V" } : Jvm.MethodName) : Jvm.Cond).before a0 Z = true := hw _ (List.mem_of_getElem? (i := 103) rfl)
theorem w104 {a0 : Array Value} {Z : State} (hw : HW a0 Z) : (Jvm.Cond.code ({ cls := "java/lang/AbstractStringBuilder", name := "ensureCapacityInternal", desc := "(I)V" } : Jvm.MethodName) jdk_68_method_9_code (3 : Nat) (Option.none : Option Jvm.ClassFile.FieldType) : Jvm.Cond).before a0 Z = true := hw _ (List.mem_of_getElem? (i := 104) rfl)
theorem w105 {a0 : Array Value} {Z : State} (hw : HW a0 Z) : (Jvm.Cond.methodLink "java/lang/AbstractStringBuilder" (208 : Nat) ({ cls := "java/lang/AbstractStringBuilder", name := "putStringAt", desc := "(ILjava/lang/String;)V" } : Jvm.MethodName) : Jvm.Cond).before a0 Z = true := hw _ (List.mem_of_getElem? (i := 105) rfl)
theorem w106 {a0 : Array Value} {Z : State} (hw : HW a0 Z) : (Jvm.Cond.instanceMethod ({ cls := "java/lang/AbstractStringBuilder", name := "putStringAt", desc := "(ILjava/lang/String;)V" } : Jvm.MethodName) : Jvm.Cond).before a0 Z = true := hw _ (List.mem_of_getElem? (i := 106) rfl)
theorem w107 {a0 : Array Value} {Z : State} (hw : HW a0 Z) : (Jvm.Cond.privateMethod ({ cls := "java/lang/AbstractStringBuilder", name := "putStringAt", desc := "(ILjava/lang/String;)V" } : Jvm.MethodName) : Jvm.Cond).before a0 Z = true := hw _ (List.mem_of_getElem? (i := 107) rfl)
theorem w109 {a0 : Array Value} {Z : State} (hw : HW a0 Z) : (Jvm.Cond.code ({ cls := "java/lang/AbstractStringBuilder", name := "putStringAt", desc := "(ILjava/lang/String;)V" } : Jvm.MethodName) jdk_68_method_73_code (3 : Nat) (Option.none : Option Jvm.ClassFile.FieldType) : Jvm.Cond).before a0 Z = true := hw _ (List.mem_of_getElem? (i := 109) rfl)
theorem w110 {a0 : Array Value} {Z : State} (hw : HW a0 Z) : (Jvm.Cond.methodLink "java/lang/AbstractStringBuilder" (397 : Nat) ({ cls := "java/lang/AbstractStringBuilder", name := "inflateIfNeededFor", desc := "(Ljava/lang/String;)V" } : Jvm.MethodName) : Jvm.Cond).before a0 Z = true := hw _ (List.mem_of_getElem? (i := 110) rfl)
theorem w111 {a0 : Array Value} {Z : State} (hw : HW a0 Z) : (Jvm.Cond.instanceMethod ({ cls := "java/lang/AbstractStringBuilder", name := "inflateIfNeededFor", desc := "(Ljava/lang/String;)V" } : Jvm.MethodName) : Jvm.Cond).before a0 Z = true := hw _ (List.mem_of_getElem? (i := 111) rfl)
theorem w112 {a0 : Array Value} {Z : State} (hw : HW a0 Z) : (Jvm.Cond.privateMethod ({ cls := "java/lang/AbstractStringBuilder", name := "inflateIfNeededFor", desc := "(Ljava/lang/String;)V" } : Jvm.MethodName) : Jvm.Cond).before a0 Z = true := hw _ (List.mem_of_getElem? (i := 112) rfl)
theorem w114 {a0 : Array Value} {Z : State} (hw : HW a0 Z) : (Jvm.Cond.code ({ cls := "java/lang/AbstractStringBuilder", name := "inflateIfNeededFor", desc := "(Ljava/lang/String;)V" } : Jvm.MethodName) jdk_68_method_71_code (2 : Nat) (Option.none : Option Jvm.ClassFile.FieldType) : Jvm.Cond).before a0 Z = true := hw _ (List.mem_of_getElem? (i := 114) rfl)
theorem w115 {a0 : Array Value} {Z : State} (hw : HW a0 Z) : (Jvm.Cond.methodLink "java/lang/AbstractStringBuilder" (40 : Nat) ({ cls := "java/lang/String", name := "coder", desc := "()B" } : Jvm.MethodName) : Jvm.Cond).before a0 Z = true := hw _ (List.mem_of_getElem? (i := 115) rfl)
theorem w116 {a0 : Array Value} {Z : State} (hw : HW a0 Z) : (Jvm.Cond.methodLink "java/lang/AbstractStringBuilder" (399 : Nat) ({ cls := "java/lang/String", name := "getBytes", desc := "([BIB)V" } : Jvm.MethodName) : Jvm.Cond).before a0 Z = true := hw _ (List.mem_of_getElem? (i := 116) rfl)
theorem w117 {a0 : Array Value} {Z : State} (hw : HW a0 Z) : (Jvm.Cond.declares ({ cls := "java/lang/String", name := "getBytes", desc := "([BIB)V" } : Jvm.MethodName) : Jvm.Cond).before a0 Z = true := hw _ (List.mem_of_getElem? (i := 117) rfl)
theorem w118 {a0 : Array Value} {Z : State} (hw : HW a0 Z) : (Jvm.Cond.instanceMethod ({ cls := "java/lang/String", name := "getBytes", desc := "([BIB)V" } : Jvm.MethodName) : Jvm.Cond).before a0 Z = true := hw _ (List.mem_of_getElem? (i := 118) rfl)
theorem w119 {a0 : Array Value} {Z : State} (hw : HW a0 Z) : (Jvm.Cond.selects "java/lang/String" ({ cls := "java/lang/String", name := "getBytes", desc := "([BIB)V" } : Jvm.MethodName) ({ cls := "java/lang/String", name := "getBytes", desc := "([BIB)V" } : Jvm.MethodName) : Jvm.Cond).before a0 Z = true := hw _ (List.mem_of_getElem? (i := 119) rfl)
theorem w120 {a0 : Array Value} {Z : State} (hw : HW a0 Z) : (Jvm.Cond.code ({ cls := "java/lang/String", name := "getBytes", desc := "([BIB)V" } : Jvm.MethodName) jdk_42_method_147_code (4 : Nat) (Option.none : Option Jvm.ClassFile.FieldType) : Jvm.Cond).before a0 Z = true := hw _ (List.mem_of_getElem? (i := 120) rfl)
theorem w121 {a0 : Array Value} {Z : State} (hw : HW a0 Z) : (Jvm.Cond.methodLink "java/lang/String" (212 : Nat) ({ cls := "java/lang/System", name := "arraycopy", desc := "(Ljava/lang/Object;ILjava/lang/Object;II)V" } : Jvm.MethodName) : Jvm.Cond).before a0 Z = true := hw _ (List.mem_of_getElem? (i := 121) rfl)
theorem w122 {a0 : Array Value} {Z : State} (hw : HW a0 Z) : (Jvm.Cond.static ({ cls := "java/lang/System", name := "arraycopy", desc := "(Ljava/lang/Object;ILjava/lang/Object;II)V" } : Jvm.MethodName) : Jvm.Cond).before a0 Z = true := hw _ (List.mem_of_getElem? (i := 122) rfl)
theorem w123 {a0 : Array Value} {Z : State} (hw : HW a0 Z) : (Jvm.Cond.initialized "java/lang/System" : Jvm.Cond).before a0 Z = true := hw _ (List.mem_of_getElem? (i := 123) rfl)
theorem w124 {a0 : Array Value} {Z : State} (hw : HW a0 Z) : (Jvm.Cond.native ({ cls := "java/lang/System", name := "arraycopy", desc := "(Ljava/lang/Object;ILjava/lang/Object;II)V" } : Jvm.MethodName) : Jvm.Cond).before a0 Z = true := hw _ (List.mem_of_getElem? (i := 124) rfl)
theorem w127 {a0 : Array Value} {Z : State} (hw : HW a0 Z) : (Jvm.Cond.methodLink "com/example/wachter/wachter/policy/Decision" (39 : Nat) ({ cls := "java/lang/StringBuilder", name := "append", desc := "(I)Ljava/lang/StringBuilder;" } : Jvm.MethodName) : Jvm.Cond).before a0 Z = true := hw _ (List.mem_of_getElem? (i := 127) rfl)
theorem w128 {a0 : Array Value} {Z : State} (hw : HW a0 Z) : (Jvm.Cond.declares ({ cls := "java/lang/StringBuilder", name := "append", desc := "(I)Ljava/lang/StringBuilder;" } : Jvm.MethodName) : Jvm.Cond).before a0 Z = true := hw _ (List.mem_of_getElem? (i := 128) rfl)
theorem w129 {a0 : Array Value} {Z : State} (hw : HW a0 Z) : (Jvm.Cond.instanceMethod ({ cls := "java/lang/StringBuilder", name := "append", desc := "(I)Ljava/lang/StringBuilder;" } : Jvm.MethodName) : Jvm.Cond).before a0 Z = true := hw _ (List.mem_of_getElem? (i := 129) rfl)
theorem w130 {a0 : Array Value} {Z : State} (hw : HW a0 Z) : (Jvm.Cond.selects "java/lang/StringBuilder" ({ cls := "java/lang/StringBuilder", name := "append", desc := "(I)Ljava/lang/StringBuilder;" } : Jvm.MethodName) ({ cls := "java/lang/StringBuilder", name := "append", desc := "(I)Ljava/lang/StringBuilder;" } : Jvm.MethodName) : Jvm.Cond).before a0 Z = true := hw _ (List.mem_of_getElem? (i := 130) rfl)
theorem w131 {a0 : Array Value} {Z : State} (hw : HW a0 Z) : (Jvm.Cond.code ({ cls := "java/lang/StringBuilder", name := "append", desc := "(I)Ljava/lang/StringBuilder;" } : Jvm.MethodName) jdk_67_method_15_code (2 : Nat) (Option.some (Jvm.ClassFile.FieldType.object "java/lang/StringBuilder")) : Jvm.Cond).before a0 Z = true := hw _ (List.mem_of_getElem? (i := 131) rfl)
theorem w132 {a0 : Array Value} {Z : State} (hw : HW a0 Z) : (Jvm.Cond.methodLink "java/lang/StringBuilder" (53 : Nat) ({ cls := "java/lang/AbstractStringBuilder", name := "append", desc := "(I)Ljava/lang/AbstractStringBuilder;" } : Jvm.MethodName) : Jvm.Cond).before a0 Z = true := hw _ (List.mem_of_getElem? (i := 132) rfl)
theorem w133 {a0 : Array Value} {Z : State} (hw : HW a0 Z) : (Jvm.Cond.instanceMethod ({ cls := "java/lang/AbstractStringBuilder", name := "append", desc := "(I)Ljava/lang/AbstractStringBuilder;" } : Jvm.MethodName) : Jvm.Cond).before a0 Z = true := hw _ (List.mem_of_getElem? (i := 133) rfl)
theorem w135 {a0 : Array Value} {Z : State} (hw : HW a0 Z) : (Jvm.Cond.code ({ cls := "java/lang/AbstractStringBuilder", name := "append", desc := "(I)Ljava/lang/AbstractStringBuilder;" } : Jvm.MethodName) jdk_68_method_32_code (4 : Nat) (Option.some (Jvm.ClassFile.FieldType.object "java/lang/AbstractStringBuilder")) : Jvm.Cond).before a0 Z = true := hw _ (List.mem_of_getElem? (i := 135) rfl)
theorem w136 {a0 : Array Value} {Z : State} (hw : HW a0 Z) : (Jvm.Cond.methodLink "java/lang/AbstractStringBuilder" (245 : Nat) ({ cls := "java/lang/Integer", name := "stringSize", desc := "(I)I" } : Jvm.MethodName) : Jvm.Cond).before a0 Z = true := hw _ (List.mem_of_getElem? (i := 136) rfl)
theorem w137 {a0 : Array Value} {Z : State} (hw : HW a0 Z) : (Jvm.Cond.static ({ cls := "java/lang/Integer", name := "stringSize", desc := "(I)I" } : Jvm.MethodName) : Jvm.Cond).before a0 Z = true := hw _ (List.mem_of_getElem? (i := 137) rfl)
theorem w138 {a0 : Array Value} {Z : State} (hw : HW a0 Z) : (Jvm.Cond.initialized "java/lang/Integer" : Jvm.Cond).before a0 Z = true := hw _ (List.mem_of_getElem? (i := 138) rfl)
theorem w139 {a0 : Array Value} {Z : State} (hw : HW a0 Z) : (Jvm.Cond.code ({ cls := "java/lang/Integer", name := "stringSize", desc := "(I)I" } : Jvm.MethodName) jdk_33_method_13_code (4 : Nat) (Option.some Jvm.ClassFile.FieldType.int) : Jvm.Cond).before a0 Z = true := hw _ (List.mem_of_getElem? (i := 139) rfl)
theorem w140 {a0 : Array Value} {Z : State} (hw : HW a0 Z) : (Jvm.Cond.methodLink "java/lang/AbstractStringBuilder" (83 : Nat) ({ cls := "java/lang/AbstractStringBuilder", name := "isLatin1", desc := "()Z" } : Jvm.MethodName) : Jvm.Cond).before a0 Z = true := hw _ (List.mem_of_getElem? (i := 140) rfl)
theorem w141 {a0 : Array Value} {Z : State} (hw : HW a0 Z) : (Jvm.Cond.declares ({ cls := "java/lang/AbstractStringBuilder", name := "isLatin1", desc := "()Z" } : Jvm.MethodName) : Jvm.Cond).before a0 Z = true := hw _ (List.mem_of_getElem? (i := 141) rfl)
theorem w142 {a0 : Array Value} {Z : State} (hw : HW a0 Z) : (Jvm.Cond.instanceMethod ({ cls := "java/lang/AbstractStringBuilder", name := "isLatin1", desc := "()Z" } : Jvm.MethodName) : Jvm.Cond).before a0 Z = true := hw _ (List.mem_of_getElem? (i := 142) rfl)
theorem w143 {a0 : Array Value} {Z : State} (hw : HW a0 Z) : (Jvm.Cond.selects "java/lang/StringBuilder" ({ cls := "java/lang/AbstractStringBuilder", name := "isLatin1", desc := "()Z" } : Jvm.MethodName) ({ cls := "java/lang/AbstractStringBuilder", name := "isLatin1", desc := "()Z" } : Jvm.MethodName) : Jvm.Cond).before a0 Z = true := hw _ (List.mem_of_getElem? (i := 143) rfl)
theorem w144 {a0 : Array Value} {Z : State} (hw : HW a0 Z) : (Jvm.Cond.code ({ cls := "java/lang/AbstractStringBuilder", name := "isLatin1", desc := "()Z" } : Jvm.MethodName) jdk_68_method_68_code (1 : Nat) (Option.some Jvm.ClassFile.FieldType.boolean) : Jvm.Cond).before a0 Z = true := hw _ (List.mem_of_getElem? (i := 144) rfl)
theorem w145 {a0 : Array Value} {Z : State} (hw : HW a0 Z) : (Jvm.Cond.methodLink "java/lang/AbstractStringBuilder" (248 : Nat) ({ cls := "java/lang/Integer", name := "getChars", desc := "(II[B)I" } : Jvm.MethodName) : Jvm.Cond).before a0 Z = true := hw _ (List.mem_of_getElem? (i := 145) rfl)
theorem w146 {a0 : Array Value} {Z : State} (hw : HW a0 Z) : (Jvm.Cond.static ({ cls := "java/lang/Integer", name := "getChars", desc := "(II[B)I" } : Jvm.MethodName) : Jvm.Cond).before a0 Z = true := hw _ (List.mem_of_getElem? (i := 146) rfl)
theorem w147 {a0 : Array Value} {Z : State} (hw : HW a0 Z) : (Jvm.Cond.code ({ cls := "java/lang/Integer", name := "getChars", desc := "(II[B)I" } : Jvm.MethodName) jdk_33_method_12_code (7 : Nat) (Option.some Jvm.ClassFile.FieldType.int) : Jvm.Cond).before a0 Z = true := hw _ (List.mem_of_getElem? (i := 147) rfl)
theorem w148 {a0 : Array Value} {Z : State} (hw : HW a0 Z) : (Jvm.Cond.fieldLink "java/lang/Integer" (83 : Nat) "java/lang/Integer" "DigitOnes" "[B" : Jvm.Cond).before a0 Z = true := hw _ (List.mem_of_getElem? (i := 148) rfl)
theorem w149 {a0 : Array Value} {Z : State} (hw : HW a0 Z) : (Jvm.Cond.methodLink "com/example/wachter/wachter/policy/Decision" (42 : Nat) ({ cls := "java/lang/StringBuilder", name := "toString", desc := "()Ljava/lang/String;" } : Jvm.MethodName) : Jvm.Cond).before a0 Z = true := hw _ (List.mem_of_getElem? (i := 149) rfl)
theorem w150 {a0 : Array Value} {Z : State} (hw : HW a0 Z) : (Jvm.Cond.declares ({ cls := "java/lang/StringBuilder", name := "toString", desc := "()Ljava/lang/String;" } : Jvm.MethodName) : Jvm.Cond).before a0 Z = true := hw _ (List.mem_of_getElem? (i := 150) rfl)
theorem w151 {a0 : Array Value} {Z : State} (hw : HW a0 Z) : (Jvm.Cond.instanceMethod ({ cls := "java/lang/StringBuilder", name := "toString", desc := "()Ljava/lang/String;" } : Jvm.MethodName) : Jvm.Cond).before a0 Z = true := hw _ (List.mem_of_getElem? (i := 151) rfl)
theorem w152 {a0 : Array Value} {Z : State} (hw : HW a0 Z) : (Jvm.Cond.selects "java/lang/StringBuilder" ({ cls := "java/lang/StringBuilder", name := "toString", desc := "()Ljava/lang/String;" } : Jvm.MethodName) ({ cls := "java/lang/StringBuilder", name := "toString", desc := "()Ljava/lang/String;" } : Jvm.MethodName) : Jvm.Cond).before a0 Z = true := hw _ (List.mem_of_getElem? (i := 152) rfl)
theorem w153 {a0 : Array Value} {Z : State} (hw : HW a0 Z) : (Jvm.Cond.code ({ cls := "java/lang/StringBuilder", name := "toString", desc := "()Ljava/lang/String;" } : Jvm.MethodName) jdk_67_method_42_code (1 : Nat) (Option.some (Jvm.ClassFile.FieldType.object "java/lang/String")) : Jvm.Cond).before a0 Z = true := hw _ (List.mem_of_getElem? (i := 153) rfl)
theorem w154 {a0 : Array Value} {Z : State} (hw : HW a0 Z) : (Jvm.Cond.classLink "java/lang/StringBuilder" (18 : Nat) "java/lang/String" : Jvm.Cond).before a0 Z = true := hw _ (List.mem_of_getElem? (i := 154) rfl)
theorem w155 {a0 : Array Value} {Z : State} (hw : HW a0 Z) : (Jvm.Cond.methodLink "java/lang/StringBuilder" (137 : Nat) ({ cls := "java/lang/String", name := "<init>", desc := "(Ljava/lang/StringBuilder;)V" } : Jvm.MethodName) : Jvm.Cond).before a0 Z = true := hw _ (List.mem_of_getElem? (i := 155) rfl)
theorem w156 {a0 : Array Value} {Z : State} (hw : HW a0 Z) : (Jvm.Cond.instanceMethod ({ cls := "java/lang/String", name := "<init>", desc := "(Ljava/lang/StringBuilder;)V" } : Jvm.MethodName) : Jvm.Cond).before a0 Z = true := hw _ (List.mem_of_getElem? (i := 156) rfl)
theorem w157 {a0 : Array Value} {Z : State} (hw : HW a0 Z) : (Jvm.Cond.code ({ cls := "java/lang/String", name := "<init>", desc := "(Ljava/lang/StringBuilder;)V" } : Jvm.MethodName) jdk_42_method_53_code (2 : Nat) (Option.none : Option Jvm.ClassFile.FieldType) : Jvm.Cond).before a0 Z = true := hw _ (List.mem_of_getElem? (i := 157) rfl)
theorem w158 {a0 : Array Value} {Z : State} (hw : HW a0 Z) : (Jvm.Cond.methodLink "java/lang/String" (489 : Nat) ({ cls := "java/lang/String", name := "<init>", desc := "(Ljava/lang/AbstractStringBuilder;Ljava/lang/Void;)V" } : Jvm.MethodName) : Jvm.Cond).before a0 Z = true := hw _ (List.mem_of_getElem? (i := 158) rfl)
theorem w159 {a0 : Array Value} {Z : State} (hw : HW a0 Z) : (Jvm.Cond.instanceMethod ({ cls := "java/lang/String", name := "<init>", desc := "(Ljava/lang/AbstractStringBuilder;Ljava/lang/Void;)V" } : Jvm.MethodName) : Jvm.Cond).before a0 Z = true := hw _ (List.mem_of_getElem? (i := 159) rfl)
theorem w160 {a0 : Array Value} {Z : State} (hw : HW a0 Z) : (Jvm.Cond.code ({ cls := "java/lang/String", name := "<init>", desc := "(Ljava/lang/AbstractStringBuilder;Ljava/lang/Void;)V" } : Jvm.MethodName) jdk_42_method_150_code (5 : Nat) (Option.none : Option Jvm.ClassFile.FieldType) : Jvm.Cond).before a0 Z = true := hw _ (List.mem_of_getElem? (i := 160) rfl)
theorem w161 {a0 : Array Value} {Z : State} (hw : HW a0 Z) : (Jvm.Cond.methodLink "java/lang/String" (552 : Nat) ({ cls := "java/lang/AbstractStringBuilder", name := "getValue", desc := "()[B" } : Jvm.MethodName) : Jvm.Cond).before a0 Z = true := hw _ (List.mem_of_getElem? (i := 161) rfl)
theorem w162 {a0 : Array Value} {Z : State} (hw : HW a0 Z) : (Jvm.Cond.declares ({ cls := "java/lang/AbstractStringBuilder", name := "getValue", desc := "()[B" } : Jvm.MethodName) : Jvm.Cond).before a0 Z = true := hw _ (List.mem_of_getElem? (i := 162) rfl)
theorem w163 {a0 : Array Value} {Z : State} (hw : HW a0 Z) : (Jvm.Cond.instanceMethod ({ cls := "java/lang/AbstractStringBuilder", name := "getValue", desc := "()[B" } : Jvm.MethodName) : Jvm.Cond).before a0 Z = true := hw _ (List.mem_of_getElem? (i := 163) rfl)
theorem w164 {a0 : Array Value} {Z : State} (hw : HW a0 Z) : (Jvm.Cond.selects "java/lang/StringBuilder" ({ cls := "java/lang/AbstractStringBuilder", name := "getValue", desc := "()[B" } : Jvm.MethodName) ({ cls := "java/lang/AbstractStringBuilder", name := "getValue", desc := "()[B" } : Jvm.MethodName) : Jvm.Cond).before a0 Z = true := hw _ (List.mem_of_getElem? (i := 164) rfl)
theorem w165 {a0 : Array Value} {Z : State} (hw : HW a0 Z) : (Jvm.Cond.code ({ cls := "java/lang/AbstractStringBuilder", name := "getValue", desc := "()[B" } : Jvm.MethodName) jdk_68_method_64_code (1 : Nat) (Option.some (Jvm.ClassFile.FieldType.array Jvm.ClassFile.FieldType.byte)) : Jvm.Cond).before a0 Z = true := hw _ (List.mem_of_getElem? (i := 165) rfl)
theorem w166 {a0 : Array Value} {Z : State} (hw : HW a0 Z) : (Jvm.Cond.methodLink "java/lang/String" (549 : Nat) ({ cls := "java/lang/AbstractStringBuilder", name := "length", desc := "()I" } : Jvm.MethodName) : Jvm.Cond).before a0 Z = true := hw _ (List.mem_of_getElem? (i := 166) rfl)
theorem w167 {a0 : Array Value} {Z : State} (hw : HW a0 Z) : (Jvm.Cond.declares ({ cls := "java/lang/AbstractStringBuilder", name := "length", desc := "()I" } : Jvm.MethodName) : Jvm.Cond).before a0 Z = true := hw _ (List.mem_of_getElem? (i := 167) rfl)
theorem w168 {a0 : Array Value} {Z : State} (hw : HW a0 Z) : (Jvm.Cond.instanceMethod ({ cls := "java/lang/AbstractStringBuilder", name := "length", desc := "()I" } : Jvm.MethodName) : Jvm.Cond).before a0 Z = true := hw _ (List.mem_of_getElem? (i := 168) rfl)
theorem w169 {a0 : Array Value} {Z : State} (hw : HW a0 Z) : (Jvm.Cond.selects "java/lang/StringBuilder" ({ cls := "java/lang/AbstractStringBuilder", name := "length", desc := "()I" } : Jvm.MethodName) ({ cls := "java/lang/StringBuilder", name := "length", desc := "()I" } : Jvm.MethodName) : Jvm.Cond).before a0 Z = true := hw _ (List.mem_of_getElem? (i := 169) rfl)
theorem w170 {a0 : Array Value} {Z : State} (hw : HW a0 Z) : (Jvm.Cond.instanceMethod ({ cls := "java/lang/StringBuilder", name := "length", desc := "()I" } : Jvm.MethodName) : Jvm.Cond).before a0 Z = true := hw _ (List.mem_of_getElem? (i := 170) rfl)
theorem w171 {a0 : Array Value} {Z : State} (hw : HW a0 Z) : (Jvm.Cond.code ({ cls := "java/lang/StringBuilder", name := "length", desc := "()I" } : Jvm.MethodName) jdk_67_method_93_code (1 : Nat) (Option.some Jvm.ClassFile.FieldType.int) : Jvm.Cond).before a0 Z = true := hw _ (List.mem_of_getElem? (i := 171) rfl)
theorem w172 {a0 : Array Value} {Z : State} (hw : HW a0 Z) : (Jvm.Cond.methodLink "java/lang/StringBuilder" (343 : Nat) ({ cls := "java/lang/AbstractStringBuilder", name := "length", desc := "()I" } : Jvm.MethodName) : Jvm.Cond).before a0 Z = true := hw _ (List.mem_of_getElem? (i := 172) rfl)
theorem w173 {a0 : Array Value} {Z : State} (hw : HW a0 Z) : (Jvm.Cond.code ({ cls := "java/lang/AbstractStringBuilder", name := "length", desc := "()I" } : Jvm.MethodName) jdk_68_method_6_code (1 : Nat) (Option.some Jvm.ClassFile.FieldType.int) : Jvm.Cond).before a0 Z = true := hw _ (List.mem_of_getElem? (i := 173) rfl)
theorem w174 {a0 : Array Value} {Z : State} (hw : HW a0 Z) : (Jvm.Cond.methodLink "java/lang/String" (1047 : Nat) ({ cls := "java/lang/AbstractStringBuilder", name := "isLatin1", desc := "()Z" } : Jvm.MethodName) : Jvm.Cond).before a0 Z = true := hw _ (List.mem_of_getElem? (i := 174) rfl)
theorem w175 {a0 : Array Value} {Z : State} (hw : HW a0 Z) : (Jvm.Cond.methodLink "java/lang/String" (54 : Nat) ({ cls := "java/util/Arrays", name := "copyOfRange", desc := "([BII)[B" } : Jvm.MethodName) : Jvm.Cond).before a0 Z = true := hw _ (List.mem_of_getElem? (i := 175) rfl)
theorem w176 {a0 : Array Value} {Z : State} (hw : HW a0 Z) : (Jvm.Cond.static ({ cls := "java/util/Arrays", name := "copyOfRange", desc := "([BII)[B" } : Jvm.MethodName) : Jvm.Cond).before a0 Z = true := hw _ (List.mem_of_getElem? (i := 176) rfl)
theorem w177 {a0 : Array Value} {Z : State} (hw : HW a0 Z) : (Jvm.Cond.initialized "java/util/Arrays" : Jvm.Cond).before a0 Z = true := hw _ (List.mem_of_getElem? (i := 177) rfl)
theorem w178 {a0 : Array Value} {Z : State} (hw : HW a0 Z) : (Jvm.Cond.code ({ cls := "java/util/Arrays", name := "copyOfRange", desc := "([BII)[B" } : Jvm.MethodName) jdk_65_method_132_code (3 : Nat) (Option.some (Jvm.ClassFile.FieldType.array Jvm.ClassFile.FieldType.byte)) : Jvm.Cond).before a0 Z = true := hw _ (List.mem_of_getElem? (i := 178) rfl)
theorem w179 {a0 : Array Value} {Z : State} (hw : HW a0 Z) : (Jvm.Cond.methodLink "java/util/Arrays" (339 : Nat) ({ cls := "java/util/Arrays", name := "copyOfRangeByte", desc := "([BII)[B" } : Jvm.MethodName) : Jvm.Cond).before a0 Z = true := hw _ (List.mem_of_getElem? (i := 179) rfl)
theorem w180 {a0 : Array Value} {Z : State} (hw : HW a0 Z) : (Jvm.Cond.static ({ cls := "java/util/Arrays", name := "copyOfRangeByte", desc := "([BII)[B" } : Jvm.MethodName) : Jvm.Cond).before a0 Z = true := hw _ (List.mem_of_getElem? (i := 180) rfl)
theorem w181 {a0 : Array Value} {Z : State} (hw : HW a0 Z) : (Jvm.Cond.code ({ cls := "java/util/Arrays", name := "copyOfRangeByte", desc := "([BII)[B" } : Jvm.MethodName) jdk_65_method_133_code (5 : Nat) (Option.some (Jvm.ClassFile.FieldType.array Jvm.ClassFile.FieldType.byte)) : Jvm.Cond).before a0 Z = true := hw _ (List.mem_of_getElem? (i := 181) rfl)
theorem w182 {a0 : Array Value} {Z : State} (hw : HW a0 Z) : (Jvm.Cond.methodLink "java/util/Arrays" (343 : Nat) ({ cls := "java/util/Arrays", name := "checkLength", desc := "(II)V" } : Jvm.MethodName) : Jvm.Cond).before a0 Z = true := hw _ (List.mem_of_getElem? (i := 182) rfl)
theorem w183 {a0 : Array Value} {Z : State} (hw : HW a0 Z) : (Jvm.Cond.static ({ cls := "java/util/Arrays", name := "checkLength", desc := "(II)V" } : Jvm.MethodName) : Jvm.Cond).before a0 Z = true := hw _ (List.mem_of_getElem? (i := 183) rfl)
theorem w184 {a0 : Array Value} {Z : State} (hw : HW a0 Z) : (Jvm.Cond.code ({ cls := "java/util/Arrays", name := "checkLength", desc := "(II)V" } : Jvm.MethodName) jdk_65_method_131_code (2 : Nat) (Option.none : Option Jvm.ClassFile.FieldType) : Jvm.Cond).before a0 Z = true := hw _ (List.mem_of_getElem? (i := 184) rfl)
theorem w185 {a0 : Array Value} {Z : State} (hw : HW a0 Z) : (Jvm.Cond.methodLink "java/util/Arrays" (304 : Nat) ({ cls := "java/lang/Math", name := "min", desc := "(II)I" } : Jvm.MethodName) : Jvm.Cond).before a0 Z = true := hw _ (List.mem_of_getElem? (i := 185) rfl)
theorem w186 {a0 : Array Value} {Z : State} (hw : HW a0 Z) : (Jvm.Cond.static ({ cls := "java/lang/Math", name := "min", desc := "(II)I" } : Jvm.MethodName) : Jvm.Cond).before a0 Z = true := hw _ (List.mem_of_getElem? (i := 186) rfl)
theorem w187 {a0 : Array Value} {Z : State} (hw : HW a0 Z) : (Jvm.Cond.initialized "java/lang/Math" : Jvm.Cond).before a0 Z = true := hw _ (List.mem_of_getElem? (i := 187) rfl)
theorem w188 {a0 : Array Value} {Z : State} (hw : HW a0 Z) : (Jvm.Cond.code ({ cls := "java/lang/Math", name := "min", desc := "(II)I" } : Jvm.MethodName) jdk_29_method_69_code (2 : Nat) (Option.some Jvm.ClassFile.FieldType.int) : Jvm.Cond).before a0 Z = true := hw _ (List.mem_of_getElem? (i := 188) rfl)
theorem w189 {a0 : Array Value} {Z : State} (hw : HW a0 Z) : (Jvm.Cond.methodLink "java/util/Arrays" (150 : Nat) ({ cls := "java/lang/System", name := "arraycopy", desc := "(Ljava/lang/Object;ILjava/lang/Object;II)V" } : Jvm.MethodName) : Jvm.Cond).before a0 Z = true := hw _ (List.mem_of_getElem? (i := 189) rfl)
theorem w190 {a0 : Array Value} {Z : State} (hw : HW a0 Z) : (Jvm.Cond.methodLink "com/example/wachter/wachter/policy/DecisionAllowedByPinLaw" (27 : Nat) ({ cls := "com/example/wachter/wachter/policy/DecisionAllowedByPinLaw", name := "numDigits", desc := "(I)I" } : Jvm.MethodName) : Jvm.Cond).before a0 Z = true := hw _ (List.mem_of_getElem? (i := 190) rfl)
theorem w191 {a0 : Array Value} {Z : State} (hw : HW a0 Z) : (Jvm.Cond.static ({ cls := "com/example/wachter/wachter/policy/DecisionAllowedByPinLaw", name := "numDigits", desc := "(I)I" } : Jvm.MethodName) : Jvm.Cond).before a0 Z = true := hw _ (List.mem_of_getElem? (i := 191) rfl)
theorem w192 {a0 : Array Value} {Z : State} (hw : HW a0 Z) : (Jvm.Cond.initialized "com/example/wachter/wachter/policy/DecisionAllowedByPinLaw" : Jvm.Cond).before a0 Z = true := hw _ (List.mem_of_getElem? (i := 192) rfl)
theorem w193 {a0 : Array Value} {Z : State} (hw : HW a0 Z) : (Jvm.Cond.code ({ cls := "com/example/wachter/wachter/policy/DecisionAllowedByPinLaw", name := "numDigits", desc := "(I)I" } : Jvm.MethodName) method_4_code (1 : Nat) (Option.some Jvm.ClassFile.FieldType.int) : Jvm.Cond).before a0 Z = true := hw _ (List.mem_of_getElem? (i := 193) rfl)
theorem w194 {a0 : Array Value} {Z : State} (hw : HW a0 Z) : (Jvm.Cond.constant "com/example/wachter/wachter/policy/DecisionAllowedByPinLaw" (51 : Nat) (1000000000 : Int32) : Jvm.Cond).before a0 Z = true := hw _ (List.mem_of_getElem? (i := 194) rfl)
theorem w195 {a0 : Array Value} {Z : State} (hw : HW a0 Z) : (Jvm.Cond.constant "com/example/wachter/wachter/policy/DecisionAllowedByPinLaw" (52 : Nat) (100000000 : Int32) : Jvm.Cond).before a0 Z = true := hw _ (List.mem_of_getElem? (i := 195) rfl)
theorem w196 {a0 : Array Value} {Z : State} (hw : HW a0 Z) : (Jvm.Cond.constant "com/example/wachter/wachter/policy/DecisionAllowedByPinLaw" (53 : Nat) (10000000 : Int32) : Jvm.Cond).before a0 Z = true := hw _ (List.mem_of_getElem? (i := 196) rfl)
theorem w197 {a0 : Array Value} {Z : State} (hw : HW a0 Z) : (Jvm.Cond.constant "com/example/wachter/wachter/policy/DecisionAllowedByPinLaw" (54 : Nat) (1000000 : Int32) : Jvm.Cond).before a0 Z = true := hw _ (List.mem_of_getElem? (i := 197) rfl)
theorem w198 {a0 : Array Value} {Z : State} (hw : HW a0 Z) : (Jvm.Cond.constant "com/example/wachter/wachter/policy/DecisionAllowedByPinLaw" (55 : Nat) (100000 : Int32) : Jvm.Cond).before a0 Z = true := hw _ (List.mem_of_getElem? (i := 198) rfl)
theorem w199 {a0 : Array Value} {Z : State} (hw : HW a0 Z) : (Jvm.Cond.methodLink "com/example/wachter/wachter/policy/DecisionAllowedByPinLaw" (33 : Nat) ({ cls := "java/lang/String", name := "length", desc := "()I" } : Jvm.MethodName) : Jvm.Cond).before a0 Z = true := hw _ (List.mem_of_getElem? (i := 199) rfl)
theorem w201 {a0 : Array Value} {Z : State} (hw : HW a0 Z) : (Jvm.Cond.methodLink "com/example/wachter/wachter/policy/DecisionAllowedByPinLaw" (39 : Nat) ({ cls := "com/example/wachter/wachter/policy/DecisionAllowedByPinLaw", name := "same", desc := "(Ljava/lang/String;Ljava/lang/String;I)Z" } : Jvm.MethodName) : Jvm.Cond).before a0 Z = true := hw _ (List.mem_of_getElem? (i := 201) rfl)
theorem w202 {a0 : Array Value} {Z : State} (hw : HW a0 Z) : (Jvm.Cond.static ({ cls := "com/example/wachter/wachter/policy/DecisionAllowedByPinLaw", name := "same", desc := "(Ljava/lang/String;Ljava/lang/String;I)Z" } : Jvm.MethodName) : Jvm.Cond).before a0 Z = true := hw _ (List.mem_of_getElem? (i := 202) rfl)
theorem w203 {a0 : Array Value} {Z : State} (hw : HW a0 Z) : (Jvm.Cond.code ({ cls := "com/example/wachter/wachter/policy/DecisionAllowedByPinLaw", name := "same", desc := "(Ljava/lang/String;Ljava/lang/String;I)Z" } : Jvm.MethodName) method_3_code (3 : Nat) (Option.some Jvm.ClassFile.FieldType.boolean) : Jvm.Cond).before a0 Z = true := hw _ (List.mem_of_getElem? (i := 203) rfl)
theorem w204 {a0 : Array Value} {Z : State} (hw : HW a0 Z) : (Jvm.Cond.methodLink "com/example/wachter/wachter/policy/DecisionAllowedByPinLaw" (43 : Nat) ({ cls := "java/lang/String", name := "charAt", desc := "(I)C" } : Jvm.MethodName) : Jvm.Cond).before a0 Z = true := hw _ (List.mem_of_getElem? (i := 204) rfl)
theorem w205 {a0 : Array Value} {Z : State} (hw : HW a0 Z) : (Jvm.Cond.declares ({ cls := "java/lang/String", name := "charAt", desc := "(I)C" } : Jvm.MethodName) : Jvm.Cond).before a0 Z = true := hw _ (List.mem_of_getElem? (i := 205) rfl)
theorem w206 {a0 : Array Value} {Z : State} (hw : HW a0 Z) : (Jvm.Cond.instanceMethod ({ cls := "java/lang/String", name := "charAt", desc := "(I)C" } : Jvm.MethodName) : Jvm.Cond).before a0 Z = true := hw _ (List.mem_of_getElem? (i := 206) rfl)
theorem w207 {a0 : Array Value} {Z : State} (hw : HW a0 Z) : (Jvm.Cond.selects "java/lang/String" ({ cls := "java/lang/String", name := "charAt", desc := "(I)C" } : Jvm.MethodName) ({ cls := "java/lang/String", name := "charAt", desc := "(I)C" } : Jvm.MethodName) : Jvm.Cond).before a0 Z = true := hw _ (List.mem_of_getElem? (i := 207) rfl)
theorem w226 {a0 : Array Value} {Z : State} (hw : HW a0 Z) : (Jvm.Cond.methodLink "com/example/wachter/wachter/policy/DecisionAllowedByPinLaw" (47 : Nat) ({ cls := "com/example/wachter/wachter/policy/DecisionAllowedByPinLaw", name := "digitOk", desc := "(Ljava/lang/String;III)Z" } : Jvm.MethodName) : Jvm.Cond).before a0 Z = true := hw _ (List.mem_of_getElem? (i := 226) rfl)
theorem w227 {a0 : Array Value} {Z : State} (hw : HW a0 Z) : (Jvm.Cond.static ({ cls := "com/example/wachter/wachter/policy/DecisionAllowedByPinLaw", name := "digitOk", desc := "(Ljava/lang/String;III)Z" } : Jvm.MethodName) : Jvm.Cond).before a0 Z = true := hw _ (List.mem_of_getElem? (i := 227) rfl)
theorem w228 {a0 : Array Value} {Z : State} (hw : HW a0 Z) : (Jvm.Cond.code ({ cls := "com/example/wachter/wachter/policy/DecisionAllowedByPinLaw", name := "digitOk", desc := "(Ljava/lang/String;III)Z" } : Jvm.MethodName) method_5_code (7 : Nat) (Option.some Jvm.ClassFile.FieldType.boolean) : Jvm.Cond).before a0 Z = true := hw _ (List.mem_of_getElem? (i := 228) rfl)
theorem w229 {a0 : Array Value} {Z : State} (hw : HW a0 Z) : (Jvm.Cond.arrayClass Jvm.ClassFile.FieldType.int : Jvm.Cond).before a0 Z = true := hw _ (List.mem_of_getElem? (i := 229) rfl)
theorem w230 {a0 : Array Value} {Z : State} (hw : HW a0 Z) : (Jvm.Cond.methodLink "java/lang/AbstractStringBuilder" (104 : Nat) ({ cls := "java/lang/AbstractStringBuilder", name := "newCapacity", desc := "(I)I" } : Jvm.MethodName) : Jvm.Cond).before a0 Z = true := hw _ (List.mem_of_getElem? (i := 230) rfl)
theorem w231 {a0 : Array Value} {Z : State} (hw : HW a0 Z) : (Jvm.Cond.instanceMethod ({ cls := "java/lang/AbstractStringBuilder", name := "newCapacity", desc := "(I)I" } : Jvm.MethodName) : Jvm.Cond).before a0 Z = true := hw _ (List.mem_of_getElem? (i := 231) rfl)
theorem w232 {a0 : Array Value} {Z : State} (hw : HW a0 Z) : (Jvm.Cond.privateMethod ({ cls := "java/lang/AbstractStringBuilder", name := "newCapacity", desc := "(I)I" } : Jvm.MethodName) : Jvm.Cond).before a0 Z = true := hw _ (List.mem_of_getElem? (i := 232) rfl)
theorem w234 {a0 : Array Value} {Z : State} (hw : HW a0 Z) : (Jvm.Cond.code ({ cls := "java/lang/AbstractStringBuilder", name := "newCapacity", desc := "(I)I" } : Jvm.MethodName) jdk_68_method_10_code (6 : Nat) (Option.some Jvm.ClassFile.FieldType.int) : Jvm.Cond).before a0 Z = true := hw _ (List.mem_of_getElem? (i := 234) rfl)
theorem w235 {a0 : Array Value} {Z : State} (hw : HW a0 Z) : (Jvm.Cond.methodLink "java/lang/AbstractStringBuilder" (114 : Nat) ({ cls := "jdk/internal/util/ArraysSupport", name := "newLength", desc := "(III)I" } : Jvm.MethodName) : Jvm.Cond).before a0 Z = true := hw _ (List.mem_of_getElem? (i := 235) rfl)
theorem w236 {a0 : Array Value} {Z : State} (hw : HW a0 Z) : (Jvm.Cond.static ({ cls := "jdk/internal/util/ArraysSupport", name := "newLength", desc := "(III)I" } : Jvm.MethodName) : Jvm.Cond).before a0 Z = true := hw _ (List.mem_of_getElem? (i := 236) rfl)
theorem w237 {a0 : Array Value} {Z : State} (hw : HW a0 Z) : (Jvm.Cond.initialized "jdk/internal/util/ArraysSupport" : Jvm.Cond).before a0 Z = true := hw _ (List.mem_of_getElem? (i := 237) rfl)
theorem w238 {a0 : Array Value} {Z : State} (hw : HW a0 Z) : (Jvm.Cond.code ({ cls := "jdk/internal/util/ArraysSupport", name := "newLength", desc := "(III)I" } : Jvm.MethodName) jdk_48_method_27_code (4 : Nat) (Option.some Jvm.ClassFile.FieldType.int) : Jvm.Cond).before a0 Z = true := hw _ (List.mem_of_getElem? (i := 238) rfl)
theorem w239 {a0 : Array Value} {Z : State} (hw : HW a0 Z) : (Jvm.Cond.methodLink "jdk/internal/util/ArraysSupport" (194 : Nat) ({ cls := "java/lang/Math", name := "max", desc := "(II)I" } : Jvm.MethodName) : Jvm.Cond).before a0 Z = true := hw _ (List.mem_of_getElem? (i := 239) rfl)
theorem w240 {a0 : Array Value} {Z : State} (hw : HW a0 Z) : (Jvm.Cond.static ({ cls := "java/lang/Math", name := "max", desc := "(II)I" } : Jvm.MethodName) : Jvm.Cond).before a0 Z = true := hw _ (List.mem_of_getElem? (i := 240) rfl)
theorem w241 {a0 : Array Value} {Z : State} (hw : HW a0 Z) : (Jvm.Cond.code ({ cls := "java/lang/Math", name := "max", desc := "(II)I" } : Jvm.MethodName) jdk_29_method_65_code (2 : Nat) (Option.some Jvm.ClassFile.FieldType.int) : Jvm.Cond).before a0 Z = true := hw _ (List.mem_of_getElem? (i := 241) rfl)
theorem w242 {a0 : Array Value} {Z : State} (hw : HW a0 Z) : (Jvm.Cond.constant "jdk/internal/util/ArraysSupport" (200 : Nat) (2147483639 : Int32) : Jvm.Cond).before a0 Z = true := hw _ (List.mem_of_getElem? (i := 242) rfl)
theorem w243 {a0 : Array Value} {Z : State} (hw : HW a0 Z) : (Jvm.Cond.constant "java/lang/AbstractStringBuilder" (39 : Nat) (2147483647 : Int32) : Jvm.Cond).before a0 Z = true := hw _ (List.mem_of_getElem? (i := 243) rfl)
theorem w244 {a0 : Array Value} {Z : State} (hw : HW a0 Z) : (Jvm.Cond.methodLink "java/lang/AbstractStringBuilder" (108 : Nat) ({ cls := "java/util/Arrays", name := "copyOf", desc := "([BI)[B" } : Jvm.MethodName) : Jvm.Cond).before a0 Z = true := hw _ (List.mem_of_getElem? (i := 244) rfl)
theorem w245 {a0 : Array Value} {Z : State} (hw : HW a0 Z) : (Jvm.Cond.static ({ cls := "java/util/Arrays", name := "copyOf", desc := "([BI)[B" } : Jvm.MethodName) : Jvm.Cond).before a0 Z = true := hw _ (List.mem_of_getElem? (i := 245) rfl)
theorem w246 {a0 : Array Value} {Z : State} (hw : HW a0 Z) : (Jvm.Cond.code ({ cls := "java/util/Arrays", name := "copyOf", desc := "([BI)[B" } : Jvm.MethodName) jdk_65_method_121_code (3 : Nat) (Option.some (Jvm.ClassFile.FieldType.array Jvm.ClassFile.FieldType.byte)) : Jvm.Cond).before a0 Z = true := hw _ (List.mem_of_getElem? (i := 246) rfl)
theorem w247 {a0 : Array Value} {Z : State} (hw : HW a0 Z) : (Jvm.Cond.fieldLink "java/lang/Integer" (87 : Nat) "java/lang/Integer" "DigitTens" "[B" : Jvm.Cond).before a0 Z = true := hw _ (List.mem_of_getElem? (i := 247) rfl)
theorem w248 {a0 : Array Value} {Z : State} (hw : HW a0 Z) : (Jvm.Cond.methodLink "java/util/Arrays" (310 : Nat) ({ cls := "[B", name := "clone", desc := "()Ljava/lang/Object;" } : Jvm.MethodName) : Jvm.Cond).before a0 Z = true := hw _ (List.mem_of_getElem? (i := 248) rfl)
theorem w249 {a0 : Array Value} {Z : State} (hw : HW a0 Z) : (Jvm.Cond.sameMethod "[B" "java/lang/Object" "clone" "()Ljava/lang/Object;" : Jvm.Cond).before a0 Z = true := hw _ (List.mem_of_getElem? (i := 249) rfl)
theorem w251 {a0 : Array Value} {Z : State} (hw : HW a0 Z) : (Jvm.Cond.instanceMethod ({ cls := "java/lang/Object", name := "clone", desc := "()Ljava/lang/Object;" } : Jvm.MethodName) : Jvm.Cond).before a0 Z = true := hw _ (List.mem_of_getElem? (i := 251) rfl)
theorem w252 {a0 : Array Value} {Z : State} (hw : HW a0 Z) : (Jvm.Cond.selects "[B" ({ cls := "[B", name := "clone", desc := "()Ljava/lang/Object;" } : Jvm.MethodName) ({ cls := "java/lang/Object", name := "clone", desc := "()Ljava/lang/Object;" } : Jvm.MethodName) : Jvm.Cond).before a0 Z = true := hw _ (List.mem_of_getElem? (i := 252) rfl)
theorem w253 {a0 : Array Value} {Z : State} (hw : HW a0 Z) : (Jvm.Cond.native ({ cls := "java/lang/Object", name := "clone", desc := "()Ljava/lang/Object;" } : Jvm.MethodName) : Jvm.Cond).before a0 Z = true := hw _ (List.mem_of_getElem? (i := 253) rfl)
theorem w254 {a0 : Array Value} {Z : State} (hw : HW a0 Z) : (Jvm.Cond.castable "[B" "java/lang/Cloneable" : Jvm.Cond).before a0 Z = true := hw _ (List.mem_of_getElem? (i := 254) rfl)
theorem w255 {a0 : Array Value} {Z : State} (hw : HW a0 Z) : (Jvm.Cond.classLink "java/util/Arrays" (311 : Nat) "[B" : Jvm.Cond).before a0 Z = true := hw _ (List.mem_of_getElem? (i := 255) rfl)
theorem w256 {a0 : Array Value} {Z : State} (hw : HW a0 Z) : (Jvm.Cond.castable "[B" "[B" : Jvm.Cond).before a0 Z = true := hw _ (List.mem_of_getElem? (i := 256) rfl)
theorem pd0 : parseMethodDescriptor "(I)V" = some ⟨[.int], none⟩ := by decide +kernel
theorem pd1 : parseMethodDescriptor "()I" = some ⟨[], some .int⟩ := by decide +kernel
theorem pd2 : parseMethodDescriptor "()B" = some ⟨[], some .byte⟩ := by decide +kernel
theorem pd3 : parseMethodDescriptor "(Ljava/lang/String;)V" = some ⟨[(.object "java/lang/String")], none⟩ := by decide +kernel
theorem pd4 : parseMethodDescriptor "([BIB)V" = some ⟨[(.array .byte), .int, .byte], none⟩ := by decide +kernel
theorem pd5 : parseMethodDescriptor "(ILjava/lang/String;)V" = some ⟨[.int, (.object "java/lang/String")], none⟩ := by decide +kernel
theorem pd6 : parseMethodDescriptor "(Ljava/lang/String;)Ljava/lang/AbstractStringBuilder;" = some ⟨[(.object "java/lang/String")], some (.object "java/lang/AbstractStringBuilder")⟩ := by decide +kernel
theorem pd7 : parseMethodDescriptor "(II)I" = some ⟨[.int, .int], some .int⟩ := by decide +kernel
theorem pd8 : parseMethodDescriptor "(III)I" = some ⟨[.int, .int, .int], some .int⟩ := by decide +kernel
theorem pd9 : parseMethodDescriptor "(I)I" = some ⟨[.int], some .int⟩ := by decide +kernel
theorem pd10 : parseMethodDescriptor "([BI)[B" = some ⟨[(.array .byte), .int], some (.array .byte)⟩ := by decide +kernel
theorem pd11 : parseMethodDescriptor "()Z" = some ⟨[], some .boolean⟩ := by decide +kernel
theorem pd12 : parseMethodDescriptor "(II[B)I" = some ⟨[.int, .int, (.array .byte)], some .int⟩ := by decide +kernel
theorem pd13 : parseMethodDescriptor "(I)Ljava/lang/AbstractStringBuilder;" = some ⟨[.int], some (.object "java/lang/AbstractStringBuilder")⟩ := by decide +kernel
theorem pd14 : parseMethodDescriptor "(II)V" = some ⟨[.int, .int], none⟩ := by decide +kernel
theorem pd15 : parseMethodDescriptor "([BII)[B" = some ⟨[(.array .byte), .int, .int], some (.array .byte)⟩ := by decide +kernel
theorem pd16 : parseMethodDescriptor "()[B" = some ⟨[], some (.array .byte)⟩ := by decide +kernel
theorem pd17 : parseMethodDescriptor "(Ljava/lang/AbstractStringBuilder;Ljava/lang/Void;)V" = some ⟨[(.object "java/lang/AbstractStringBuilder"), (.object "java/lang/Void")], none⟩ := by decide +kernel
theorem pd18 : parseMethodDescriptor "(Ljava/lang/StringBuilder;)V" = some ⟨[(.object "java/lang/StringBuilder")], none⟩ := by decide +kernel
theorem pd19 : parseMethodDescriptor "(ZLjava/lang/String;I)V" = some ⟨[.boolean, (.object "java/lang/String"), .int], none⟩ := by decide +kernel
theorem pd20 : parseMethodDescriptor "()V" = some ⟨[], none⟩ := by decide +kernel
theorem pd21 : parseMethodDescriptor "(Ljava/lang/String;)Ljava/lang/StringBuilder;" = some ⟨[(.object "java/lang/String")], some (.object "java/lang/StringBuilder")⟩ := by decide +kernel
theorem pd22 : parseMethodDescriptor "(I)Ljava/lang/StringBuilder;" = some ⟨[.int], some (.object "java/lang/StringBuilder")⟩ := by decide +kernel
theorem pd23 : parseMethodDescriptor "()Ljava/lang/String;" = some ⟨[], some (.object "java/lang/String")⟩ := by decide +kernel
theorem pd24 : parseMethodDescriptor "(I)Lcom/example/wachter/wachter/policy/Decision;" = some ⟨[.int], some (.object "com/example/wachter/wachter/policy/Decision")⟩ := by decide +kernel
theorem pd25 : parseMethodDescriptor "(Ljava/lang/String;)Ljava/lang/String;" = some ⟨[(.object "java/lang/String")], some (.object "java/lang/String")⟩ := by decide +kernel
theorem pd26 : parseMethodDescriptor "(Ljava/lang/String;Ljava/lang/String;I)Z" = some ⟨[(.object "java/lang/String"), (.object "java/lang/String"), .int], some .boolean⟩ := by decide +kernel
theorem pd27 : parseMethodDescriptor "(Ljava/lang/String;III)Z" = some ⟨[(.object "java/lang/String"), .int, .int, .int], some .boolean⟩ := by decide +kernel
theorem pd28 : parseMethodDescriptor "([C)V" = some ⟨[(.array .char)], none⟩ := by decide +kernel
theorem pd29 : parseMethodDescriptor "(I)C" = some ⟨[.int], some .char⟩ := by decide +kernel
theorem pn0 : plainName "java/lang/AbstractStringBuilder" = true := by first | (simp [plainName, overriddenIn]; done) | decide +kernel
theorem pn1 : plainName "java/lang/StringBuilder" = true := by first | (simp [plainName, overriddenIn]; done) | decide +kernel
theorem pn2 : plainName "java/lang/String" = true := by first | (simp [plainName, overriddenIn]; done) | decide +kernel
theorem pn3 : plainName "jdk/internal/util/ArraysSupport" = true := by first | (simp [plainName, overriddenIn]; done) | decide +kernel
theorem pn4 : plainName "java/util/Arrays" = true := by first | (simp [plainName, overriddenIn]; done) | decide +kernel
theorem pn5 : plainName "java/lang/Integer" = true := by first | (simp [plainName, overriddenIn]; done) | decide +kernel
theorem pn6 : plainName "com/example/wachter/wachter/policy/Decision" = true := by first | (simp [plainName, overriddenIn]; done) | decide +kernel
theorem pn7 : plainName "com/example/wachter/wachter/policy/DecisionAllowedByPinLaw" = true := by first | (simp [plainName, overriddenIn]; done) | decide +kernel
theorem ef0 (m : MethodId) (x0 : Int32) (x1 : Int32) : entryFrame m #[(.int x0), (.int x1)] 2 = mkF m 0 #[.val (.int x0), .val (.int x1)] [] := by first | (simp [entryFrame, mkF, argsToLocals, Value.category]; done) | rfl
theorem ef1 (m : MethodId) (x0 : Addr) (x1 : Int32) : entryFrame m #[(.ref x0), (.int x1)] 2 = mkF m 0 #[.val (.ref x0), .val (.int x1)] [] := by first | (simp [entryFrame, mkF, argsToLocals, Value.category]; done) | rfl
theorem ef2 (m : MethodId) (x0 : Addr) : entryFrame m #[(.ref x0)] 1 = mkF m 0 #[.val (.ref x0)] [] := by first | (simp [entryFrame, mkF, argsToLocals, Value.category]; done) | rfl
theorem ef3 (m : MethodId) (x0 : Addr) (x1 : Addr) : entryFrame m #[(.ref x0), (.ref x1)] 2 = mkF m 0 #[.val (.ref x0), .val (.ref x1)] [] := by first | (simp [entryFrame, mkF, argsToLocals, Value.category]; done) | rfl
theorem ef4 (m : MethodId) (x0 : Addr) (x1 : Addr) (x2 : Int32) (x3 : Int32) : entryFrame m #[(.ref x0), (.ref x1), (.int x2), (.int x3)] 4 = mkF m 0 #[.val (.ref x0), .val (.ref x1), .val (.int x2), .val (.int x3)] [] := by first | (simp [entryFrame, mkF, argsToLocals, Value.category]; done) | rfl
theorem ef5 (m : MethodId) (x0 : Addr) (x1 : Int32) (x2 : Addr) : entryFrame m #[(.ref x0), (.int x1), (.ref x2)] 3 = mkF m 0 #[.val (.ref x0), .val (.int x1), .val (.ref x2)] [] := by first | (simp [entryFrame, mkF, argsToLocals, Value.category]; done) | rfl
theorem ef6 (m : MethodId) (x0 : Addr) (x1 : Addr) : entryFrame m #[(.ref x0), (.ref x1)] 3 = mkF m 0 #[.val (.ref x0), .val (.ref x1), .unset] [] := by first | (simp [entryFrame, mkF, argsToLocals, Value.category]; done) | rfl
theorem ef7 (m : MethodId) (x0 : Addr) (x1 : Int32) : entryFrame m #[(.ref x0), (.int x1)] 3 = mkF m 0 #[.val (.ref x0), .val (.int x1), .unset] [] := by first | (simp [entryFrame, mkF, argsToLocals, Value.category]; done) | rfl
theorem ef8 (m : MethodId) (x0 : Int32) (x1 : Int32) (x2 : Int32) : entryFrame m #[(.int x0), (.int x1), (.int x2)] 4 = mkF m 0 #[.val (.int x0), .val (.int x1), .val (.int x2), .unset] [] := by first | (simp [entryFrame, mkF, argsToLocals, Value.category]; done) | rfl
theorem ef9 (m : MethodId) (x0 : Addr) (x1 : Int32) : entryFrame m #[(.ref x0), (.int x1)] 6 = mkF m 0 #[.val (.ref x0), .val (.int x1), .unset, .unset, .unset, .unset] [] := by first | (simp [entryFrame, mkF, argsToLocals, Value.category]; done) | rfl
theorem ef10 (m : MethodId) (x0 : Int32) : entryFrame m #[(.int x0)] 4 = mkF m 0 #[.val (.int x0), .unset, .unset, .unset] [] := by first | (simp [entryFrame, mkF, argsToLocals, Value.category]; done) | rfl
theorem ef11 (m : MethodId) (x0 : Int32) (x1 : Int32) (x2 : Addr) : entryFrame m #[(.int x0), (.int x1), (.ref x2)] 7 = mkF m 0 #[.val (.int x0), .val (.int x1), .val (.ref x2), .unset, .unset, .unset, .unset] [] := by first | (simp [entryFrame, mkF, argsToLocals, Value.category]; done) | rfl
theorem ef12 (m : MethodId) (x0 : Addr) (x1 : Int32) : entryFrame m #[(.ref x0), (.int x1)] 4 = mkF m 0 #[.val (.ref x0), .val (.int x1), .unset, .unset] [] := by first | (simp [entryFrame, mkF, argsToLocals, Value.category]; done) | rfl
theorem ef13 (m : MethodId) (x0 : Addr) (x1 : Int32) (x2 : Int32) : entryFrame m #[(.ref x0), (.int x1), (.int x2)] 5 = mkF m 0 #[.val (.ref x0), .val (.int x1), .val (.int x2), .unset, .unset] [] := by first | (simp [entryFrame, mkF, argsToLocals, Value.category]; done) | rfl
theorem ef14 (m : MethodId) (x0 : Addr) (x1 : Int32) (x2 : Int32) : entryFrame m #[(.ref x0), (.int x1), (.int x2)] 3 = mkF m 0 #[.val (.ref x0), .val (.int x1), .val (.int x2)] [] := by first | (simp [entryFrame, mkF, argsToLocals, Value.category]; done) | rfl
theorem ef15 (m : MethodId) (x0 : Addr) (x1 : Addr) : entryFrame m #[(.ref x0), (.ref x1), .null] 5 = mkF m 0 #[.val (.ref x0), .val (.ref x1), .val .null, .unset, .unset] [] := by first | (simp [entryFrame, mkF, argsToLocals, Value.category]; done) | rfl
theorem ef16 (m : MethodId) (x0 : Addr) (x1 : Int32) (x2 : Addr) (x3 : Int32) : entryFrame m #[(.ref x0), (.int x1), (.ref x2), (.int x3)] 4 = mkF m 0 #[.val (.ref x0), .val (.int x1), .val (.ref x2), .val (.int x3)] [] := by first | (simp [entryFrame, mkF, argsToLocals, Value.category]; done) | rfl
theorem ef17 (m : MethodId) (x0 : Int32) : entryFrame m #[(.int x0)] 1 = mkF m 0 #[.val (.int x0)] [] := by first | (simp [entryFrame, mkF, argsToLocals, Value.category]; done) | rfl
theorem ef18 (m : MethodId) (x0 : Addr) (x1 : Addr) (x2 : Int32) : entryFrame m #[(.ref x0), (.ref x1), (.int x2)] 3 = mkF m 0 #[.val (.ref x0), .val (.ref x1), .val (.int x2)] [] := by first | (simp [entryFrame, mkF, argsToLocals, Value.category]; done) | rfl
theorem ef19 (m : MethodId) (x0 : Addr) (x1 : Int32) (x2 : Int32) (x3 : Int32) : entryFrame m #[(.ref x0), (.int x1), (.int x2), (.int x3)] 7 = mkF m 0 #[.val (.ref x0), .val (.int x1), .val (.int x2), .val (.int x3), .unset, .unset, .unset] [] := by first | (simp [entryFrame, mkF, argsToLocals, Value.category]; done) | rfl
theorem ef20 (m : MethodId) (x0 : Int32) (x1 : Int32) (x2 : Int32) : entryFrame m #[(.int x0), (.int x1), (.int x2)] maxLocals = mkF m 0 #[.val (.int x0), .val (.int x1), .val (.int x2), .unset, .unset, .unset, .unset, .unset, .unset, .unset, .unset] [] := by first | (simp [entryFrame, mkF, argsToLocals, Value.category, maxLocals]; done) | rfl
/-- a Latin-1 String over the bytes vs -/
def LS (Z : State) (h : Heap) (a t : Addr) (kt : ClassId) (z : Int32) (vs : List Value) : Prop := Exa Z h a "java/lang/String" ∧ Fld Z h a "java/lang/String" "value" "[B" (.ref t) ∧ Fld Z h a "java/lang/String" "coder" "B" (.int (0 : Int32)) ∧ Arv Z h t kt .byte z vs (.int (0 : Int32))
theorem LS.ext {Z : State} {h h' : Heap} {a t : Addr} {kt : ClassId} {z : Int32} {vs : List Value} (F : LS Z h a t kt z vs) (E : Ext h h') : LS Z h' a t kt z vs := ⟨F.1.ext E, F.2.1.ext E, F.2.2.1.ext E, F.2.2.2.ext E⟩
theorem own_shr0 (c : Int32) : c >>> ((0 : Int32) &&& 31) = c := by
  apply Int32.toBitVec_inj.mp
  rw [Int32.toBitVec_shiftRight]
  have e : (((0 : Int32) &&& 31).toBitVec.smod 32) = 0#32 := by decide
  rw [e]
  exact BitVec.sshiftRight_zero
theorem own_shl0 (c : Int32) : c <<< ((0 : Int32) &&& 31) = c := by
  apply Int32.toBitVec_inj.mp
  rw [Int32.toBitVec_shiftLeft]
  have e : (((0 : Int32) &&& 31).toBitVec.smod 32) = 0#32 := by decide
  rw [e]
  exact BitVec.shiftLeft_zero _
theorem own_nn {x : Int32} (h : 0 ≤ x.toInt) : ¬ x < 0 := by
  rw [Int32.lt_iff_toInt_lt]; have e : (0 : Int32).toInt = 0 := rfl; omega
theorem own_lt16 {x : Int32} (h : x.toInt < 16) : x < (16 : Int32) := by
  rw [Int32.lt_iff_toInt_lt]; have e : (16 : Int32).toInt = 16 := rfl; omega
theorem own_nat {x : Int32} (h : 0 ≤ x.toInt) : (x.toNatClampNeg : Int) = x.toInt := by
  simp only [Int32.toNatClampNeg]; omega
theorem own_add {x y : Int32} (h0 : 0 ≤ x.toInt) (h1 : 0 ≤ y.toInt) (h : x.toInt + y.toInt ≤ 1000000) : (x + y).toInt = x.toInt + y.toInt := by
  have q := c_iadd x y
  have r := rng32 (x + y)
  omega
theorem own_cap {x : Int32} (h0 : 0 ≤ x.toInt) (h1 : x.toInt ≤ 16) : ¬ (0 : Int32) < x - (16 : Int32) := by
  have q := c_isub x 16
  have r := rng32 (x - 16)
  have e : (16 : Int32).toInt = 16 := rfl
  have e0 : (0 : Int32).toInt = 0 := rfl
  rw [Int32.lt_iff_toInt_lt]; omega
theorem own_ne16 {x : Int32} (h : x.toInt < 16) : ¬ x = (16 : Int32) := fun q => by
  subst q; have e : (16 : Int32).toInt = 16 := rfl; omega
theorem own_fit {x z : Int32} {bs : List Value} (h0 : 0 ≤ x.toInt) (h1 : 0 ≤ z.toInt) (h : x.toInt + z.toInt ≤ 16) (hbl : bs.length = 16) : x.toNatClampNeg + z.toNatClampNeg ≤ (16 : Int32).toNatClampNeg ∧ x.toNatClampNeg + z.toNatClampNeg ≤ bs.length := by
  have a := own_nat h0
  have b := own_nat h1
  have e : (16 : Int32).toNatClampNeg = 16 := rfl
  rw [e, hbl]; omega
theorem own_len {x z : Int32} {bs us : List Value} (h0 : 0 ≤ x.toInt) (h1 : 0 ≤ z.toInt) (h : x.toInt + z.toInt ≤ 16) (hbl : bs.length = 16) (hu : us.length = z.toNatClampNeg) : (bs.take x.toNatClampNeg ++ us ++ bs.drop (x.toNatClampNeg + z.toNatClampNeg)).length = 16 := by
  have a := own_nat h0
  have b := own_nat h1
  simp only [List.length_append, List.length_take, List.length_drop, hu, hbl]; omega
abbrev bz (cs : List Int32) : List Value := cs.map fun c => Value.int (StrChars.lo8 c)
theorem bz_len (cs : List Int32) : (bz cs).length = cs.length := by simp [bz]
theorem bz_app (a b : List Int32) : bz (a ++ b) = bz a ++ bz b := by simp [bz]
theorem o_int {n : Nat} (h : n ≤ 100000) : (Int32.ofNat n).toInt = n := by
  exact Int32.toInt_ofNat_of_lt (by omega)
theorem o_nat {n : Nat} (h : n ≤ 100000) : (Int32.ofNat n).toNatClampNeg = n := by
  simp only [Int32.toNatClampNeg, o_int h]; omega
theorem o_add (a b : Nat) : Int32.ofNat a + Int32.ofNat b = Int32.ofNat (a + b) := (Int32.ofNat_add a b).symm
theorem o_inj {a b : Nat} (ha : a ≤ 100000) (hb : b ≤ 100000) (h : Int32.ofNat a = Int32.ofNat b) : a = b := by
  have := congrArg Int32.toInt h; rw [o_int ha, o_int hb] at this; omega
theorem o_nn {n : Nat} (h : n ≤ 100000) : ¬ Int32.ofNat n < 0 := by
  rw [Int32.lt_iff_toInt_lt, o_int h]; have e : (0 : Int32).toInt = 0 := rfl; omega
theorem o_lt {a b : Nat} (ha : a ≤ 100000) (hb : b ≤ 100000) (h : a < b) : Int32.ofNat a < Int32.ofNat b := by
  rw [Int32.lt_iff_toInt_lt, o_int ha, o_int hb]; omega
theorem o_of {x : Int32} (h : 0 ≤ x.toInt) : x = Int32.ofNat x.toInt.toNat := by
  apply Int32.toInt_inj.mp
  have r := rng32 x
  rw [Int32.toInt_ofNat_of_lt (by omega)]; omega
theorem rng_map (us : List Value) (d : Value) : (List.range us.length).map (fun i => us.getD (0 + i) d) = us := by
  apply List.ext_getElem
  · simp
  · intro i h1 h2
    simp at h1 h2 ⊢
    simp [h2]
theorem pre_copy {ds us bs : List Value} (h : ds <+: bs) (hl : ds.length + us.length ≤ bs.length) : (ds ++ us) <+: (bs.take ds.length ++ us ++ bs.drop (ds.length + us.length)) ∧ (bs.take ds.length ++ us ++ bs.drop (ds.length + us.length)).length = bs.length := by
  obtain ⟨r, rfl⟩ := h
  constructor
  · rw [List.take_left]; exact List.prefix_append _ _
  · simp only [List.length_append, List.length_take, List.length_drop] at hl ⊢; omega
theorem set_take {bs r : List Value} {p : Nat} (h : p < bs.length) (v : Value) : (bs.take (p + 1) ++ r).set p v = bs.take p ++ v :: r := by
  have e : bs.take (p + 1) = bs.take p ++ [bs[p]] := by rw [List.take_add_one]; simp [h]
  rw [e, List.append_assoc, List.set_append_right _ _ (by simp; omega)]
  simp [Nat.min_eq_left (Nat.le_of_lt h)]
/-- the last j digits of m -/
def dl (m : Nat) : Nat → List Int32
  | 0 => []
  | j + 1 => Int32.ofNat (48 + m / 10 ^ j % 10) :: dl m j
theorem dl_len (m j : Nat) : (dl m j).length = j := by induction j with
  | zero => rfl
  | succ j ih => simp [dl, ih]
theorem dl_get (m : Nat) : ∀ (n k : Nat), k < n → (dl m n).getD k 0 = Int32.ofNat (48 + m / 10 ^ (n - 1 - k) % 10)
  | 0, k, h => absurd h (by omega)
  | n + 1, 0, _ => by simp [dl]
  | n + 1, k + 1, h => by
    have := dl_get m n k (by omega)
    show (dl m n).getD k 0 = _
    rw [this, show n + 1 - 1 - (k + 1) = n - 1 - k by omega]
def Nd (m nd : Nat) : Prop := 1 ≤ nd ∧ nd ≤ 10 ∧ m < 10 ^ nd ∧ (nd = 1 ∨ 10 ^ (nd - 1) ≤ m)
def decC (x : Int32) (nd : Nat) : List Int32 := if x < 0 then (45 : Int32) :: dl x.toInt.natAbs nd else dl x.toInt.natAbs nd
theorem decC_neg {x : Int32} (h : x < 0) (nd : Nat) : decC x nd = (45 : Int32) :: dl x.toInt.natAbs nd := if_pos h
theorem decC_pos {x : Int32} (h : ¬ x < 0) (nd : Nat) : decC x nd = dl x.toInt.natAbs nd := if_neg h
theorem decC_len (x : Int32) (nd : Nat) : (decC x nd).length = nd + (if x < 0 then 1 else 0) := by
  unfold decC; split <;> simp [dl_len]
theorem dl_lat (m : Nat) : ∀ (n : Nat), ∀ c ∈ dl m n, ¬ c < 0 ∧ ¬ (255 : Int32) < c
  | 0, c, h => by cases h
  | n + 1, c, h => by
    rcases List.mem_cons.mp h with rfl | h
    · have e : (255 : Int32).toInt = 255 := rfl
      have e0 : (0 : Int32).toInt = 0 := rfl
      rw [Int32.lt_iff_toInt_lt, Int32.lt_iff_toInt_lt, o_int (by omega)]; omega
    · exact dl_lat m n c h
theorem decC_lat (x : Int32) (n : Nat) : ∀ c ∈ decC x n, ¬ c < 0 ∧ ¬ (255 : Int32) < c := by
  unfold decC; split
  · intro c h
    rcases List.mem_cons.mp h with rfl | h
    · decide
    · exact dl_lat _ _ c h
  · exact dl_lat _ _
/-- one digit more, written ahead -/
theorem dl_step {m j I : Nat} {bs : List Value} {p : Nat} (hp : I - j = p + 1) (hI : I ≤ bs.length) (v : Int32) (hv : StrChars.lo8 v = StrChars.lo8 (Int32.ofNat (48 + m / 10 ^ j % 10))) : (bs.take (I - j) ++ bz (dl m j) ++ bs.drop I).set p (.int (StrChars.lo8 v)) = bs.take (I - (j + 1)) ++ bz (dl m (j + 1)) ++ bs.drop I := by
  rw [hp, show I - (j + 1) = p by omega, List.append_assoc, set_take (by omega), hv]
  simp [dl, bz]
theorem div_step {M : Nat} (hM : 10 ≤ M) : M / 10 = M / 10 := rfl
/-- the loop's arithmetic -/
theorem gc_q {i : Int32} {M : Nat} (h : i.toInt = -(M : Int)) (hM : M ≤ 2147483648) : (i / (100 : Int32)).toInt = -((M / 100 : Nat) : Int) := by
  have e : (100 : Int32).toInt = 100 := rfl
  have q := c_idiv i 100 100 e (by decide)
  rcases Nat.eq_zero_or_pos M with rfl | h0
  · rw [q.1 (by omega)]; omega
  · rw [q.2 (by omega)]; omega
theorem gc_r {i q : Int32} {M : Nat} (h : i.toInt = -(M : Int)) (hM : M ≤ 2147483648) (hq : q.toInt = -((M / 100 : Nat) : Int)) : (q * (100 : Int32) - i) = Int32.ofNat (M % 100) := by
  have e : (100 : Int32).toInt = 100 := rfl
  have a := c_imul q 100
  have b := c_isub (q * 100) i
  have r := rng32 (q * 100 - i)
  apply Int32.toInt_inj.mp
  rw [o_int (by omega)]
  rw [e] at a
  omega
theorem gc_neg {i : Int32} {M : Nat} (h : i.toInt = -(M : Int)) (hM : M < 100) : (-i) = Int32.ofNat M := by
  have a := c_ineg i
  have r := rng32 (-i)
  apply Int32.toInt_inj.mp
  rw [o_int (by omega)]; omega
theorem pow_split (m j : Nat) : m / 10 ^ (j + 1) = m / 10 ^ j / 10 := by rw [Nat.pow_succ, Nat.div_div_eq_div_mul]
theorem pow_split2 (m j : Nat) : m / 10 ^ (j + 2) = m / 10 ^ j / 100 := by rw [pow_split, pow_split, Nat.div_div_eq_div_mul]
theorem nd_lt {m nd j : Nat} (h : m < 10 ^ nd) (hM : 10 ≤ m / 10 ^ j) : j + 1 < nd := by
  refine Classical.byContradiction fun q => ?_
  have h1 : nd ≤ j + 1 := by omega
  have h2 : m < 10 ^ (j + 1) := Nat.lt_of_lt_of_le h (Nat.pow_le_pow_right (by decide) h1)
  have h3 : m / 10 ^ j < 10 := Nat.div_lt_of_lt_mul (by rw [Nat.pow_succ] at h2; omega)
  omega
theorem nd_ge {m nd j : Nat} (h : nd = 1 ∨ 10 ^ (nd - 1) ≤ m) (hj : j < nd) (hM : m / 10 ^ j < 10) : nd = j + 1 := by
  rcases h with rfl | h
  · omega
  refine Classical.byContradiction fun q => ?_
  have h1 : j + 1 ≤ nd - 1 := by omega
  have h2 : 10 ^ (j + 1) ≤ m := Nat.le_trans (Nat.pow_le_pow_right (by decide) h1) h
  have h3 : 10 ≤ m / 10 ^ j := (Nat.le_div_iff_mul_le (Nat.pow_pos (by decide))).mpr (by rw [Nat.pow_succ] at h2; omega)
  omega
def dOnes : List Value := (List.range 100).map fun i => Value.int (Int32.ofNat (48 + i % 10))
def dTens : List Value := (List.range 100).map fun i => Value.int (Int32.ofNat (48 + i / 10))
theorem dOnes_at {r : Nat} (h : r < 100) : dOnes.getD (Int32.ofNat r).toNatClampNeg (.int (0 : Int32)) = .int (Int32.ofNat (48 + r % 10)) := by
  rw [o_nat (by omega)]; simp [dOnes, h]
theorem dTens_at {r : Nat} (h : r < 100) : dTens.getD (Int32.ofNat r).toNatClampNeg (.int (0 : Int32)) = .int (Int32.ofNat (48 + r / 10)) := by
  rw [o_nat (by omega)]; simp [dTens, h]
theorem o_dec {n : Nat} (h : 1 ≤ n) (hn : n ≤ 100000) : Int32.ofNat n + (-1 : Int32) = Int32.ofNat (n - 1) := by
  have q := c_iadd (Int32.ofNat n) (-1)
  have r := rng32 (Int32.ofNat n + (-1))
  have e : (-1 : Int32).toInt = -1 := rfl
  apply Int32.toInt_inj.mp
  rw [o_int hn] at q
  rw [o_int (by omega)]
  omega
/-- where the walk of getChars stands with j digits written -/
abbrev gcB (bs : List Value) (m I j : Nat) : List Value := bs.take (I - j) ++ bz (dl m j) ++ bs.drop I
theorem gc_sign {bs : List Value} {m P nd : Nat} (h : P + (nd + 1) ≤ bs.length) : (gcB bs m (P + (nd + 1)) nd).set P (.int (StrChars.lo8 (45 : Int32))) = bs.take P ++ bz ((45 : Int32) :: dl m nd) ++ bs.drop (P + (nd + 1)) := by
  unfold gcB
  rw [show P + (nd + 1) - nd = P + 1 by omega, List.append_assoc, set_take (by omega)]
  simp [bz]
abbrev ST : String := "java/lang/String"
def Ctx (Z : State) (a0 : Array Value) : Prop := HW a0 Z ∧ EW Z a0 EL1 ∧ (∃ z1 : Int32, Sta Z Z.heap "java/lang/String" "COMPACT_STRINGS" "Z" (.int z1) ∧ ¬ z1 = 0) ∧ (∃ fm : Value, Sta Z Z.heap "jdk/internal/util/Preconditions" "SIOOBE_FORMATTER" "Ljava/util/function/BiFunction;" fm ∧ fm.isRef = true) ∧ ((∃ (aO : Addr) (kO : ClassId), Sta Z Z.heap "java/lang/Integer" "DigitOnes" "[B" (.ref aO) ∧ Arv Z Z.heap aO kO .byte (100 : Int32) dOnes (.int (0 : Int32))) ∧ (∃ (aT : Addr) (kT : ClassId), Sta Z Z.heap "java/lang/Integer" "DigitTens" "[B" (.ref aT) ∧ Arv Z Z.heap aT kT .byte (100 : Int32) dTens (.int (0 : Int32))))
theorem Ctx.fm {Z : State} {a0 : Array Value} (X : Ctx Z a0) : ∃ fm : Value, Sta Z Z.heap "jdk/internal/util/Preconditions" "SIOOBE_FORMATTER" "Ljava/util/function/BiFunction;" fm ∧ fm.isRef = true := X.2.2.2.1
theorem Ctx.hw {Z : State} {a0 : Array Value} (X : Ctx Z a0) : HW a0 Z := X.1
theorem Ctx.ew {Z : State} {a0 : Array Value} (X : Ctx Z a0) : EW Z a0 EL1 := X.2.1
theorem sAtoms {Z : State} {a0 : Array Value} (hw : HW a0 Z) : ∀ a ∈ Bundle.stringAtoms, a.before a0 Z = true := fun d hd => hw d ((by decide +kernel : ∀ d ∈ Bundle.stringAtoms, d ∈ tables_1) d hd)
/-- the String at a spells cs -/
def StrF (Z : State) (h : Heap) (a : Addr) (cs : List Int32) : Prop := ∃ (t : Addr) (kb : ClassId) (cd N2 : Int32) (vs : List Value), Exa Z h a ST ∧ Fld Z h a ST "value" "[B" (.ref t) ∧ Fld Z h a ST "coder" "B" (.int cd) ∧ Arv Z h t kb .byte N2 vs (.int 0) ∧ StrChars.Road.CodA cs cd N2 vs ∧ (∀ c ∈ cs, ¬ c < 0 ∧ ¬ (65535 : Int32) < c) ∧ cs.length ≤ 4000
theorem StrF.ext {Z : State} {h h' : Heap} {a : Addr} {cs : List Int32} (F : StrF Z h a cs) (E : Ext h h') : StrF Z h' a cs := by
  obtain ⟨t, kb, cd, N2, vs, f1, f2, f3, f4, r⟩ := F; exact ⟨t, kb, cd, N2, vs, f1.ext E, f2.ext E, f3.ext E, f4.ext E, r⟩
theorem StrF.keep {Z : State} {h h' : Heap} {a x : Addr} {cs : List Int32} {C : String} {a0 : Array Value} {kk : Nat} (F : StrF Z h a cs) (K : Keep h h' [x]) (Ex : Exa Z h x C) (hC : C ≠ "java/lang/String") (wi : (Jvm.Cond.instantiable C kk).before a0 Z = true) : StrF Z h' a cs := by
  obtain ⟨t, kb, cd, N2, vs, f1, f2, f3, f4, r⟩ := F
  have n1 : a ∉ [x] := ninS (fun e => ne_exa Ex f1 hC e.symm) nin0
  have n2 : t ∉ [x] := ninS (fun e => by obtain ⟨c, A, -⟩ := f4; exact ne_arr Ex wi A e.symm) nin0
  exact ⟨t, kb, cd, N2, vs, f1.keep K, f2.keep K n1, f3.keep K n1, f4.keep K n2, r⟩
theorem StrF.exa {Z : State} {h : Heap} {a : Addr} {cs : List Int32} (F : StrF Z h a cs) : Exa Z h a ST := by obtain ⟨t, kb, cd, N2, vs, f1, r⟩ := F; exact f1
theorem StrF.lt {Z : State} {h : Heap} {a : Addr} {cs : List Int32} (F : StrF Z h a cs) : a < h.size := F.exa.lt
theorem up255 {cs : List Int32} (h : ∀ c ∈ cs, ¬ c < 0 ∧ ¬ (255 : Int32) < c) : ∀ c ∈ cs, ¬ c < 0 ∧ ¬ (65535 : Int32) < c := fun c hc => ⟨(h c hc).1, fun q => (h c hc).2 (by rw [Int32.lt_iff_toInt_lt] at q ⊢; have e1 : (65535 : Int32).toInt = 65535 := rfl; have e2 : (255 : Int32).toInt = 255 := rfl; omega)⟩
/-- a literal of EL1 is such a String -/
theorem StrF.lit {Z : State} {h : Heap} {a t : Addr} {kt : ClassId} {cs : List Int32} {z : Int32} {vs : List Value} (f1 : Exa Z h a ST) (f2 : Fld Z h a ST "coder" "B" (.int 0)) (f3 : Fld Z h a ST "value" "[B" (.ref t)) (f4 : Arv Z h t kt .byte z vs (.int 0)) (hz : z = Int32.ofNat cs.length) (hv : vs = (cs.map StrChars.lo8).map Value.int) (hp : ∀ c ∈ cs, ¬ c < 0 ∧ ¬ (255 : Int32) < c) (hl : cs.length ≤ 4000) : StrF Z h a cs := by
  subst hz hv
  exact ⟨t, kt, 0, _, _, f1, f3, f2, f4, StrChars.Road.codOf rfl (fun c hc => (hp c hc).2), up255 hp, hl⟩
theorem wdsV {Z : State} {a0 : Array Value} (hw : HW a0 Z) : ∀ d ∈ StrChars.Road.words, d.before a0 Z = true := fun d hd => hw d ((by decide +kernel : ∀ d ∈ StrChars.Road.words, d ∈ tables_1) d hd)
theorem g_newStr {p : Program} {l : Launch} {e : Env} {R : Room} {s : State} {m : MethodId} {args : Array Value} {below : List Frame} {meth : Method} {c : Code} {Z : State} {a0 : Array Value} {EL : List (String × Nat)} {n0 : Nat} {own : String} {T : State} {V : Vm} {h : Heap} {k n : Nat} {Q : Outcome → State → Prop} {pc : Nat} {Ls : Array Slot} {rest : List Value} (S : St p l e R s m args below meth c Z a0 EL n0 own T V h k n) (X : Ctx Z a0) {x b : Addr} {kC : ClassId} {cs : List Int32} {N : Int32} {dv v0 c0 : Value} {index : Nat} (l0 : 0 < cs.length) (l2 : cs.length ≤ 4000) (hN : N = Int32.ofNat cs.length) (na : n0 ≤ x) (sf : Safe Z EL V h x) (E : Exa Z h x ST) (Fv : Fld Z h x ST "value" "[B" v0) (Fc : Fld Z h x ST "coder" "B" c0) (K : Arv Z h b kC .char N (cs.map Value.int) dv) (hp : ∀ c ∈ cs, ¬ c < 0 ∧ ¬ (255 : Int32) < c)
    (wl : (Jvm.Cond.methodLink own index (⟨"java/lang/String", "<init>", "([C)V"⟩ : MethodName)).before a0 Z = true) (hd : decode c.code pc = .ok (.invokespecial index, 3)) (hsz : Ls.size = c.maxLocals) (hfr : 4 ≤ R.frames) (hlo : (rest.map fun v => v.category).sum + 65 ≤ R.locals) (hc : k + 1 ≤ R.cells) (hs : n + cs.length ≤ R.slots)
    (go : ∀ T' h', St p l e R s m args below meth c Z a0 EL n0 own T' V h' (k + 1) (n + cs.length) → Keep h h' [x] → StrF Z h' x cs → Go p e below Q (T'.setTop (mkF m (pc + 3) Ls rest))) : Go p e below Q (T.setTop (mkF m pc Ls (.ref b :: .ref x :: rest))) := by
  have hw := X.hw
  obtain ⟨z1, hz1, hz2⟩ := X.2.2.1
  refine g_specialB S (rc := 1) (rs := cs.length) (as' := #[.ref x, .ref b]) (W := (rest.map fun v => v.category).sum) (fun s' hZ' => StrChars.Road.backV hZ' (wdsV hw) (w2 hw) (n0 := n0) na S.le E Fv Fc K (hz1.ext S.old.2) hz2 rfl hN l0 l2 hp rfl hfr hlo) rfl wl (w6 hw) (w7 hw) (by decide) hd hsz x [.ref b] (lenOf pd28 rfl) rfl rfl (Nat.le_refl _) hc hs ?_ ?_
  · intro v h' L q
    exact ⟨q.2.1, [x], q.2.2.1, sfS sf sf0, allS na all0⟩
  · intro v T' h' L S' q
    obtain ⟨rfl, -, K', f1, f2, t, kb, -, -, -, f3, f4⟩ := q
    refine go T' h' S' K' ?_
    subst hN
    exact ⟨t, kb, 0, _, _, f1, f3, f2, f4, StrChars.Road.codOf rfl (fun c hc => (hp c hc).2), up255 hp, l2⟩
theorem wdsLen {Z : State} {a0 : Array Value} (hw : HW a0 Z) : ∀ d ∈ StrChars.Road.wordsLen, d.before a0 Z = true := fun d hd => hw d ((by decide +kernel : ∀ d ∈ StrChars.Road.wordsLen, d ∈ tables_1) d hd)
theorem g_strLen {p : Program} {l : Launch} {e : Env} {R : Room} {s : State} {m : MethodId} {args : Array Value} {below : List Frame} {meth : Method} {c : Code} {Z : State} {a0 : Array Value} {EL : List (String × Nat)} {n0 : Nat} {own : String} {T : State} {V : Vm} {h : Heap} {k n : Nat} {Q : Outcome → State → Prop} {pc : Nat} {Ls : Array Slot} {rest : List Value} (S : St p l e R s m args below meth c Z a0 EL n0 own T V h k n) (X : Ctx Z a0) {x : Addr} {cs : List Int32} {index : Nat} (F : StrF Z h x cs) (wl : (Jvm.Cond.methodLink own index (⟨"java/lang/String", "length", "()I"⟩ : MethodName)).before a0 Z = true) (hd : decode c.code pc = .ok (.invokevirtual index, 3)) (hsz : Ls.size = c.maxLocals) (hfr : 2 ≤ R.frames) (hlo : (rest.map fun v => v.category).sum + 25 ≤ R.locals) (hc : k ≤ R.cells) (hs : n ≤ R.slots)
    (go : ∀ T', St p l e R s m args below meth c Z a0 EL n0 own T' V h k n → Go p e below Q (T'.setTop (mkF m (pc + 3) Ls (.int (Int32.ofNat cs.length) :: rest)))) : Go p e below Q (T.setTop (mkF m pc Ls (.ref x :: rest))) := by
  have hw := X.hw
  obtain ⟨z1, hz1, hz2⟩ := X.2.2.1
  obtain ⟨t, kb, cd, N2, vs, f1, f2, f3, f4, f5, f6, f7⟩ := F
  refine g_virtualB S (rc := 0) (rs := 0) (QB := fun v h' L => v = some (.int (Int32.ofNat cs.length)) ∧ L = [] ∧ h' = h) (as' := #[.ref x]) (W := (rest.map fun v => v.category).sum) (fun s' hZ' => StrChars.Road.lenW hZ' (wdsLen hw) (w2 hw) f1 f2 f3 f4 f5 f6 (hz1.ext S.old.2) hz2 f7 hfr hlo) wl (w89 hw) (w91 hw) (w90 hw) (by decide) (fun _ h => notFace_of_selects h) hd hsz x f1 [] (lenOf pd1 rfl) rfl rfl (Nat.le_refl _) hc hs ?_ ?_
  · intro v h' L q
    obtain ⟨-, rfl, rfl⟩ := q
    exact ⟨Fr.nil n0, [], Keep.refl _ _, sf0, all0⟩
  · intro v T' h' L S' q
    obtain ⟨rfl, rfl, rfl⟩ := q
    exact go T' S'
theorem wdsCh {Z : State} {a0 : Array Value} (hw : HW a0 Z) : ∀ d ∈ StrChars.Road.wordsChN, d.before a0 Z = true := fun d hd => hw d ((by decide +kernel : ∀ d ∈ StrChars.Road.wordsChN, d ∈ tables_1) d hd)
theorem g_strChar {p : Program} {l : Launch} {e : Env} {R : Room} {s : State} {m : MethodId} {args : Array Value} {below : List Frame} {meth : Method} {c : Code} {Z : State} {a0 : Array Value} {EL : List (String × Nat)} {n0 : Nat} {own : String} {T : State} {V : Vm} {h : Heap} {k n : Nat} {Q : Outcome → State → Prop} {pc : Nat} {Ls : Array Slot} {rest : List Value} (S : St p l e R s m args below meth c Z a0 EL n0 own T V h k n) (X : Ctx Z a0) {x : Addr} {cs : List Int32} {index i : Nat} {j : Int32} (F : StrF Z h x cs) (hlat : ∀ c ∈ cs, ¬ (255 : Int32) < c) (hi : i < cs.length) (hj : j = Int32.ofNat i) (wl : (Jvm.Cond.methodLink own index (⟨"java/lang/String", "charAt", "(I)C"⟩ : MethodName)).before a0 Z = true) (hd : decode c.code pc = .ok (.invokevirtual index, 3)) (hsz : Ls.size = c.maxLocals) (hfr : 4 ≤ R.frames) (hlo : (rest.map fun v => v.category).sum + 53 ≤ R.locals) (hc : k ≤ R.cells) (hs : n ≤ R.slots)
    (go : ∀ T', St p l e R s m args below meth c Z a0 EL n0 own T' V h k n → Go p e below Q (T'.setTop (mkF m (pc + 3) Ls (.int (cs.getD i 0) :: rest)))) : Go p e below Q (T.setTop (mkF m pc Ls (.int j :: .ref x :: rest))) := by
  have hw := X.hw
  obtain ⟨z1, hz1, hz2⟩ := X.2.2.1
  obtain ⟨fm, hfm, rfm⟩ := X.fm
  obtain ⟨t, kb, cd, N2, vs, f1, f2, f3, f4, f5, f6, f7⟩ := F
  have hcd : cd = 0 := by
    rcases f5 with ⟨q, -⟩ | ⟨-, -, -, c, hc, hb⟩
    · exact q
    · exact absurd hb (hlat c hc)
  subst hcd
  refine g_virtualB S (rc := 0) (rs := 0) (QB := fun v h' L => v = some (.int (cs.getD i 0)) ∧ L = [] ∧ h' = h) (as' := #[.ref x, .int j]) (W := (rest.map fun v => v.category).sum) (fun s' hZ' => StrChars.Road.chN hZ' (wdsCh hw) (w2 hw) f1 f2 f3 f4 f5 f6 (hz1.ext S.old.2) hz2 (hfm.ext S.old.2) rfm f7 hi hj hfr hlo) wl (w205 hw) (w207 hw) (w206 hw) (by decide) (fun _ h => notFace_of_selects h) hd hsz x f1 [.int j] (lenOf pd29 rfl) rfl rfl (Nat.le_refl _) hc hs ?_ ?_
  · intro v h' L q
    obtain ⟨-, rfl, rfl⟩ := q
    exact ⟨Fr.nil n0, [], Keep.refl _ _, sf0, all0⟩
  · intro v T' h' L S' q
    obtain ⟨rfl, rfl, rfl⟩ := q
    exact go T' S'
theorem tlt_no {x y : Int32} (h : ¬ y < x) : if_icmp.holds .gt x y = false := (flt h).2.2.1
theorem lo8_lo8 (x : Int32) : StrChars.lo8 (StrChars.lo8 x) = StrChars.lo8 x := by simp [StrChars.lo8]
abbrev LC (Z : State) (h : Heap) (a t : Addr) (kt : ClassId) (cs : List Int32) : Prop := LS Z h a t kt (Int32.ofNat cs.length) (bz cs)
theorem lc_of {Z : State} {h : Heap} {a : Addr} {cs : List Int32} (F : StrF Z h a cs) (hl : ∀ c ∈ cs, ¬ (255 : Int32) < c) : ∃ (t : Addr) (kt : ClassId), LC Z h a t kt cs := by
  obtain ⟨t, kb, cd, N2, vs, f1, f2, f3, f4, f5, f6, f7⟩ := F
  rcases f5 with ⟨rfl, rfl, rfl, -⟩ | ⟨-, -, -, c, hc, hb⟩
  · exact ⟨t, kb, f1, f2, f3, f4⟩
  · exact absurd hb (hl c hc)
theorem strF_of {Z : State} {h : Heap} {a t : Addr} {kt : ClassId} {cs : List Int32} (F : LC Z h a t kt cs) (hp : ∀ c ∈ cs, ¬ c < 0 ∧ ¬ (255 : Int32) < c) (hl : cs.length ≤ 4000) : StrF Z h a cs := ⟨t, kt, 0, _, _, F.1, F.2.1, F.2.2.1, F.2.2.2, Or.inl ⟨rfl, rfl, rfl, fun c hc => (hp c hc).2⟩, up255 hp, hl⟩
theorem cp_us {us : List Value} {n : Nat} (hn : us.length = n) (h : n ≤ 100000) : us = (List.range (Int32.ofNat n).toNatClampNeg).map fun i => us.getD ((0 : Int32).toNatClampNeg + i) (.int (0 : Int32)) := by
  subst hn; rw [o_nat h]; exact (rng_map _ _).symm
theorem cp_tk {us : List Value} {n : Nat} (hn : n ≤ us.length) (h : n ≤ 100000) : us.take n = (List.range (Int32.ofNat n).toNatClampNeg).map fun i => us.getD ((0 : Int32).toNatClampNeg + i) (.int (0 : Int32)) := by
  rw [o_nat h]
  apply List.ext_getElem
  · simp [Nat.min_eq_left hn]
  · intro i h1 h2
    simp at h1 h2 ⊢
    have h3 : i < us.length := by omega
    simp [h3]
theorem pre_take {ds bs : List Value} (h : ds <+: bs) : bs.take ds.length = ds := by
  obtain ⟨r, rfl⟩ := h; exact List.take_left
theorem pre_app {ds bs r : List Value} (h : ds <+: bs) : ds <+: bs ++ r := by
  obtain ⟨q, rfl⟩ := h; exact ⟨q ++ r, by simp⟩
theorem o_sub {a b : Nat} (h : b ≤ a) (ha : a ≤ 100000) : Int32.ofNat a - Int32.ofNat b = Int32.ofNat (a - b) := by
  have q := c_isub (Int32.ofNat a) (Int32.ofNat b)
  have r := rng32 (Int32.ofNat a - Int32.ofNat b)
  apply Int32.toInt_inj.mp
  rw [o_int (by omega)] at q ⊢
  rw [o_int (by omega)] at q
  omega
theorem abs_le (x : Int32) : x.toInt.natAbs ≤ 2147483648 := by have r := rng32 x; omega
theorem all_app {P : Int32 → Prop} {a b : List Int32} (ha : ∀ c ∈ a, P c) (hb : ∀ c ∈ b, P c) : ∀ c ∈ a ++ b, P c := fun c h => (List.mem_append.mp h).elim (ha c) (hb c)
theorem nd_uniq {m a b : Nat} (ha : Nd m a) (hb : Nd m b) : a = b := by
  obtain ⟨a1, a2, a3, a4⟩ := ha
  obtain ⟨b1, b2, b3, b4⟩ := hb
  have key : ∀ {p q : Nat}, m < 10 ^ p → (q = 1 ∨ 10 ^ (q - 1) ≤ m) → 1 ≤ p → q ≤ p := fun {p q} h1 h2 h3 => by
    rcases h2 with rfl | h2
    · exact h3
    refine Classical.byContradiction fun h => ?_
    exact absurd (Nat.lt_of_lt_of_le h1 (Nat.le_trans (Nat.pow_le_pow_right (by decide) (show p ≤ q - 1 by omega)) h2)) (Nat.lt_irrefl _)
  exact Nat.le_antisymm (key b3 a4 b1) (key a3 b4 a1)
theorem pow_at {nd k : Nat} (h : k < nd) (h2 : nd ≤ 10) : ([(.int (1000000000 : Int32)), (.int (100000000 : Int32)), (.int (10000000 : Int32)), (.int (1000000 : Int32)), (.int (100000 : Int32)), (.int (10000 : Int32)), (.int (1000 : Int32)), (.int (100 : Int32)), (.int (10 : Int32)), (.int (1 : Int32))] : List Value).getD (10 - nd + k) (.int (0 : Int32)) = .int (Int32.ofNat (10 ^ (nd - 1 - k))) := by
  have key : ∀ e, e < 10 → ([(.int (1000000000 : Int32)), (.int (100000000 : Int32)), (.int (10000000 : Int32)), (.int (1000000 : Int32)), (.int (100000 : Int32)), (.int (10000 : Int32)), (.int (1000 : Int32)), (.int (100 : Int32)), (.int (10 : Int32)), (.int (1 : Int32))] : List Value).getD (9 - e) (.int (0 : Int32)) = .int (Int32.ofNat (10 ^ e)) := fun e he => by
    match e, he with
    | 0, _ => rfl
    | 1, _ => rfl
    | 2, _ => rfl
    | 3, _ => rfl
    | 4, _ => rfl
    | 5, _ => rfl
    | 6, _ => rfl
    | 7, _ => rfl
    | 8, _ => rfl
    | 9, _ => rfl
  rw [show 10 - nd + k = 9 - (nd - 1 - k) by omega]
  exact key _ (by omega)
theorem pow_le {e : Nat} (h : e ≤ 9) : 10 ^ e ≤ 1000000000 := Nat.le_trans (Nat.pow_le_pow_right (by decide) h) (by decide)
theorem pow_int {e : Nat} (h : e ≤ 9) : (Int32.ofNat (10 ^ e)).toInt = ((10 ^ e : Nat) : Int) := Int32.toInt_ofNat_of_lt (Nat.lt_of_le_of_lt (pow_le h) (by decide))
theorem pow_nz {e : Nat} (h : e ≤ 9) : Int32.ofNat (10 ^ e) ≠ 0 := fun q => by
  have a := pow_int h
  rw [q] at a
  have b : 0 < 10 ^ e := Nat.pow_pos (by decide)
  have c : (0 : Int32).toInt = 0 := rfl
  omega
theorem dig_eq {x : Int32} {e : Nat} (hx : ¬ x < 0) (h : e ≤ 9) : (x / Int32.ofNat (10 ^ e)) % (10 : Int32) = Int32.ofNat (x.toInt.natAbs / 10 ^ e % 10) := by
  rw [Int32.lt_iff_toInt_lt] at hx
  have e0 : (0 : Int32).toInt = 0 := rfl
  have hm : x.toInt = (x.toInt.natAbs : Int) := by omega
  have q := (c_idiv x (Int32.ofNat (10 ^ e)) _ (pow_int h) (fun q => by
    have a := pow_int h
    rw [q] at a
    have b : 0 < 10 ^ e := Nat.pow_pos (by decide)
    have c : (-1 : Int32).toInt = -1 := rfl
    omega)).1 (by omega)
  have q2 : (x / Int32.ofNat (10 ^ e)).toInt = ((x.toInt.natAbs / 10 ^ e : Nat) : Int) := by rw [q, hm, Int.natAbs_natCast, Int.natCast_ediv]
  have r := (c_irem (x / Int32.ofNat (10 ^ e)) 10 10 rfl).1 (by rw [q2]; exact Int.natCast_nonneg _)
  apply Int32.toInt_inj.mp
  rw [r, q2, o_int (by omega)]
  omega
theorem own_and31 (k : Int32) : ¬ (k &&& (2147483647 : Int32)) < 0 := by
  have q := c_mask k 2147483647 31 (by decide) (by decide)
  have e : (0 : Int32).toInt = 0 := rfl
  rw [Int32.lt_iff_toInt_lt]; omega

end Jvm.Pilot.@@N@@

namespace Jvm.Pilot.@@N@@
open Jvm Jvm.ClassFile Sem Op Lib Jvm.Free Jvm.Stand Jvm.LawKit Jvm.RoadKit Jvm.OwnKit Bundle Jvm.Pilot.@@N@@.Jvm.D
theorem dMX_0 : decode jdk_29_method_65_code 0 = .ok (.iload_n 0, 1) := by decide +kernel
theorem dMX_1 : decode jdk_29_method_65_code 1 = .ok (.iload_n 1, 1) := by decide +kernel
theorem dMX_2 : decode jdk_29_method_65_code 2 = .ok (.if_icmp .lt 7, 3) := by decide +kernel
theorem dMX_5 : decode jdk_29_method_65_code 5 = .ok (.iload_n 0, 1) := by decide +kernel
theorem dMX_6 : decode jdk_29_method_65_code 6 = .ok (.goto 4, 3) := by decide +kernel
theorem dMX_9 : decode jdk_29_method_65_code 9 = .ok (.iload_n 1, 1) := by decide +kernel
theorem dMX_10 : decode jdk_29_method_65_code 10 = .ok (.ireturn, 1) := by decide +kernel
set_option maxRecDepth 65536 in
set_option maxHeartbeats 40000000 in
theorem rmMX {l : Launch} {Z : State} {a0 : Array Value} {n0 : Nat} (X : Ctx Z a0) {a b z : Int32} (hz : (if a < b then b else a) = z) {h : Heap} (hO : Old Z n0 h)  :
    Ctr l Z EL1 n0 (⟨"java/lang/Math", "max", "(II)I"⟩ : MethodName) jdk_29_method_65_code 2 (some .int) ({ frames := 0, cells := 0, slots := 0, locals := 0 } : Room) #[(.int a), (.int b)] h [] (fun v h' => v = some (.int z) ∧ h' = h) := by
  have hw := X.hw
  obtain ⟨z1, hz1, hz2⟩ := X.2.2.1
  refine Ctr.intro (a0 := a0) (by decide +kernel) hO X.ew ?_
  intro p e s m below meth c T0 V0 S0 hby hml hret hnm hsf
  rw [ef0]
  refine s_iloadN S0 (hb hby dMX_0) rfl (pc' := 1) rfl ?_
  refine s_iloadN S0 (hb hby dMX_1) rfl (pc' := 2) rfl ?_
  refine g_icmp S0 (hb hby dMX_2) (by decide) (pcT := 9) (by decide) (fun q => ?_) (fun q => ?_)
  · have hc2_1 : a < b := icT_lt q
    show Go p e below _ (T0.setTop (mkF m 9 #[.val (.int a), .val (.int b)] []))
    refine s_iloadN S0 (hb hby dMX_9) rfl (pc' := 10) rfl ?_
    show Go p e below _ (T0.setTop (mkF m 10 #[.val (.int a), .val (.int b)] [(.int b)]))
    exact g_iret S0 (hb hby dMX_10) hret ⟨by rw [← hz, if_pos hc2_1], rfl⟩
  · have hc2_1 : ¬ a < b := icF_lt q
    show Go p e below _ (T0.setTop (mkF m 5 #[.val (.int a), .val (.int b)] []))
    refine s_iloadN S0 (hb hby dMX_5) rfl (pc' := 6) rfl ?_
    refine s_goto S0 (hb hby dMX_6) (by decide) (pcT := 10) (by decide) ?_
    show Go p e below _ (T0.setTop (mkF m 10 #[.val (.int a), .val (.int b)] [(.int a)]))
    exact g_iret S0 (hb hby dMX_10) hret ⟨by rw [← hz, if_neg hc2_1], rfl⟩
theorem dMN_0 : decode jdk_29_method_69_code 0 = .ok (.iload_n 0, 1) := by decide +kernel
theorem dMN_1 : decode jdk_29_method_69_code 1 = .ok (.iload_n 1, 1) := by decide +kernel
theorem dMN_2 : decode jdk_29_method_69_code 2 = .ok (.if_icmp .gt 7, 3) := by decide +kernel
theorem dMN_5 : decode jdk_29_method_69_code 5 = .ok (.iload_n 0, 1) := by decide +kernel
theorem dMN_6 : decode jdk_29_method_69_code 6 = .ok (.goto 4, 3) := by decide +kernel
theorem dMN_9 : decode jdk_29_method_69_code 9 = .ok (.iload_n 1, 1) := by decide +kernel
theorem dMN_10 : decode jdk_29_method_69_code 10 = .ok (.ireturn, 1) := by decide +kernel
set_option maxRecDepth 65536 in
set_option maxHeartbeats 40000000 in
theorem rmMN {l : Launch} {Z : State} {a0 : Array Value} {n0 : Nat} (X : Ctx Z a0) {a b z : Int32} (hz : (if b < a then b else a) = z) {h : Heap} (hO : Old Z n0 h)  :
    Ctr l Z EL1 n0 (⟨"java/lang/Math", "min", "(II)I"⟩ : MethodName) jdk_29_method_69_code 2 (some .int) ({ frames := 0, cells := 0, slots := 0, locals := 0 } : Room) #[(.int a), (.int b)] h [] (fun v h' => v = some (.int z) ∧ h' = h) := by
  have hw := X.hw
  obtain ⟨z1, hz1, hz2⟩ := X.2.2.1
  refine Ctr.intro (a0 := a0) (by decide +kernel) hO X.ew ?_
  intro p e s m below meth c T0 V0 S0 hby hml hret hnm hsf
  rw [ef0]
  refine s_iloadN S0 (hb hby dMN_0) rfl (pc' := 1) rfl ?_
  refine s_iloadN S0 (hb hby dMN_1) rfl (pc' := 2) rfl ?_
  refine g_icmp S0 (hb hby dMN_2) (by decide) (pcT := 9) (by decide) (fun q => ?_) (fun q => ?_)
  · have hc2_2 : b < a := icT_gt q
    show Go p e below _ (T0.setTop (mkF m 9 #[.val (.int a), .val (.int b)] []))
    refine s_iloadN S0 (hb hby dMN_9) rfl (pc' := 10) rfl ?_
    show Go p e below _ (T0.setTop (mkF m 10 #[.val (.int a), .val (.int b)] [(.int b)]))
    exact g_iret S0 (hb hby dMN_10) hret ⟨by rw [← hz, if_pos hc2_2], rfl⟩
  · have hc2_2 : ¬ b < a := icF_gt q
    show Go p e below _ (T0.setTop (mkF m 5 #[.val (.int a), .val (.int b)] []))
    refine s_iloadN S0 (hb hby dMN_5) rfl (pc' := 6) rfl ?_
    refine s_goto S0 (hb hby dMN_6) (by decide) (pcT := 10) (by decide) ?_
    show Go p e below _ (T0.setTop (mkF m 10 #[.val (.int a), .val (.int b)] [(.int a)]))
    exact g_iret S0 (hb hby dMN_10) hret ⟨by rw [← hz, if_neg hc2_2], rfl⟩
theorem dAI_0 : decode jdk_68_method_2_code 0 = .ok (.aload_n 0, 1) := by decide +kernel
theorem dAI_1 : decode jdk_68_method_2_code 1 = .ok (.invokespecial 3, 3) := by decide +kernel
theorem dAI_4 : decode jdk_68_method_2_code 4 = .ok (.getstatic 18, 3) := by decide +kernel
theorem dAI_7 : decode jdk_68_method_2_code 7 = .ok (.ifCond .eq 18, 3) := by decide +kernel
theorem dAI_10 : decode jdk_68_method_2_code 10 = .ok (.aload_n 0, 1) := by decide +kernel
theorem dAI_11 : decode jdk_68_method_2_code 11 = .ok (.iload_n 1, 1) := by decide +kernel
theorem dAI_12 : decode jdk_68_method_2_code 12 = .ok (.newarray .byte, 2) := by decide +kernel
theorem dAI_14 : decode jdk_68_method_2_code 14 = .ok (.putfield 15, 3) := by decide +kernel
theorem dAI_17 : decode jdk_68_method_2_code 17 = .ok (.aload_n 0, 1) := by decide +kernel
theorem dAI_18 : decode jdk_68_method_2_code 18 = .ok (.iconst 0, 1) := by decide +kernel
theorem dAI_19 : decode jdk_68_method_2_code 19 = .ok (.putfield 22, 3) := by decide +kernel
theorem dAI_22 : decode jdk_68_method_2_code 22 = .ok (.goto 16, 3) := by decide +kernel
theorem dAI_38 : decode jdk_68_method_2_code 38 = .ok (.return_, 1) := by decide +kernel
set_option maxRecDepth 65536 in
set_option maxHeartbeats 40000000 in
theorem rmAI {l : Launch} {Z : State} {a0 : Array Value} {n0 : Nat} (X : Ctx Z a0) {x : Addr} {v0 c0 : Value} (na : n0 ≤ x) {h : Heap} (hO : Old Z n0 h) (Ex : Exa Z h x "java/lang/StringBuilder") (Fv : Fld Z h x "java/lang/AbstractStringBuilder" "value" "[B" v0) (Fk : Fld Z h x "java/lang/AbstractStringBuilder" "coder" "B" c0) (Fs : Fld Z h x "java/lang/AbstractStringBuilder" "count" "I" (.int (0 : Int32))) :
    CtrV l Z EL1 n0 (⟨"java/lang/AbstractStringBuilder", "<init>", "(I)V"⟩ : MethodName) jdk_68_method_2_code 2 none ({ frames := 1, cells := 1, slots := 16, locals := 12 } : Room) #[(.ref x), (.int (16 : Int32))] h [] (fun v h' vm => v = none ∧ ∃ tb kb, Keep h h' [x] ∧ n0 ≤ tb ∧ h.size ≤ tb ∧ Exa Z h' x "java/lang/StringBuilder" ∧ Fld Z h' x "java/lang/AbstractStringBuilder" "value" "[B" (.ref tb) ∧ Fld Z h' x "java/lang/AbstractStringBuilder" "coder" "B" (.int (0 : Int32)) ∧ Fld Z h' x "java/lang/AbstractStringBuilder" "count" "I" (.int (Int32.ofNat ([] : List Int32).length)) ∧ Arv Z h' tb kb .byte (16 : Int32) (List.replicate 16 (.int (0 : Int32))) (.int (0 : Int32)) ∧ Exa Z h' tb "[B" ∧ Safe Z EL1 vm h' tb) := by
  have hw := X.hw
  obtain ⟨z1, hz1, hz2⟩ := X.2.2.1
  refine CtrV.intro (a0 := a0) (plainFor_of_name pn0) hO X.ew ?_
  intro p e s m below meth c T0 V0 S0 hby hml hret hnm hsf
  rw [ef1]
  refine s_aloadN S0 (hb hby dAI_0) rfl rfl (pc' := 1) rfl ?_
  refine g_initO S0 (w72 hw) (w13 hw) (w14 hw) (by rw [hml]; rfl) (hb hby dAI_1) (Nat.le_of_ble_eq_true rfl) (Nat.le_of_ble_eq_true rfl) ?_
  intro T3 ST3
  show Go p e below _ (T3.setTop (mkF m 4 #[.val (.ref x), .val (.int (16 : Int32))] []))
  refine g_getS ST3 (w73 hw) Via.refl (hz1.ext ST3.old.2) (hb hby dAI_4) ?_
  intro T4 ST4
  show Go p e below _ (T4.setTop (mkF m 7 #[.val (.ref x), .val (.int (16 : Int32))] [(.int z1)]))
  refine s_ifN ST4 (hb hby dAI_7) ((if0 _ _).trans (feq hz2).1) (pc' := 10) rfl ?_
  refine s_aloadN ST4 (hb hby dAI_10) rfl rfl (pc' := 11) rfl ?_
  refine s_iloadN ST4 (hb hby dAI_11) rfl (pc' := 12) rfl ?_
  refine g_newarrE (aty := .byte) ST4 (w20 hw) (hb hby dAI_12) (by decide) (cap := 16) (by decide) (by decide) (Nat.le_of_ble_eq_true rfl) (Nat.le_of_ble_eq_true rfl) rfl ?_
  intro T5 h5 b5 kc5 S5 E5 fr5 lt5 na5 sf5 A5 EA5
  have V5 : Arv Z h5 b5 kc5 .byte (16 : Int32) (List.replicate 16 (.int (0 : Int32))) (.int (0 : Int32)) := A5 16
  show Go p e below _ (T5.setTop (mkF m 14 #[.val (.ref x), .val (.int (16 : Int32))] [(.ref b5), (.ref x)]))
  show Go p e below _ (T5.setTop (mkF m 14 #[.val (.ref x), .val (.int (16 : Int32))] [(.ref b5), (.ref x)]))
  have Fv7 := Fv.ext E5
  have Ex8 := Ex.ext E5
  have Fk9 := Fk.ext E5
  have Fs10 := Fs.ext E5
  refine g_putF S5 (w74 hw) Via.refl Fv7 Ex8 (Or.inl (w75 hw)) (w61 hw) (ty := (.array .byte)) (v' := (.ref b5)) (by decide) rfl rfl na (Safe.exa S5.warm.alike Ex8 (by decide) (by decide)) (hb hby dAI_14) ?_
  intro T6 h6 S6 K6 W6 A6 F6 sg6
  have sf11 := Safe.keep K6 (sfS (Safe.exa S5.warm.alike Ex8 (by decide) (by decide)) sf0) S5.chv sf5
  have F12 := Fk9.other W6 (Or.inr (slot_ne (Or.inl (w77 hw)) (Or.inl (w75 hw)) (by decide) (t := .byte) (t' := (.array .byte)) (by decide) (by decide)))
  have F13 := Fs10.other W6 (Or.inr (slot_ne (Or.inl (w99 hw)) (Or.inl (w75 hw)) (by decide) (t := .int) (t' := (.array .byte)) (by decide) (by decide)))
  show Go p e below _ (T6.setTop (mkF m 17 #[.val (.ref x), .val (.int (16 : Int32))] []))
  refine s_aloadN S6 (hb hby dAI_17) rfl rfl (pc' := 18) rfl ?_
  refine s_iconst S6 (hb hby dAI_18) (v := (0 : Int32)) rfl (pc' := 19) rfl ?_
  show Go p e below _ (T6.setTop (mkF m 19 #[.val (.ref x), .val (.int (16 : Int32))] [(.int (0 : Int32)), (.ref x)]))
  refine g_putF S6 (w76 hw) Via.refl F12 A6 (Or.inl (w77 hw)) (w61 hw) (ty := .byte) (v' := (.int (0 : Int32))) (by decide) rfl rfl na (Safe.exa S6.warm.alike A6 (by decide) (by decide)) (hb hby dAI_19) ?_
  intro T14 h14 S14 K14 W14 A14 F14 sg14
  have sf15 := Safe.keep K14 (sfS (Safe.exa S6.warm.alike A6 (by decide) (by decide)) sf0) S6.chv sf11
  have F16 := F6.other W14 (Or.inr (slot_ne (Or.inl (w75 hw)) (Or.inl (w77 hw)) (by decide) (t := (.array .byte)) (t' := .byte) (by decide) (by decide)))
  have F17 := F13.other W14 (Or.inr (slot_ne (Or.inl (w99 hw)) (Or.inl (w77 hw)) (by decide) (t := .int) (t' := .byte) (by decide) (by decide)))
  show Go p e below _ (T14.setTop (mkF m 22 #[.val (.ref x), .val (.int (16 : Int32))] []))
  refine s_goto S14 (hb hby dAI_22) (by decide) (pcT := 38) (by decide) ?_
  show Go p e below _ (T14.setTop (mkF m 38 #[.val (.ref x), .val (.int (16 : Int32))] []))
  have KA18 : Keep h h14 [x] := ((((Keep.refl h [x]).ext E5).trans K6 (fun y hy => Or.inl hy)).trans K14 (fun y hy => Or.inl hy))
  have F19 := V5.keep K6 (ninS (Ne.symm (Nat.ne_of_lt (Nat.lt_of_lt_of_le (Nat.lt_of_lt_of_le Ex.lt (Nat.le_refl _)) fr5))) nin0)
  have F20 := F19.keep K14 (ninS (Ne.symm (Nat.ne_of_lt (Nat.lt_of_lt_of_le (Nat.lt_of_lt_of_le Ex.lt (Nat.le_refl _)) fr5))) nin0)
  have nxb : b5 ≠ x := (Ne.symm (Nat.ne_of_lt (Nat.lt_of_lt_of_le (Nat.lt_of_lt_of_le Ex.lt (Nat.le_refl _)) fr5)))
  have F21 := EA5.keep K6
  have F22 := F21.keep K14
  exact g_retV S14 (hb hby dAI_38) hret (fun sfx => ⟨rfl, b5, _, KA18, na5, fr5, A14, F16, F14, F17, F20, F22, sfx _ F20.lt sf15⟩)
theorem dSI_0 : decode jdk_67_method_1_code 0 = .ok (.aload_n 0, 1) := by decide +kernel
theorem dSI_1 : decode jdk_67_method_1_code 1 = .ok (.bipush 16, 2) := by decide +kernel
theorem dSI_3 : decode jdk_67_method_1_code 3 = .ok (.invokespecial 1, 3) := by decide +kernel
theorem dSI_6 : decode jdk_67_method_1_code 6 = .ok (.return_, 1) := by decide +kernel
set_option maxRecDepth 65536 in
set_option maxHeartbeats 40000000 in
theorem rmSI {l : Launch} {Z : State} {a0 : Array Value} {n0 : Nat} (X : Ctx Z a0) {x : Addr} {v0 c0 : Value} (na : n0 ≤ x) {h : Heap} (hO : Old Z n0 h) (Ex : Exa Z h x "java/lang/StringBuilder") (Fv : Fld Z h x "java/lang/AbstractStringBuilder" "value" "[B" v0) (Fk : Fld Z h x "java/lang/AbstractStringBuilder" "coder" "B" c0) (Fs : Fld Z h x "java/lang/AbstractStringBuilder" "count" "I" (.int (0 : Int32))) :
    CtrV l Z EL1 n0 (⟨"java/lang/StringBuilder", "<init>", "()V"⟩ : MethodName) jdk_67_method_1_code 1 none ({ frames := 2, cells := 1, slots := 16, locals := 25 } : Room) #[(.ref x)] h [] (fun v h' vm => v = none ∧ ∃ tb kb, Keep h h' [x] ∧ n0 ≤ tb ∧ h.size ≤ tb ∧ Exa Z h' x "java/lang/StringBuilder" ∧ Fld Z h' x "java/lang/AbstractStringBuilder" "value" "[B" (.ref tb) ∧ Fld Z h' x "java/lang/AbstractStringBuilder" "coder" "B" (.int (0 : Int32)) ∧ Fld Z h' x "java/lang/AbstractStringBuilder" "count" "I" (.int (Int32.ofNat ([] : List Int32).length)) ∧ Arv Z h' tb kb .byte (16 : Int32) (List.replicate 16 (.int (0 : Int32))) (.int (0 : Int32)) ∧ Exa Z h' tb "[B" ∧ Safe Z EL1 vm h' tb) := by
  have hw := X.hw
  obtain ⟨z1, hz1, hz2⟩ := X.2.2.1
  refine CtrV.intro (a0 := a0) (plainFor_of_name pn1) hO X.ew ?_
  intro p e s m below meth c T0 V0 S0 hby hml hret hnm hsf
  rw [ef2]
  refine s_aloadN S0 (hb hby dSI_0) rfl rfl (pc' := 1) rfl ?_
  refine s_bipush S0 (hb hby dSI_1) (v := (16 : Int32)) rfl (pc' := 3) rfl ?_
  show Go p e below _ (T0.setTop (mkF m 3 #[.val (.ref x)] [(.int (16 : Int32)), (.ref x)]))
  refine g_special S0 (rmAI X na S0.old Ex Fv Fk Fs) (fun _ q => nomatch q) rfl (w66 hw) (w67 hw) (w70 hw) (w71 hw) (by decide) (hb hby dSI_3) (by rw [hml]; rfl) x [(.int (16 : Int32))] (lenOf pd0 rfl) rfl rfl (Nat.le_of_ble_eq_true rfl) (Nat.le_of_ble_eq_true rfl) (Nat.le_of_ble_eq_true rfl) (Nat.le_of_ble_eq_true rfl) ?_
  intro v23 T23 V23 h23 S23 C23 q23
  obtain ⟨rfl, tb, kb, K1, ntb, frb, E1, F1, F2, F3, V1, EB1, sf1_⟩ := q23
  show Go p e below _ (T23.setTop (mkF m 6 #[.val (.ref x)] []))
  show Go p e below _ (T23.setTop (mkF m 6 #[.val (.ref x)] []))
  exact g_retV S23 (hb hby dSI_6) hret (fun sfx => ⟨rfl, tb, kb, K1, ntb, frb, E1, F1, F2, F3, V1, EB1, sfx _ V1.lt sf1_⟩)
theorem dLN_0 : decode jdk_68_method_6_code 0 = .ok (.aload_n 0, 1) := by decide +kernel
theorem dLN_1 : decode jdk_68_method_6_code 1 = .ok (.getfield 79, 3) := by decide +kernel
theorem dLN_4 : decode jdk_68_method_6_code 4 = .ok (.ireturn, 1) := by decide +kernel
set_option maxRecDepth 65536 in
set_option maxHeartbeats 40000000 in
theorem rmLN {l : Launch} {Z : State} {a0 : Array Value} {n0 : Nat} (X : Ctx Z a0) {x tb : Addr} {sc : Int32} {h : Heap} (hO : Old Z n0 h) (Ex : Exa Z h x "java/lang/StringBuilder") (Fv : Fld Z h x "java/lang/AbstractStringBuilder" "value" "[B" (.ref tb)) (Fk : Fld Z h x "java/lang/AbstractStringBuilder" "coder" "B" (.int (0 : Int32))) (Fs : Fld Z h x "java/lang/AbstractStringBuilder" "count" "I" (.int sc)) :
    Ctr l Z EL1 n0 (⟨"java/lang/AbstractStringBuilder", "length", "()I"⟩ : MethodName) jdk_68_method_6_code 1 (some .int) ({ frames := 0, cells := 0, slots := 0, locals := 0 } : Room) #[(.ref x)] h [] (fun v h' => v = some (.int sc) ∧ h' = h) := by
  have hw := X.hw
  obtain ⟨z1, hz1, hz2⟩ := X.2.2.1
  refine Ctr.intro (a0 := a0) (plainFor_of_name pn0) hO X.ew ?_
  intro p e s m below meth c T0 V0 S0 hby hml hret hnm hsf
  rw [ef2]
  refine s_aloadN S0 (hb hby dLN_0) rfl rfl (pc' := 1) rfl ?_
  refine g_getF S0 (w98 hw) Via.refl Fs (hb hby dLN_1) ?_
  intro T24 ST24
  show Go p e below _ (T24.setTop (mkF m 4 #[.val (.ref x)] [(.int sc)]))
  exact g_iret ST24 (hb hby dLN_4) hret ⟨rfl, rfl⟩
theorem dSL_0 : decode jdk_67_method_93_code 0 = .ok (.aload_n 0, 1) := by decide +kernel
theorem dSL_1 : decode jdk_67_method_93_code 1 = .ok (.invokespecial 343, 3) := by decide +kernel
theorem dSL_4 : decode jdk_67_method_93_code 4 = .ok (.ireturn, 1) := by decide +kernel
set_option maxRecDepth 65536 in
set_option maxHeartbeats 40000000 in
theorem rmSL {l : Launch} {Z : State} {a0 : Array Value} {n0 : Nat} (X : Ctx Z a0) {x tb : Addr} {sc : Int32} {h : Heap} (hO : Old Z n0 h) (Ex : Exa Z h x "java/lang/StringBuilder") (Fv : Fld Z h x "java/lang/AbstractStringBuilder" "value" "[B" (.ref tb)) (Fk : Fld Z h x "java/lang/AbstractStringBuilder" "coder" "B" (.int (0 : Int32))) (Fs : Fld Z h x "java/lang/AbstractStringBuilder" "count" "I" (.int sc)) :
    Ctr l Z EL1 n0 (⟨"java/lang/StringBuilder", "length", "()I"⟩ : MethodName) jdk_67_method_93_code 1 (some .int) ({ frames := 1, cells := 0, slots := 0, locals := 12 } : Room) #[(.ref x)] h [] (fun v h' => v = some (.int sc) ∧ h' = h) := by
  have hw := X.hw
  obtain ⟨z1, hz1, hz2⟩ := X.2.2.1
  refine Ctr.intro (a0 := a0) (plainFor_of_name pn1) hO X.ew ?_
  intro p e s m below meth c T0 V0 S0 hby hml hret hnm hsf
  rw [ef2]
  refine s_aloadN S0 (hb hby dSL_0) rfl rfl (pc' := 1) rfl ?_
  show Go p e below _ (T0.setTop (mkF m 1 #[.val (.ref x)] [(.ref x)]))
  refine g_super S0 (rmLN X S0.old Ex Fv Fk Fs) (fun _ q => nomatch q) (by decide) (w172 hw) (ni_sel (w103 hw) rfl) (w168 hw) (w85 hw) (w70 hw) (w173 hw) (by decide) (hb hby dSL_1) (by rw [hml]; rfl) x Ex [] (lenOf pd1 rfl) rfl rfl (Nat.le_of_ble_eq_true rfl) (Nat.le_of_ble_eq_true rfl) (Nat.le_of_ble_eq_true rfl) (Nat.le_of_ble_eq_true rfl) ?_
  intro v25 T25 V25 h25 S25 C25 q25
  obtain ⟨rfl, rfl⟩ := q25
  show Go p e below _ (T25.setTop (mkF m 4 #[.val (.ref x)] [(.int sc)]))
  exact g_iret S25 (hb hby dSL_4) hret ⟨rfl, rfl⟩
theorem dIL_0 : decode jdk_68_method_68_code 0 = .ok (.getstatic 18, 3) := by decide +kernel
theorem dIL_3 : decode jdk_68_method_68_code 3 = .ok (.ifCond .eq 14, 3) := by decide +kernel
theorem dIL_6 : decode jdk_68_method_68_code 6 = .ok (.aload_n 0, 1) := by decide +kernel
theorem dIL_7 : decode jdk_68_method_68_code 7 = .ok (.getfield 22, 3) := by decide +kernel
theorem dIL_10 : decode jdk_68_method_68_code 10 = .ok (.ifCond .ne 7, 3) := by decide +kernel
theorem dIL_13 : decode jdk_68_method_68_code 13 = .ok (.iconst 1, 1) := by decide +kernel
theorem dIL_14 : decode jdk_68_method_68_code 14 = .ok (.goto 4, 3) := by decide +kernel
theorem dIL_18 : decode jdk_68_method_68_code 18 = .ok (.ireturn, 1) := by decide +kernel
set_option maxRecDepth 65536 in
set_option maxHeartbeats 40000000 in
theorem rmIL {l : Launch} {Z : State} {a0 : Array Value} {n0 : Nat} (X : Ctx Z a0) {x tb : Addr} {sc : Int32} {h : Heap} (hO : Old Z n0 h) (Ex : Exa Z h x "java/lang/StringBuilder") (Fv : Fld Z h x "java/lang/AbstractStringBuilder" "value" "[B" (.ref tb)) (Fk : Fld Z h x "java/lang/AbstractStringBuilder" "coder" "B" (.int (0 : Int32))) (Fs : Fld Z h x "java/lang/AbstractStringBuilder" "count" "I" (.int sc)) :
    Ctr l Z EL1 n0 (⟨"java/lang/AbstractStringBuilder", "isLatin1", "()Z"⟩ : MethodName) jdk_68_method_68_code 1 (some .boolean) ({ frames := 0, cells := 0, slots := 0, locals := 0 } : Room) #[(.ref x)] h [] (fun v h' => v = some (.int 1) ∧ h' = h) := by
  have hw := X.hw
  obtain ⟨z1, hz1, hz2⟩ := X.2.2.1
  refine Ctr.intro (a0 := a0) (plainFor_of_name pn0) hO X.ew ?_
  intro p e s m below meth c T0 V0 S0 hby hml hret hnm hsf
  rw [ef2]
  refine g_getS S0 (w73 hw) Via.refl (hz1.ext S0.old.2) (hb hby dIL_0) ?_
  intro T26 ST26
  show Go p e below _ (T26.setTop (mkF m 3 #[.val (.ref x)] [(.int z1)]))
  refine s_ifN ST26 (hb hby dIL_3) ((if0 _ _).trans (feq hz2).1) (pc' := 6) rfl ?_
  refine s_aloadN ST26 (hb hby dIL_6) rfl rfl (pc' := 7) rfl ?_
  refine g_getF ST26 (w76 hw) Via.refl Fk (hb hby dIL_7) ?_
  intro T27 ST27
  show Go p e below _ (T27.setTop (mkF m 10 #[.val (.ref x)] [(.int (0 : Int32))]))
  refine s_ifN ST27 (hb hby dIL_10) (by decide) (pc' := 13) rfl ?_
  refine s_iconst ST27 (hb hby dIL_13) (v := (1 : Int32)) rfl (pc' := 14) rfl ?_
  refine s_goto ST27 (hb hby dIL_14) (by decide) (pcT := 18) (by decide) ?_
  exact g_iretN ST27 (hb hby dIL_18) hret (by simp) ⟨rfl, rfl⟩
theorem dGV_0 : decode jdk_68_method_64_code 0 = .ok (.aload_n 0, 1) := by decide +kernel
theorem dGV_1 : decode jdk_68_method_64_code 1 = .ok (.getfield 15, 3) := by decide +kernel
theorem dGV_4 : decode jdk_68_method_64_code 4 = .ok (.areturn, 1) := by decide +kernel
set_option maxRecDepth 65536 in
set_option maxHeartbeats 40000000 in
theorem rmGV {l : Launch} {Z : State} {a0 : Array Value} {n0 : Nat} (X : Ctx Z a0) {x tb : Addr} {sc : Int32} {h : Heap} (hO : Old Z n0 h) (Ex : Exa Z h x "java/lang/StringBuilder") (Fv : Fld Z h x "java/lang/AbstractStringBuilder" "value" "[B" (.ref tb)) (Fk : Fld Z h x "java/lang/AbstractStringBuilder" "coder" "B" (.int (0 : Int32))) (Fs : Fld Z h x "java/lang/AbstractStringBuilder" "count" "I" (.int sc)) :
    Ctr l Z EL1 n0 (⟨"java/lang/AbstractStringBuilder", "getValue", "()[B"⟩ : MethodName) jdk_68_method_64_code 1 (some (.array .byte)) ({ frames := 0, cells := 0, slots := 0, locals := 0 } : Room) #[(.ref x)] h [] (fun v h' => v = some (.ref tb) ∧ h' = h) := by
  have hw := X.hw
  obtain ⟨z1, hz1, hz2⟩ := X.2.2.1
  refine Ctr.intro (a0 := a0) (plainFor_of_name pn0) hO X.ew ?_
  intro p e s m below meth c T0 V0 S0 hby hml hret hnm hsf
  rw [ef2]
  refine s_aloadN S0 (hb hby dGV_0) rfl rfl (pc' := 1) rfl ?_
  refine g_getF S0 (w74 hw) Via.refl Fv (hb hby dGV_1) ?_
  intro T28 ST28
  show Go p e below _ (T28.setTop (mkF m 4 #[.val (.ref x)] [(.ref tb)]))
  exact g_aret ST28 (hb hby dGV_4) hret rfl rfl rfl ⟨rfl, rfl⟩
theorem dSC_0 : decode jdk_42_method_152_code 0 = .ok (.getstatic 38, 3) := by decide +kernel
theorem dSC_3 : decode jdk_42_method_152_code 3 = .ok (.ifCond .eq 10, 3) := by decide +kernel
theorem dSC_6 : decode jdk_42_method_152_code 6 = .ok (.aload_n 0, 1) := by decide +kernel
theorem dSC_7 : decode jdk_42_method_152_code 7 = .ok (.getfield 15, 3) := by decide +kernel
theorem dSC_10 : decode jdk_42_method_152_code 10 = .ok (.goto 4, 3) := by decide +kernel
theorem dSC_14 : decode jdk_42_method_152_code 14 = .ok (.ireturn, 1) := by decide +kernel
set_option maxRecDepth 65536 in
set_option maxHeartbeats 40000000 in
theorem rmSC {l : Launch} {Z : State} {a0 : Array Value} {n0 : Nat} (X : Ctx Z a0) {a ta : Addr} {ka : ClassId} {z : Int32} {us : List Value} {h : Heap} (hO : Old Z n0 h) (F : LS Z h a ta ka z us) :
    Ctr l Z EL1 n0 (⟨"java/lang/String", "coder", "()B"⟩ : MethodName) jdk_42_method_152_code 1 (some .byte) ({ frames := 0, cells := 0, slots := 0, locals := 0 } : Room) #[(.ref a)] h [] (fun v h' => v = some (.int 0) ∧ h' = h) := by
  have hw := X.hw
  obtain ⟨z1, hz1, hz2⟩ := X.2.2.1
  refine Ctr.intro (a0 := a0) (plainFor_of_name pn2) hO X.ew ?_
  intro p e s m below meth c T0 V0 S0 hby hml hret hnm hsf
  rw [ef2]
  refine g_getS S0 (w15 hw) Via.refl (hz1.ext S0.old.2) (hb hby dSC_0) ?_
  intro T29 ST29
  show Go p e below _ (T29.setTop (mkF m 3 #[.val (.ref a)] [(.int z1)]))
  refine s_ifN ST29 (hb hby dSC_3) ((if0 _ _).trans (feq hz2).1) (pc' := 6) rfl ?_
  refine s_aloadN ST29 (hb hby dSC_6) rfl rfl (pc' := 7) rfl ?_
  refine g_getF ST29 (w27 hw) Via.refl F.2.2.1 (hb hby dSC_7) ?_
  intro T30 ST30
  show Go p e below _ (T30.setTop (mkF m 10 #[.val (.ref a)] [(.int (0 : Int32))]))
  refine s_goto ST30 (hb hby dSC_10) (by decide) (pcT := 14) (by decide) ?_
  exact g_iretN ST30 (hb hby dSC_14) hret (by simp) ⟨rfl, rfl⟩
theorem dSN_0 : decode jdk_42_method_54_code 0 = .ok (.aload_n 0, 1) := by decide +kernel
theorem dSN_1 : decode jdk_42_method_54_code 1 = .ok (.getfield 9, 3) := by decide +kernel
theorem dSN_4 : decode jdk_42_method_54_code 4 = .ok (.arraylength, 1) := by decide +kernel
theorem dSN_5 : decode jdk_42_method_54_code 5 = .ok (.aload_n 0, 1) := by decide +kernel
theorem dSN_6 : decode jdk_42_method_54_code 6 = .ok (.invokevirtual 335, 3) := by decide +kernel
theorem dSN_9 : decode jdk_42_method_54_code 9 = .ok (.ishr, 1) := by decide +kernel
theorem dSN_10 : decode jdk_42_method_54_code 10 = .ok (.ireturn, 1) := by decide +kernel
set_option maxRecDepth 65536 in
set_option maxHeartbeats 40000000 in
theorem rmSN {l : Launch} {Z : State} {a0 : Array Value} {n0 : Nat} (X : Ctx Z a0) {a ta : Addr} {ka : ClassId} {z : Int32} {us : List Value} {h : Heap} (hO : Old Z n0 h) (F : LS Z h a ta ka z us) :
    Ctr l Z EL1 n0 (⟨"java/lang/String", "length", "()I"⟩ : MethodName) jdk_42_method_54_code 1 (some .int) ({ frames := 1, cells := 0, slots := 0, locals := 13 } : Room) #[(.ref a)] h [] (fun v h' => v = some (.int z) ∧ h' = h) := by
  have hw := X.hw
  obtain ⟨z1, hz1, hz2⟩ := X.2.2.1
  refine Ctr.intro (a0 := a0) (plainFor_of_name pn2) hO X.ew ?_
  intro p e s m below meth c T0 V0 S0 hby hml hret hnm hsf
  rw [ef2]
  refine s_aloadN S0 (hb hby dSN_0) rfl rfl (pc' := 1) rfl ?_
  refine g_getF S0 (w29 hw) Via.refl F.2.1 (hb hby dSN_1) ?_
  intro T31 ST31
  show Go p e below _ (T31.setTop (mkF m 4 #[.val (.ref a)] [(.ref ta)]))
  refine g_len ST31 F.2.2.2 (hb hby dSN_4) ?_
  show Go p e below _ (T31.setTop (mkF m 5 #[.val (.ref a)] [(.int z)]))
  refine s_aloadN ST31 (hb hby dSN_5) rfl rfl (pc' := 6) rfl ?_
  show Go p e below _ (T31.setTop (mkF m 6 #[.val (.ref a)] [(.ref a), (.int z)]))
  refine g_virtual ST31 (rmSC X ST31.old F) (fun _ q => nomatch q) (w93 hw) (w94 hw) (w96 hw) (w95 hw) (w3 hw) (w97 hw) (by decide) (fun _ h => notFace_of_selects h) (hb hby dSN_6) (by rw [hml]; rfl) a F.1 [] (lenOf pd2 rfl) rfl rfl (Nat.le_of_ble_eq_true rfl) (Nat.le_of_ble_eq_true rfl) (Nat.le_of_ble_eq_true rfl) (Nat.le_of_ble_eq_true rfl) ?_
  intro v32 T32 V32 h32 S32 C32 q32
  obtain ⟨rfl, rfl⟩ := q32
  show Go p e below _ (T32.setTop (mkF m 9 #[.val (.ref a)] [(.int (0 : Int32)), (.int z)]))
  refine s_ishr S32 (hb hby dSN_9) (z := z) (own_shr0 z) (pc' := 10) rfl ?_
  exact g_iret S32 (hb hby dSN_10) hret ⟨rfl, rfl⟩
theorem dIF_0 : decode jdk_68_method_71_code 0 = .ok (.getstatic 18, 3) := by decide +kernel
theorem dIF_3 : decode jdk_68_method_71_code 3 = .ok (.ifCond .eq 18, 3) := by decide +kernel
theorem dIF_6 : decode jdk_68_method_71_code 6 = .ok (.aload_n 0, 1) := by decide +kernel
theorem dIF_7 : decode jdk_68_method_71_code 7 = .ok (.getfield 22, 3) := by decide +kernel
theorem dIF_10 : decode jdk_68_method_71_code 10 = .ok (.aload_n 1, 1) := by decide +kernel
theorem dIF_11 : decode jdk_68_method_71_code 11 = .ok (.invokevirtual 40, 3) := by decide +kernel
theorem dIF_14 : decode jdk_68_method_71_code 14 = .ok (.if_icmp .eq 7, 3) := by decide +kernel
theorem dIF_21 : decode jdk_68_method_71_code 21 = .ok (.return_, 1) := by decide +kernel
set_option maxRecDepth 65536 in
set_option maxHeartbeats 40000000 in
theorem rmIF {l : Launch} {Z : State} {a0 : Array Value} {n0 : Nat} (X : Ctx Z a0) {x tb : Addr} {sc : Int32} {a ta : Addr} {ka : ClassId} {z : Int32} {us : List Value} {h : Heap} (hO : Old Z n0 h) (Ex : Exa Z h x "java/lang/StringBuilder") (Fv : Fld Z h x "java/lang/AbstractStringBuilder" "value" "[B" (.ref tb)) (Fk : Fld Z h x "java/lang/AbstractStringBuilder" "coder" "B" (.int (0 : Int32))) (Fs : Fld Z h x "java/lang/AbstractStringBuilder" "count" "I" (.int sc)) (F : LS Z h a ta ka z us) :
    Ctr l Z EL1 n0 (⟨"java/lang/AbstractStringBuilder", "inflateIfNeededFor", "(Ljava/lang/String;)V"⟩ : MethodName) jdk_68_method_71_code 2 none ({ frames := 1, cells := 0, slots := 0, locals := 13 } : Room) #[(.ref x), (.ref a)] h [] (fun v h' => v = none ∧ h' = h) := by
  have hw := X.hw
  obtain ⟨z1, hz1, hz2⟩ := X.2.2.1
  refine Ctr.intro (a0 := a0) (plainFor_of_name pn0) hO X.ew ?_
  intro p e s m below meth c T0 V0 S0 hby hml hret hnm hsf
  rw [ef3]
  refine g_getS S0 (w73 hw) Via.refl (hz1.ext S0.old.2) (hb hby dIF_0) ?_
  intro T33 ST33
  show Go p e below _ (T33.setTop (mkF m 3 #[.val (.ref x), .val (.ref a)] [(.int z1)]))
  refine s_ifN ST33 (hb hby dIF_3) ((if0 _ _).trans (feq hz2).1) (pc' := 6) rfl ?_
  refine s_aloadN ST33 (hb hby dIF_6) rfl rfl (pc' := 7) rfl ?_
  refine g_getF ST33 (w76 hw) Via.refl Fk (hb hby dIF_7) ?_
  intro T34 ST34
  show Go p e below _ (T34.setTop (mkF m 10 #[.val (.ref x), .val (.ref a)] [(.int (0 : Int32))]))
  refine s_aloadN ST34 (hb hby dIF_10) rfl rfl (pc' := 11) rfl ?_
  show Go p e below _ (T34.setTop (mkF m 11 #[.val (.ref x), .val (.ref a)] [(.ref a), (.int (0 : Int32))]))
  refine g_virtual ST34 (rmSC X ST34.old F) (fun _ q => nomatch q) (w115 hw) (w94 hw) (w96 hw) (w95 hw) (w3 hw) (w97 hw) (by decide) (fun _ h => notFace_of_selects h) (hb hby dIF_11) (by rw [hml]; rfl) a F.1 [] (lenOf pd2 rfl) rfl rfl (Nat.le_of_ble_eq_true rfl) (Nat.le_of_ble_eq_true rfl) (Nat.le_of_ble_eq_true rfl) (Nat.le_of_ble_eq_true rfl) ?_
  intro v35 T35 V35 h35 S35 C35 q35
  obtain ⟨rfl, rfl⟩ := q35
  show Go p e below _ (T35.setTop (mkF m 14 #[.val (.ref x), .val (.ref a)] [(.int (0 : Int32)), (.int (0 : Int32))]))
  refine s_icmpY S35 (hb hby dIF_14) (by decide) (by decide) (pcT := 21) (by decide) ?_
  exact g_ret S35 (hb hby dIF_21) hret ⟨rfl, rfl⟩
theorem dEG_0 : decode jdk_68_method_9_code 0 = .ok (.aload_n 0, 1) := by decide +kernel
theorem dEG_1 : decode jdk_68_method_9_code 1 = .ok (.getfield 15, 3) := by decide +kernel
theorem dEG_4 : decode jdk_68_method_9_code 4 = .ok (.arraylength, 1) := by decide +kernel
theorem dEG_5 : decode jdk_68_method_9_code 5 = .ok (.aload_n 0, 1) := by decide +kernel
theorem dEG_6 : decode jdk_68_method_9_code 6 = .ok (.getfield 22, 3) := by decide +kernel
theorem dEG_9 : decode jdk_68_method_9_code 9 = .ok (.ishr, 1) := by decide +kernel
theorem dEG_10 : decode jdk_68_method_9_code 10 = .ok (.istore_n 2, 1) := by decide +kernel
theorem dEG_11 : decode jdk_68_method_9_code 11 = .ok (.iload_n 1, 1) := by decide +kernel
theorem dEG_12 : decode jdk_68_method_9_code 12 = .ok (.iload_n 2, 1) := by decide +kernel
theorem dEG_13 : decode jdk_68_method_9_code 13 = .ok (.isub, 1) := by decide +kernel
theorem dEG_14 : decode jdk_68_method_9_code 14 = .ok (.ifCond .le 24, 3) := by decide +kernel
theorem dEG_38 : decode jdk_68_method_9_code 38 = .ok (.return_, 1) := by decide +kernel
set_option maxRecDepth 65536 in
set_option maxHeartbeats 40000000 in
theorem rmEG {l : Launch} {Z : State} {a0 : Array Value} {n0 : Nat} (X : Ctx Z a0) {x tb : Addr} {kb : ClassId} {sc : Int32} {bs : List Value} {mc : Int32} {h : Heap} (hO : Old Z n0 h) (Ex : Exa Z h x "java/lang/StringBuilder") (Fv : Fld Z h x "java/lang/AbstractStringBuilder" "value" "[B" (.ref tb)) (Fk : Fld Z h x "java/lang/AbstractStringBuilder" "coder" "B" (.int (0 : Int32))) (Fs : Fld Z h x "java/lang/AbstractStringBuilder" "count" "I" (.int sc)) (Vb : Arv Z h tb kb .byte (16 : Int32) bs (.int (0 : Int32))) (m0 : 0 ≤ mc.toInt) (m1 : mc.toInt ≤ 16) :
    Ctr l Z EL1 n0 (⟨"java/lang/AbstractStringBuilder", "ensureCapacityInternal", "(I)V"⟩ : MethodName) jdk_68_method_9_code 3 none ({ frames := 0, cells := 0, slots := 0, locals := 0 } : Room) #[(.ref x), (.int mc)] h [] (fun v h' => v = none ∧ h' = h) := by
  have hw := X.hw
  obtain ⟨z1, hz1, hz2⟩ := X.2.2.1
  refine Ctr.intro (a0 := a0) (plainFor_of_name pn0) hO X.ew ?_
  intro p e s m below meth c T0 V0 S0 hby hml hret hnm hsf
  rw [ef7]
  refine s_aloadN S0 (hb hby dEG_0) rfl rfl (pc' := 1) rfl ?_
  refine g_getF S0 (w74 hw) Via.refl Fv (hb hby dEG_1) ?_
  intro T79 ST79
  show Go p e below _ (T79.setTop (mkF m 4 #[.val (.ref x), .val (.int mc), .unset] [(.ref tb)]))
  refine g_len ST79 Vb (hb hby dEG_4) ?_
  show Go p e below _ (T79.setTop (mkF m 5 #[.val (.ref x), .val (.int mc), .unset] [(.int (16 : Int32))]))
  refine s_aloadN ST79 (hb hby dEG_5) rfl rfl (pc' := 6) rfl ?_
  refine g_getF ST79 (w76 hw) Via.refl Fk (hb hby dEG_6) ?_
  intro T80 ST80
  show Go p e below _ (T80.setTop (mkF m 9 #[.val (.ref x), .val (.int mc), .unset] [(.int (0 : Int32)), (.int (16 : Int32))]))
  refine s_ishr ST80 (hb hby dEG_9) (z := (16 : Int32)) (by decide) (pc' := 10) rfl ?_
  refine s_istoreN ST80 (hb hby dEG_10) (L' := #[.val (.ref x), .val (.int mc), .val (.int (16 : Int32))]) rfl (pc' := 11) rfl ?_
  refine s_iloadN ST80 (hb hby dEG_11) rfl (pc' := 12) rfl ?_
  refine s_iloadN ST80 (hb hby dEG_12) rfl (pc' := 13) rfl ?_
  refine s_isub ST80 (hb hby dEG_13) (z := (mc - (16 : Int32))) rfl (pc' := 14) rfl ?_
  refine s_ifY ST80 (hb hby dEG_14) ((if0 _ _).trans (flt (own_cap m0 m1)).2.2.2) (by decide) (pcT := 38) (by decide) ?_
  exact g_ret ST80 (hb hby dEG_38) hret ⟨rfl, rfl⟩
theorem dGB_0 : decode jdk_42_method_147_code 0 = .ok (.aload_n 0, 1) := by decide +kernel
theorem dGB_1 : decode jdk_42_method_147_code 1 = .ok (.invokevirtual 335, 3) := by decide +kernel
theorem dGB_4 : decode jdk_42_method_147_code 4 = .ok (.iload_n 3, 1) := by decide +kernel
theorem dGB_5 : decode jdk_42_method_147_code 5 = .ok (.if_icmp .ne 23, 3) := by decide +kernel
theorem dGB_8 : decode jdk_42_method_147_code 8 = .ok (.aload_n 0, 1) := by decide +kernel
theorem dGB_9 : decode jdk_42_method_147_code 9 = .ok (.getfield 9, 3) := by decide +kernel
theorem dGB_12 : decode jdk_42_method_147_code 12 = .ok (.iconst 0, 1) := by decide +kernel
theorem dGB_13 : decode jdk_42_method_147_code 13 = .ok (.aload_n 1, 1) := by decide +kernel
theorem dGB_14 : decode jdk_42_method_147_code 14 = .ok (.iload_n 2, 1) := by decide +kernel
theorem dGB_15 : decode jdk_42_method_147_code 15 = .ok (.iload_n 3, 1) := by decide +kernel
theorem dGB_16 : decode jdk_42_method_147_code 16 = .ok (.ishl, 1) := by decide +kernel
theorem dGB_17 : decode jdk_42_method_147_code 17 = .ok (.aload_n 0, 1) := by decide +kernel
theorem dGB_18 : decode jdk_42_method_147_code 18 = .ok (.getfield 9, 3) := by decide +kernel
theorem dGB_21 : decode jdk_42_method_147_code 21 = .ok (.arraylength, 1) := by decide +kernel
theorem dGB_22 : decode jdk_42_method_147_code 22 = .ok (.invokestatic 212, 3) := by decide +kernel
theorem dGB_25 : decode jdk_42_method_147_code 25 = .ok (.goto 18, 3) := by decide +kernel
theorem dGB_43 : decode jdk_42_method_147_code 43 = .ok (.return_, 1) := by decide +kernel
set_option maxRecDepth 65536 in
set_option maxHeartbeats 40000000 in
theorem rmGB {l : Launch} {Z : State} {a0 : Array Value} {n0 : Nat} (X : Ctx Z a0) {tb : Addr} {kb : ClassId} {ds : List Int32} {bs : List Value} {a ta : Addr} {ka : ClassId} {cs : List Int32} (nb : n0 ≤ tb) {h : Heap} (hO : Old Z n0 h) (F : LC Z h a ta ka cs) (Vb : Arv Z h tb kb .byte (16 : Int32) bs (.int (0 : Int32))) (hbl : bs.length = 16) (hpr : bz ds <+: bs) (hcp : ds.length + cs.length ≤ 16) :
    Ctr l Z EL1 n0 (⟨"java/lang/String", "getBytes", "([BIB)V"⟩ : MethodName) jdk_42_method_147_code 4 none ({ frames := 1, cells := 0, slots := 0, locals := 18 } : Room) #[(.ref a), (.ref tb), (.int (Int32.ofNat ds.length)), (.int (0 : Int32))] h [tb] (fun v h' => v = none ∧ Keep h h' [tb] ∧ Arv Z h' tb kb .byte (16 : Int32) (bs.take ds.length ++ bz cs ++ bs.drop (ds.length + cs.length)) (.int (0 : Int32))) := by
  have hw := X.hw
  obtain ⟨z1, hz1, hz2⟩ := X.2.2.1
  refine Ctr.intro (a0 := a0) (plainFor_of_name pn2) hO X.ew ?_
  intro p e s m below meth c T0 V0 S0 hby hml hret hnm hsf
  rw [ef4]
  have lcs : cs.length ≤ 100000 := by omega
  have lds : ds.length ≤ 100000 := by omega
  show Go p e below _ (T0.setTop (mkF m 0 #[.val (.ref a), .val (.ref tb), .val (.int (Int32.ofNat ds.length)), .val (.int (0 : Int32))] []))
  refine s_aloadN S0 (hb hby dGB_0) rfl rfl (pc' := 1) rfl ?_
  show Go p e below _ (T0.setTop (mkF m 1 #[.val (.ref a), .val (.ref tb), .val (.int (Int32.ofNat ds.length)), .val (.int (0 : Int32))] [(.ref a)]))
  refine g_virtual S0 (rmSC X S0.old F) (fun _ q => nomatch q) (w93 hw) (w94 hw) (w96 hw) (w95 hw) (w3 hw) (w97 hw) (by decide) (fun _ h => notFace_of_selects h) (hb hby dGB_1) (by rw [hml]; rfl) a F.1 [] (lenOf pd2 rfl) rfl rfl (Nat.le_of_ble_eq_true rfl) (Nat.le_of_ble_eq_true rfl) (Nat.le_of_ble_eq_true rfl) (Nat.le_of_ble_eq_true rfl) ?_
  intro v98 T98 V98 h98 S98 C98 q98
  obtain ⟨rfl, rfl⟩ := q98
  have sf99 := C98.safe Vb.lt (hsf tb List.mem_cons_self)
  show Go p e below _ (T98.setTop (mkF m 4 #[.val (.ref a), .val (.ref tb), .val (.int (Int32.ofNat ds.length)), .val (.int (0 : Int32))] [(.int (0 : Int32))]))
  refine s_iloadN S98 (hb hby dGB_4) rfl (pc' := 5) rfl ?_
  refine s_icmpN S98 (hb hby dGB_5) (by decide) (pc' := 8) rfl ?_
  refine s_aloadN S98 (hb hby dGB_8) rfl rfl (pc' := 9) rfl ?_
  refine g_getF S98 (w29 hw) Via.refl F.2.1 (hb hby dGB_9) ?_
  intro T100 ST100
  show Go p e below _ (T100.setTop (mkF m 12 #[.val (.ref a), .val (.ref tb), .val (.int (Int32.ofNat ds.length)), .val (.int (0 : Int32))] [(.ref ta)]))
  refine s_iconst ST100 (hb hby dGB_12) (v := (0 : Int32)) rfl (pc' := 13) rfl ?_
  refine s_aloadN ST100 (hb hby dGB_13) rfl rfl (pc' := 14) rfl ?_
  refine s_iloadN ST100 (hb hby dGB_14) rfl (pc' := 15) rfl ?_
  refine s_iloadN ST100 (hb hby dGB_15) rfl (pc' := 16) rfl ?_
  refine s_ishl ST100 (hb hby dGB_16) (z := (Int32.ofNat ds.length)) (own_shl0 _) (pc' := 17) rfl ?_
  refine s_aloadN ST100 (hb hby dGB_17) rfl rfl (pc' := 18) rfl ?_
  refine g_getF ST100 (w29 hw) Via.refl F.2.1 (hb hby dGB_18) ?_
  intro T101 ST101
  show Go p e below _ (T101.setTop (mkF m 21 #[.val (.ref a), .val (.ref tb), .val (.int (Int32.ofNat ds.length)), .val (.int (0 : Int32))] [(.ref ta), (.int (Int32.ofNat ds.length)), (.ref tb), (.int (0 : Int32)), (.ref ta)]))
  refine g_len ST101 F.2.2.2 (hb hby dGB_21) ?_
  show Go p e below _ (T101.setTop (mkF m 22 #[.val (.ref a), .val (.ref tb), .val (.int (Int32.ofNat ds.length)), .val (.int (0 : Int32))] [(.int (Int32.ofNat cs.length)), (.int (Int32.ofNat ds.length)), (.ref tb), (.int (0 : Int32)), (.ref ta)]))
  show Go p e below _ (T101.setTop (mkF m 22 #[.val (.ref a), .val (.ref tb), .val (.int (Int32.ofNat ds.length)), .val (.int (0 : Int32))] [(.int (Int32.ofNat cs.length)), (.int (Int32.ofNat ds.length)), (.ref tb), (.int (0 : Int32)), (.ref ta)]))
  refine g_copy ST101 (w121 hw) (w124 hw) (w122 hw) (w123 hw) F.2.2.2 Vb rfl (by decide) (o_nn lds) (o_nn lcs) (by show 0 + _ ≤ _; omega) (by rw [o_nat lds, o_nat lcs]; show _ ≤ 16; omega) (us := bz cs) (cp_us (bz_len cs) lcs) (by rw [o_nat lds, o_nat lcs]; omega) nb sf99 (hb hby dGB_22) (by rw [hml]; rfl) (Nat.le_of_ble_eq_true rfl) (by decide) ?_
  intro T9 h9 S9 K9 V9 sg9
  rw [o_nat lds, o_nat lcs] at V9
  show Go p e below _ (T9.setTop (mkF m 25 #[.val (.ref a), .val (.ref tb), .val (.int (Int32.ofNat ds.length)), .val (.int (0 : Int32))] []))
  refine s_goto S9 (hb hby dGB_25) (by decide) (pcT := 43) (by decide) ?_
  exact g_ret S9 (hb hby dGB_43) hret ⟨rfl, K9, V9⟩
theorem dPS_0 : decode jdk_68_method_73_code 0 = .ok (.aload_n 0, 1) := by decide +kernel
theorem dPS_1 : decode jdk_68_method_73_code 1 = .ok (.aload_n 2, 1) := by decide +kernel
theorem dPS_2 : decode jdk_68_method_73_code 2 = .ok (.invokevirtual 397, 3) := by decide +kernel
theorem dPS_5 : decode jdk_68_method_73_code 5 = .ok (.aload_n 2, 1) := by decide +kernel
theorem dPS_6 : decode jdk_68_method_73_code 6 = .ok (.aload_n 0, 1) := by decide +kernel
theorem dPS_7 : decode jdk_68_method_73_code 7 = .ok (.getfield 15, 3) := by decide +kernel
theorem dPS_10 : decode jdk_68_method_73_code 10 = .ok (.iload_n 1, 1) := by decide +kernel
theorem dPS_11 : decode jdk_68_method_73_code 11 = .ok (.aload_n 0, 1) := by decide +kernel
theorem dPS_12 : decode jdk_68_method_73_code 12 = .ok (.getfield 22, 3) := by decide +kernel
theorem dPS_15 : decode jdk_68_method_73_code 15 = .ok (.invokevirtual 399, 3) := by decide +kernel
theorem dPS_18 : decode jdk_68_method_73_code 18 = .ok (.return_, 1) := by decide +kernel
set_option maxRecDepth 65536 in
set_option maxHeartbeats 40000000 in
theorem rmPS {l : Launch} {Z : State} {a0 : Array Value} {n0 : Nat} (X : Ctx Z a0) {x tb : Addr} {kb : ClassId} {ds : List Int32} {bs : List Value} {a ta : Addr} {ka : ClassId} {cs : List Int32} (nb : n0 ≤ tb) {h : Heap} (hO : Old Z n0 h) (Ex : Exa Z h x "java/lang/StringBuilder") (Fv : Fld Z h x "java/lang/AbstractStringBuilder" "value" "[B" (.ref tb)) (Fk : Fld Z h x "java/lang/AbstractStringBuilder" "coder" "B" (.int (0 : Int32))) (Fs : Fld Z h x "java/lang/AbstractStringBuilder" "count" "I" (.int (Int32.ofNat ds.length))) (F : LC Z h a ta ka cs) (Vb : Arv Z h tb kb .byte (16 : Int32) bs (.int (0 : Int32))) (hbl : bs.length = 16) (hpr : bz ds <+: bs) (hcp : ds.length + cs.length ≤ 16) :
    Ctr l Z EL1 n0 (⟨"java/lang/AbstractStringBuilder", "putStringAt", "(ILjava/lang/String;)V"⟩ : MethodName) jdk_68_method_73_code 3 none ({ frames := 2, cells := 0, slots := 0, locals := 33 } : Room) #[(.ref x), (.int (Int32.ofNat ds.length)), (.ref a)] h [tb] (fun v h' => v = none ∧ Keep h h' [tb] ∧ Arv Z h' tb kb .byte (16 : Int32) (bs.take ds.length ++ bz cs ++ bs.drop (ds.length + cs.length)) (.int (0 : Int32))) := by
  have hw := X.hw
  obtain ⟨z1, hz1, hz2⟩ := X.2.2.1
  refine Ctr.intro (a0 := a0) (plainFor_of_name pn0) hO X.ew ?_
  intro p e s m below meth c T0 V0 S0 hby hml hret hnm hsf
  rw [ef5]
  refine s_aloadN S0 (hb hby dPS_0) rfl rfl (pc' := 1) rfl ?_
  refine s_aloadN S0 (hb hby dPS_1) rfl rfl (pc' := 2) rfl ?_
  show Go p e below _ (T0.setTop (mkF m 2 #[.val (.ref x), .val (.int (Int32.ofNat ds.length)), .val (.ref a)] [(.ref a), (.ref x)]))
  refine g_private S0 (rmIF X S0.old Ex Fv Fk Fs F) (fun _ q => nomatch q) (w110 hw) (ni_sel (w103 hw) rfl) (w112 hw) (w111 hw) (w70 hw) (w114 hw) (by decide) (hb hby dPS_2) (by rw [hml]; rfl) x Ex [(.ref a)] (lenOf pd3 rfl) rfl rfl (Nat.le_of_ble_eq_true rfl) (Nat.le_of_ble_eq_true rfl) (Nat.le_of_ble_eq_true rfl) (Nat.le_of_ble_eq_true rfl) ?_
  intro v102 T102 V102 h102 S102 C102 q102
  obtain ⟨rfl, rfl⟩ := q102
  have sf103 := C102.safe Vb.lt (hsf tb List.mem_cons_self)
  show Go p e below _ (T102.setTop (mkF m 5 #[.val (.ref x), .val (.int (Int32.ofNat ds.length)), .val (.ref a)] []))
  refine s_aloadN S102 (hb hby dPS_5) rfl rfl (pc' := 6) rfl ?_
  refine s_aloadN S102 (hb hby dPS_6) rfl rfl (pc' := 7) rfl ?_
  refine g_getF S102 (w74 hw) Via.refl Fv (hb hby dPS_7) ?_
  intro T104 ST104
  show Go p e below _ (T104.setTop (mkF m 10 #[.val (.ref x), .val (.int (Int32.ofNat ds.length)), .val (.ref a)] [(.ref tb), (.ref a)]))
  refine s_iloadN ST104 (hb hby dPS_10) rfl (pc' := 11) rfl ?_
  refine s_aloadN ST104 (hb hby dPS_11) rfl rfl (pc' := 12) rfl ?_
  refine g_getF ST104 (w76 hw) Via.refl Fk (hb hby dPS_12) ?_
  intro T105 ST105
  show Go p e below _ (T105.setTop (mkF m 15 #[.val (.ref x), .val (.int (Int32.ofNat ds.length)), .val (.ref a)] [(.int (0 : Int32)), (.int (Int32.ofNat ds.length)), (.ref tb), (.ref a)]))
  show Go p e below _ (T105.setTop (mkF m 15 #[.val (.ref x), .val (.int (Int32.ofNat ds.length)), .val (.ref a)] [(.int (0 : Int32)), (.int (Int32.ofNat ds.length)), (.ref tb), (.ref a)]))
  refine g_virtual ST105 (rmGB X nb ST105.old F Vb hbl hpr hcp) (sf1 Vb.lt sf103) (w116 hw) (w117 hw) (w119 hw) (w118 hw) (w3 hw) (w120 hw) (by decide) (fun _ h => notFace_of_selects h) (hb hby dPS_15) (by rw [hml]; rfl) a F.1 [(.ref tb), (.int (Int32.ofNat ds.length)), (.int (0 : Int32))] (lenOf pd4 rfl) rfl rfl (Nat.le_of_ble_eq_true rfl) (Nat.le_of_ble_eq_true rfl) (Nat.le_of_ble_eq_true rfl) (Nat.le_of_ble_eq_true rfl) ?_
  intro v106 T106 V106 h106 S106 C106 q106
  obtain ⟨rfl, K1, V1⟩ := q106
  have sf107 := C106.safe Vb.lt sf103
  show Go p e below _ (T106.setTop (mkF m 18 #[.val (.ref x), .val (.int (Int32.ofNat ds.length)), .val (.ref a)] []))
  exact g_ret S106 (hb hby dPS_18) hret ⟨rfl, K1, V1⟩
theorem dAT_0 : decode jdk_68_method_22_code 0 = .ok (.aload_n 1, 1) := by decide +kernel
theorem dAT_1 : decode jdk_68_method_22_code 1 = .ok (.ifnonnull 8, 3) := by decide +kernel
theorem dAT_9 : decode jdk_68_method_22_code 9 = .ok (.aload_n 1, 1) := by decide +kernel
theorem dAT_10 : decode jdk_68_method_22_code 10 = .ok (.invokevirtual 32, 3) := by decide +kernel
theorem dAT_13 : decode jdk_68_method_22_code 13 = .ok (.istore_n 2, 1) := by decide +kernel
theorem dAT_14 : decode jdk_68_method_22_code 14 = .ok (.aload_n 0, 1) := by decide +kernel
theorem dAT_15 : decode jdk_68_method_22_code 15 = .ok (.aload_n 0, 1) := by decide +kernel
theorem dAT_16 : decode jdk_68_method_22_code 16 = .ok (.getfield 79, 3) := by decide +kernel
theorem dAT_19 : decode jdk_68_method_22_code 19 = .ok (.iload_n 2, 1) := by decide +kernel
theorem dAT_20 : decode jdk_68_method_22_code 20 = .ok (.iadd, 1) := by decide +kernel
theorem dAT_21 : decode jdk_68_method_22_code 21 = .ok (.invokevirtual 100, 3) := by decide +kernel
theorem dAT_24 : decode jdk_68_method_22_code 24 = .ok (.aload_n 0, 1) := by decide +kernel
theorem dAT_25 : decode jdk_68_method_22_code 25 = .ok (.aload_n 0, 1) := by decide +kernel
theorem dAT_26 : decode jdk_68_method_22_code 26 = .ok (.getfield 79, 3) := by decide +kernel
theorem dAT_29 : decode jdk_68_method_22_code 29 = .ok (.aload_n 1, 1) := by decide +kernel
theorem dAT_30 : decode jdk_68_method_22_code 30 = .ok (.invokevirtual 208, 3) := by decide +kernel
theorem dAT_33 : decode jdk_68_method_22_code 33 = .ok (.aload_n 0, 1) := by decide +kernel
theorem dAT_34 : decode jdk_68_method_22_code 34 = .ok (.dup, 1) := by decide +kernel
theorem dAT_35 : decode jdk_68_method_22_code 35 = .ok (.getfield 79, 3) := by decide +kernel
theorem dAT_38 : decode jdk_68_method_22_code 38 = .ok (.iload_n 2, 1) := by decide +kernel
theorem dAT_39 : decode jdk_68_method_22_code 39 = .ok (.iadd, 1) := by decide +kernel
theorem dAT_40 : decode jdk_68_method_22_code 40 = .ok (.putfield 79, 3) := by decide +kernel
theorem dAT_43 : decode jdk_68_method_22_code 43 = .ok (.aload_n 0, 1) := by decide +kernel
theorem dAT_44 : decode jdk_68_method_22_code 44 = .ok (.areturn, 1) := by decide +kernel
set_option maxRecDepth 65536 in
set_option maxHeartbeats 40000000 in
theorem rmAT {l : Launch} {Z : State} {a0 : Array Value} {n0 : Nat} (X : Ctx Z a0) {x tb : Addr} {kb : ClassId} {ds : List Int32} {bs : List Value} {a ta : Addr} {ka : ClassId} {cs : List Int32} (na : n0 ≤ x) (nb : n0 ≤ tb) {h : Heap} (hO : Old Z n0 h) (Ex : Exa Z h x "java/lang/StringBuilder") (Fv : Fld Z h x "java/lang/AbstractStringBuilder" "value" "[B" (.ref tb)) (Fk : Fld Z h x "java/lang/AbstractStringBuilder" "coder" "B" (.int (0 : Int32))) (Fs : Fld Z h x "java/lang/AbstractStringBuilder" "count" "I" (.int (Int32.ofNat ds.length))) (F : LC Z h a ta ka cs) (Vb : Arv Z h tb kb .byte (16 : Int32) bs (.int (0 : Int32))) (hbl : bs.length = 16) (hpr : bz ds <+: bs) (hcp : ds.length + cs.length ≤ 16) :
    Ctr l Z EL1 n0 (⟨"java/lang/AbstractStringBuilder", "append", "(Ljava/lang/String;)Ljava/lang/AbstractStringBuilder;"⟩ : MethodName) jdk_68_method_22_code 3 (some (.object "java/lang/AbstractStringBuilder")) ({ frames := 3, cells := 0, slots := 0, locals := 47 } : Room) #[(.ref x), (.ref a)] h [tb] (fun v h' => v = some (.ref x) ∧ ∃ (bs' : List Value), Keep h h' [x, tb] ∧ Exa Z h' x "java/lang/StringBuilder" ∧ Fld Z h' x "java/lang/AbstractStringBuilder" "value" "[B" (.ref tb) ∧ Fld Z h' x "java/lang/AbstractStringBuilder" "coder" "B" (.int (0 : Int32)) ∧ Fld Z h' x "java/lang/AbstractStringBuilder" "count" "I" (.int (Int32.ofNat (ds ++ cs).length)) ∧ Arv Z h' tb kb .byte (16 : Int32) bs' (.int (0 : Int32)) ∧ bs'.length = 16 ∧ bz (ds ++ cs) <+: bs') := by
  have hw := X.hw
  obtain ⟨z1, hz1, hz2⟩ := X.2.2.1
  refine Ctr.intro (a0 := a0) (plainFor_of_name pn0) hO X.ew ?_
  intro p e s m below meth c T0 V0 S0 hby hml hret hnm hsf
  rw [ef6]
  have lcs : cs.length ≤ 100000 := by omega
  have lds : ds.length ≤ 100000 := by omega
  have nXB : x ≠ tb := Exa.neArv Ex Vb (w61 hw)
  have mc := o_int (n := (ds ++ cs).length) (by rw [List.length_append]; omega)
  rw [List.length_append] at mc
  have pc_ := pre_copy (us := bz cs) hpr (by rw [bz_len, bz_len]; omega)
  rw [bz_len, bz_len, ← bz_app] at pc_
  show Go p e below _ (T0.setTop (mkF m 0 #[.val (.ref x), .val (.ref a), .unset] []))
  refine s_aloadN S0 (hb hby dAT_0) rfl rfl (pc' := 1) rfl ?_
  refine s_nonnullY S0 (hb hby dAT_1) (by decide) (pcT := 9) (by decide) ?_
  refine s_aloadN S0 (hb hby dAT_9) rfl rfl (pc' := 10) rfl ?_
  show Go p e below _ (T0.setTop (mkF m 10 #[.val (.ref x), .val (.ref a), .unset] [(.ref a)]))
  refine g_virtual S0 (rmSN X S0.old F) (fun _ q => nomatch q) (w88 hw) (w89 hw) (w91 hw) (w90 hw) (w3 hw) (w92 hw) (by decide) (fun _ h => notFace_of_selects h) (hb hby dAT_10) (by rw [hml]; rfl) a F.1 [] (lenOf pd1 rfl) rfl rfl (Nat.le_of_ble_eq_true rfl) (Nat.le_of_ble_eq_true rfl) (Nat.le_of_ble_eq_true rfl) (Nat.le_of_ble_eq_true rfl) ?_
  intro v108 T108 V108 h108 S108 C108 q108
  obtain ⟨rfl, rfl⟩ := q108
  have sf109 := C108.safe Vb.lt (hsf tb List.mem_cons_self)
  show Go p e below _ (T108.setTop (mkF m 13 #[.val (.ref x), .val (.ref a), .unset] [(.int (Int32.ofNat cs.length))]))
  refine s_istoreN S108 (hb hby dAT_13) (L' := #[.val (.ref x), .val (.ref a), .val (.int (Int32.ofNat cs.length))]) rfl (pc' := 14) rfl ?_
  refine s_aloadN S108 (hb hby dAT_14) rfl rfl (pc' := 15) rfl ?_
  refine s_aloadN S108 (hb hby dAT_15) rfl rfl (pc' := 16) rfl ?_
  refine g_getF S108 (w98 hw) Via.refl Fs (hb hby dAT_16) ?_
  intro T110 ST110
  show Go p e below _ (T110.setTop (mkF m 19 #[.val (.ref x), .val (.ref a), .val (.int (Int32.ofNat cs.length))] [(.int (Int32.ofNat ds.length)), (.ref x)]))
  refine s_iloadN ST110 (hb hby dAT_19) rfl (pc' := 20) rfl ?_
  refine s_iadd ST110 (hb hby dAT_20) (z := (Int32.ofNat (ds ++ cs).length)) (by rw [o_add, List.length_append]) (pc' := 21) rfl ?_
  show Go p e below _ (T110.setTop (mkF m 21 #[.val (.ref x), .val (.ref a), .val (.int (Int32.ofNat cs.length))] [(.int (Int32.ofNat (ds ++ cs).length)), (.ref x)]))
  refine g_private ST110 (rmEG X ST110.old Ex Fv Fk Fs Vb (by rw [List.length_append]; omega) (by rw [List.length_append]; omega)) (fun _ q => nomatch q) (w100 hw) (ni_sel (w103 hw) rfl) (w102 hw) (w101 hw) (w70 hw) (w104 hw) (by decide) (hb hby dAT_21) (by rw [hml]; rfl) x Ex [(.int (Int32.ofNat (ds ++ cs).length))] (lenOf pd0 rfl) rfl rfl (Nat.le_of_ble_eq_true rfl) (Nat.le_of_ble_eq_true rfl) (Nat.le_of_ble_eq_true rfl) (Nat.le_of_ble_eq_true rfl) ?_
  intro v111 T111 V111 h111 S111 C111 q111
  obtain ⟨rfl, rfl⟩ := q111
  have sf112 := C111.safe Vb.lt sf109
  show Go p e below _ (T111.setTop (mkF m 24 #[.val (.ref x), .val (.ref a), .val (.int (Int32.ofNat cs.length))] []))
  refine s_aloadN S111 (hb hby dAT_24) rfl rfl (pc' := 25) rfl ?_
  refine s_aloadN S111 (hb hby dAT_25) rfl rfl (pc' := 26) rfl ?_
  refine g_getF S111 (w98 hw) Via.refl Fs (hb hby dAT_26) ?_
  intro T113 ST113
  show Go p e below _ (T113.setTop (mkF m 29 #[.val (.ref x), .val (.ref a), .val (.int (Int32.ofNat cs.length))] [(.int (Int32.ofNat ds.length)), (.ref x)]))
  refine s_aloadN ST113 (hb hby dAT_29) rfl rfl (pc' := 30) rfl ?_
  show Go p e below _ (T113.setTop (mkF m 30 #[.val (.ref x), .val (.ref a), .val (.int (Int32.ofNat cs.length))] [(.ref a), (.int (Int32.ofNat ds.length)), (.ref x)]))
  refine g_private ST113 (rmPS X nb ST113.old Ex Fv Fk Fs F Vb hbl hpr hcp) (sf1 Vb.lt sf112) (w105 hw) (ni_sel (w103 hw) rfl) (w107 hw) (w106 hw) (w70 hw) (w109 hw) (by decide) (hb hby dAT_30) (by rw [hml]; rfl) x Ex [(.int (Int32.ofNat ds.length)), (.ref a)] (lenOf pd5 rfl) rfl rfl (Nat.le_of_ble_eq_true rfl) (Nat.le_of_ble_eq_true rfl) (Nat.le_of_ble_eq_true rfl) (Nat.le_of_ble_eq_true rfl) ?_
  intro v114 T114 V114 h114 S114 C114 q114
  obtain ⟨rfl, K1, V1⟩ := q114
  have sf115 := C114.safe Vb.lt sf112
  show Go p e below _ (T114.setTop (mkF m 33 #[.val (.ref x), .val (.ref a), .val (.int (Int32.ofNat cs.length))] []))
  refine s_aloadN S114 (hb hby dAT_33) rfl rfl (pc' := 34) rfl ?_
  refine s_dup S114 (hb hby dAT_34) rfl (pc' := 35) rfl ?_
  have F116 := Fs.keep K1 (ninS nXB nin0)
  refine g_getF S114 (w98 hw) Via.refl F116 (hb hby dAT_35) ?_
  intro T117 ST117
  show Go p e below _ (T117.setTop (mkF m 38 #[.val (.ref x), .val (.ref a), .val (.int (Int32.ofNat cs.length))] [(.int (Int32.ofNat ds.length)), (.ref x)]))
  refine s_iloadN ST117 (hb hby dAT_38) rfl (pc' := 39) rfl ?_
  refine s_iadd ST117 (hb hby dAT_39) (z := (Int32.ofNat (ds ++ cs).length)) (by rw [o_add, List.length_append]) (pc' := 40) rfl ?_
  show Go p e below _ (T117.setTop (mkF m 40 #[.val (.ref x), .val (.ref a), .val (.int (Int32.ofNat cs.length))] [(.int (Int32.ofNat (ds ++ cs).length)), (.ref x)]))
  have F119 := Ex.keep K1
  have F120 := Fv.keep K1 (ninS nXB nin0)
  have F121 := Fk.keep K1 (ninS nXB nin0)
  refine g_putF ST117 (w98 hw) Via.refl F116 F119 (Or.inl (w99 hw)) (w61 hw) (ty := .int) (v' := (.int (Int32.ofNat (ds ++ cs).length))) (by decide) rfl rfl na (Safe.exa ST117.warm.alike F119 (by decide) (by decide)) (hb hby dAT_40) ?_
  intro T118 h118 S118 K118 W118 A118 F118 sg118
  have sf122 := Safe.keep K118 (sfS (Safe.exa ST117.warm.alike F119 (by decide) (by decide)) sf0) ST117.chv sf115
  have F123 := F120.other W118 (Or.inr (slot_ne (Or.inl (w75 hw)) (Or.inl (w99 hw)) (by decide) (t := (.array .byte)) (t' := .int) (by decide) (by decide)))
  have F124 := F121.other W118 (Or.inr (slot_ne (Or.inl (w77 hw)) (Or.inl (w99 hw)) (by decide) (t := .byte) (t' := .int) (by decide) (by decide)))
  show Go p e below _ (T118.setTop (mkF m 43 #[.val (.ref x), .val (.ref a), .val (.int (Int32.ofNat cs.length))] []))
  refine s_aloadN S118 (hb hby dAT_43) rfl rfl (pc' := 44) rfl ?_
  show Go p e below _ (T118.setTop (mkF m 44 #[.val (.ref x), .val (.ref a), .val (.int (Int32.ofNat cs.length))] [(.ref x)]))
  have KA125 := (Keep.refl h111 [x, tb])
  have KA126 := (KA125.trans K1 (allS (Or.inl (by simp)) all0))
  have KA127 : Keep h111 h118 [x, tb] := (KA126.trans K118 (allS (Or.inl (by simp)) all0))
  have F128 := V1.keep K118 (ninS (Ne.symm nXB) nin0)
  exact g_aret S118 (hb hby dAT_44) hret rfl rfl rfl ⟨rfl, _, KA127, A118, F123, F124, F118, F128, pc_.2.trans hbl, pc_.1⟩
theorem dSS_0 : decode jdk_67_method_7_code 0 = .ok (.aload_n 0, 1) := by decide +kernel
theorem dSS_1 : decode jdk_67_method_7_code 1 = .ok (.aload_n 1, 1) := by decide +kernel
theorem dSS_2 : decode jdk_67_method_7_code 2 = .ok (.invokespecial 29, 3) := by decide +kernel
theorem dSS_5 : decode jdk_67_method_7_code 5 = .ok (.pop, 1) := by decide +kernel
theorem dSS_6 : decode jdk_67_method_7_code 6 = .ok (.aload_n 0, 1) := by decide +kernel
theorem dSS_7 : decode jdk_67_method_7_code 7 = .ok (.areturn, 1) := by decide +kernel
set_option maxRecDepth 65536 in
set_option maxHeartbeats 40000000 in
theorem rmSS {l : Launch} {Z : State} {a0 : Array Value} {n0 : Nat} (X : Ctx Z a0) {x tb : Addr} {kb : ClassId} {ds : List Int32} {bs : List Value} {a ta : Addr} {ka : ClassId} {cs : List Int32} (nx : n0 ≤ x) (nb : n0 ≤ tb) {h : Heap} (hO : Old Z n0 h) (Ex : Exa Z h x "java/lang/StringBuilder") (Fv : Fld Z h x "java/lang/AbstractStringBuilder" "value" "[B" (.ref tb)) (Fk : Fld Z h x "java/lang/AbstractStringBuilder" "coder" "B" (.int (0 : Int32))) (Fs : Fld Z h x "java/lang/AbstractStringBuilder" "count" "I" (.int (Int32.ofNat ds.length))) (F : LC Z h a ta ka cs) (Vb : Arv Z h tb kb .byte (16 : Int32) bs (.int (0 : Int32))) (hbl : bs.length = 16) (hpr : bz ds <+: bs) (hcp : ds.length + cs.length ≤ 16) :
    Ctr l Z EL1 n0 (⟨"java/lang/StringBuilder", "append", "(Ljava/lang/String;)Ljava/lang/StringBuilder;"⟩ : MethodName) jdk_67_method_7_code 2 (some (.object "java/lang/StringBuilder")) ({ frames := 4, cells := 0, slots := 0, locals := 61 } : Room) #[(.ref x), (.ref a)] h [tb] (fun v h' => v = some (.ref x) ∧ ∃ (bs' : List Value), Keep h h' [x, tb] ∧ Exa Z h' x "java/lang/StringBuilder" ∧ Fld Z h' x "java/lang/AbstractStringBuilder" "value" "[B" (.ref tb) ∧ Fld Z h' x "java/lang/AbstractStringBuilder" "coder" "B" (.int (0 : Int32)) ∧ Fld Z h' x "java/lang/AbstractStringBuilder" "count" "I" (.int (Int32.ofNat (ds ++ cs).length)) ∧ Arv Z h' tb kb .byte (16 : Int32) bs' (.int (0 : Int32)) ∧ bs'.length = 16 ∧ bz (ds ++ cs) <+: bs') := by
  have hw := X.hw
  obtain ⟨z1, hz1, hz2⟩ := X.2.2.1
  refine Ctr.intro (a0 := a0) (plainFor_of_name pn1) hO X.ew ?_
  intro p e s m below meth c T0 V0 S0 hby hml hret hnm hsf
  rw [ef3]
  refine s_aloadN S0 (hb hby dSS_0) rfl rfl (pc' := 1) rfl ?_
  refine s_aloadN S0 (hb hby dSS_1) rfl rfl (pc' := 2) rfl ?_
  show Go p e below _ (T0.setTop (mkF m 2 #[.val (.ref x), .val (.ref a)] [(.ref a), (.ref x)]))
  refine g_super S0 (rmAT X nx nb S0.old Ex Fv Fk Fs F Vb hbl hpr hcp) (sf1 Vb.lt (hsf tb List.mem_cons_self)) (by decide) (w83 hw) (ni_sel (w103 hw) rfl) (w84 hw) (w85 hw) (w70 hw) (w87 hw) (by decide) (hb hby dSS_2) (by rw [hml]; rfl) x Ex [(.ref a)] (lenOf pd6 rfl) rfl rfl (Nat.le_of_ble_eq_true rfl) (Nat.le_of_ble_eq_true rfl) (Nat.le_of_ble_eq_true rfl) (Nat.le_of_ble_eq_true rfl) ?_
  intro v129 T129 V129 h129 S129 C129 q129
  obtain ⟨rfl, q1⟩ := q129
  have sf130 := C129.safe Vb.lt (hsf tb List.mem_cons_self)
  show Go p e below _ (T129.setTop (mkF m 5 #[.val (.ref x), .val (.ref a)] [(.ref x)]))
  refine s_pop S129 (hb hby dSS_5) rfl (pc' := 6) rfl ?_
  refine s_aloadN S129 (hb hby dSS_6) rfl rfl (pc' := 7) rfl ?_
  exact g_aret S129 (hb hby dSS_7) hret rfl rfl rfl ⟨rfl, q1⟩
theorem dNL_0 : decode jdk_48_method_27_code 0 = .ok (.iload_n 0, 1) := by decide +kernel
theorem dNL_1 : decode jdk_48_method_27_code 1 = .ok (.iload_n 1, 1) := by decide +kernel
theorem dNL_2 : decode jdk_48_method_27_code 2 = .ok (.iload_n 2, 1) := by decide +kernel
theorem dNL_3 : decode jdk_48_method_27_code 3 = .ok (.invokestatic 194, 3) := by decide +kernel
theorem dNL_6 : decode jdk_48_method_27_code 6 = .ok (.iadd, 1) := by decide +kernel
theorem dNL_7 : decode jdk_48_method_27_code 7 = .ok (.istore_n 3, 1) := by decide +kernel
theorem dNL_8 : decode jdk_48_method_27_code 8 = .ok (.iconst 0, 1) := by decide +kernel
theorem dNL_9 : decode jdk_48_method_27_code 9 = .ok (.iload_n 3, 1) := by decide +kernel
theorem dNL_10 : decode jdk_48_method_27_code 10 = .ok (.if_icmp .ge 11, 3) := by decide +kernel
theorem dNL_13 : decode jdk_48_method_27_code 13 = .ok (.iload_n 3, 1) := by decide +kernel
theorem dNL_14 : decode jdk_48_method_27_code 14 = .ok (.ldc 200, 2) := by decide +kernel
theorem dNL_16 : decode jdk_48_method_27_code 16 = .ok (.if_icmp .gt 5, 3) := by decide +kernel
theorem dNL_19 : decode jdk_48_method_27_code 19 = .ok (.iload_n 3, 1) := by decide +kernel
theorem dNL_20 : decode jdk_48_method_27_code 20 = .ok (.ireturn, 1) := by decide +kernel
set_option maxRecDepth 65536 in
set_option maxHeartbeats 40000000 in
theorem rmNL {l : Launch} {Z : State} {a0 : Array Value} {n0 : Nat} (X : Ctx Z a0) {n : Nat} (hn1 : 16 < n) (hn2 : n ≤ 30) {h : Heap} (hO : Old Z n0 h)  :
    Ctr l Z EL1 n0 (⟨"jdk/internal/util/ArraysSupport", "newLength", "(III)I"⟩ : MethodName) jdk_48_method_27_code 4 (some .int) ({ frames := 1, cells := 0, slots := 0, locals := 14 } : Room) #[(.int (16 : Int32)), (.int (Int32.ofNat (n - 16))), (.int (18 : Int32))] h [] (fun v h' => v = some (.int (34 : Int32)) ∧ h' = h) := by
  have hw := X.hw
  obtain ⟨z1, hz1, hz2⟩ := X.2.2.1
  refine Ctr.intro (a0 := a0) (plainFor_of_name pn3) hO X.ew ?_
  intro p e s m below meth c T0 V0 S0 hby hml hret hnm hsf
  rw [ef8]
  refine s_iloadN S0 (hb hby dNL_0) rfl (pc' := 1) rfl ?_
  refine s_iloadN S0 (hb hby dNL_1) rfl (pc' := 2) rfl ?_
  refine s_iloadN S0 (hb hby dNL_2) rfl (pc' := 3) rfl ?_
  show Go p e below _ (T0.setTop (mkF m 3 #[.val (.int (16 : Int32)), .val (.int (Int32.ofNat (n - 16))), .val (.int (18 : Int32)), .unset] [(.int (18 : Int32)), (.int (Int32.ofNat (n - 16))), (.int (16 : Int32))]))
  refine g_static S0 (rmMX X (z := (18 : Int32)) (if_pos (o_lt (b := 18) (by omega) (by omega) (by omega))) S0.old) (fun _ q => nomatch q) (w239 hw) (w240 hw) (w187 hw) (w241 hw) (by decide) (hb hby dNL_3) (by rw [hml]; rfl) [(.int (Int32.ofNat (n - 16))), (.int (18 : Int32))] (lenOf pd7 rfl) rfl rfl (Nat.le_of_ble_eq_true rfl) (Nat.le_of_ble_eq_true rfl) (Nat.le_of_ble_eq_true rfl) (Nat.le_of_ble_eq_true rfl) ?_
  intro v131 T131 V131 h131 S131 C131 q131
  obtain ⟨rfl, rfl⟩ := q131
  show Go p e below _ (T131.setTop (mkF m 6 #[.val (.int (16 : Int32)), .val (.int (Int32.ofNat (n - 16))), .val (.int (18 : Int32)), .unset] [(.int (18 : Int32)), (.int (16 : Int32))]))
  refine s_iadd S131 (hb hby dNL_6) (z := (34 : Int32)) rfl (pc' := 7) rfl ?_
  refine s_istoreN S131 (hb hby dNL_7) (L' := #[.val (.int (16 : Int32)), .val (.int (Int32.ofNat (n - 16))), .val (.int (18 : Int32)), .val (.int (34 : Int32))]) rfl (pc' := 8) rfl ?_
  refine s_iconst S131 (hb hby dNL_8) (v := (0 : Int32)) rfl (pc' := 9) rfl ?_
  refine s_iloadN S131 (hb hby dNL_9) rfl (pc' := 10) rfl ?_
  refine s_icmpN S131 (hb hby dNL_10) (by decide) (pc' := 13) rfl ?_
  refine s_iloadN S131 (hb hby dNL_13) rfl (pc' := 14) rfl ?_
  refine g_ldcI S131 (w242 hw) (hb hby dNL_14) ?_
  show Go p e below _ (T131.setTop (mkF m 16 #[.val (.int (16 : Int32)), .val (.int (Int32.ofNat (n - 16))), .val (.int (18 : Int32)), .val (.int (34 : Int32))] [(.int (2147483639 : Int32)), (.int (34 : Int32))]))
  refine s_icmpN S131 (hb hby dNL_16) (by decide) (pc' := 19) rfl ?_
  refine s_iloadN S131 (hb hby dNL_19) rfl (pc' := 20) rfl ?_
  exact g_iret S131 (hb hby dNL_20) hret ⟨rfl, rfl⟩
theorem dNC_0 : decode jdk_68_method_10_code 0 = .ok (.aload_n 0, 1) := by decide +kernel
theorem dNC_1 : decode jdk_68_method_10_code 1 = .ok (.getfield 15, 3) := by decide +kernel
theorem dNC_4 : decode jdk_68_method_10_code 4 = .ok (.arraylength, 1) := by decide +kernel
theorem dNC_5 : decode jdk_68_method_10_code 5 = .ok (.istore_n 2, 1) := by decide +kernel
theorem dNC_6 : decode jdk_68_method_10_code 6 = .ok (.iload_n 1, 1) := by decide +kernel
theorem dNC_7 : decode jdk_68_method_10_code 7 = .ok (.aload_n 0, 1) := by decide +kernel
theorem dNC_8 : decode jdk_68_method_10_code 8 = .ok (.getfield 22, 3) := by decide +kernel
theorem dNC_11 : decode jdk_68_method_10_code 11 = .ok (.ishl, 1) := by decide +kernel
theorem dNC_12 : decode jdk_68_method_10_code 12 = .ok (.istore_n 3, 1) := by decide +kernel
theorem dNC_13 : decode jdk_68_method_10_code 13 = .ok (.iload_n 3, 1) := by decide +kernel
theorem dNC_14 : decode jdk_68_method_10_code 14 = .ok (.iload_n 2, 1) := by decide +kernel
theorem dNC_15 : decode jdk_68_method_10_code 15 = .ok (.isub, 1) := by decide +kernel
theorem dNC_16 : decode jdk_68_method_10_code 16 = .ok (.istore 4, 2) := by decide +kernel
theorem dNC_18 : decode jdk_68_method_10_code 18 = .ok (.iload_n 2, 1) := by decide +kernel
theorem dNC_19 : decode jdk_68_method_10_code 19 = .ok (.iload 4, 2) := by decide +kernel
theorem dNC_21 : decode jdk_68_method_10_code 21 = .ok (.iload_n 2, 1) := by decide +kernel
theorem dNC_22 : decode jdk_68_method_10_code 22 = .ok (.iconst 2, 1) := by decide +kernel
theorem dNC_23 : decode jdk_68_method_10_code 23 = .ok (.aload_n 0, 1) := by decide +kernel
theorem dNC_24 : decode jdk_68_method_10_code 24 = .ok (.getfield 22, 3) := by decide +kernel
theorem dNC_27 : decode jdk_68_method_10_code 27 = .ok (.ishl, 1) := by decide +kernel
theorem dNC_28 : decode jdk_68_method_10_code 28 = .ok (.iadd, 1) := by decide +kernel
theorem dNC_29 : decode jdk_68_method_10_code 29 = .ok (.invokestatic 114, 3) := by decide +kernel
theorem dNC_32 : decode jdk_68_method_10_code 32 = .ok (.istore 5, 2) := by decide +kernel
theorem dNC_34 : decode jdk_68_method_10_code 34 = .ok (.iload 5, 2) := by decide +kernel
theorem dNC_36 : decode jdk_68_method_10_code 36 = .ok (.ldc 39, 2) := by decide +kernel
theorem dNC_38 : decode jdk_68_method_10_code 38 = .ok (.if_icmp .ne 13, 3) := by decide +kernel
theorem dNC_51 : decode jdk_68_method_10_code 51 = .ok (.iload 5, 2) := by decide +kernel
theorem dNC_53 : decode jdk_68_method_10_code 53 = .ok (.aload_n 0, 1) := by decide +kernel
theorem dNC_54 : decode jdk_68_method_10_code 54 = .ok (.getfield 22, 3) := by decide +kernel
theorem dNC_57 : decode jdk_68_method_10_code 57 = .ok (.ishr, 1) := by decide +kernel
theorem dNC_58 : decode jdk_68_method_10_code 58 = .ok (.ireturn, 1) := by decide +kernel
set_option maxRecDepth 65536 in
set_option maxHeartbeats 40000000 in
theorem rmNC {l : Launch} {Z : State} {a0 : Array Value} {n0 : Nat} (X : Ctx Z a0) {x tb : Addr} {kb : ClassId} {sc : Int32} {bs : List Value} {n : Nat} (hn1 : 16 < n) (hn2 : n ≤ 30) {h : Heap} (hO : Old Z n0 h) (Ex : Exa Z h x "java/lang/StringBuilder") (Fv : Fld Z h x "java/lang/AbstractStringBuilder" "value" "[B" (.ref tb)) (Fk : Fld Z h x "java/lang/AbstractStringBuilder" "coder" "B" (.int (0 : Int32))) (Fs : Fld Z h x "java/lang/AbstractStringBuilder" "count" "I" (.int sc)) (Vb : Arv Z h tb kb .byte (16 : Int32) bs (.int (0 : Int32))) :
    Ctr l Z EL1 n0 (⟨"java/lang/AbstractStringBuilder", "newCapacity", "(I)I"⟩ : MethodName) jdk_68_method_10_code 6 (some .int) ({ frames := 2, cells := 0, slots := 0, locals := 35 } : Room) #[(.ref x), (.int (Int32.ofNat n))] h [] (fun v h' => v = some (.int (34 : Int32)) ∧ h' = h) := by
  have hw := X.hw
  obtain ⟨z1, hz1, hz2⟩ := X.2.2.1
  refine Ctr.intro (a0 := a0) (plainFor_of_name pn0) hO X.ew ?_
  intro p e s m below meth c T0 V0 S0 hby hml hret hnm hsf
  rw [ef9]
  refine s_aloadN S0 (hb hby dNC_0) rfl rfl (pc' := 1) rfl ?_
  refine g_getF S0 (w74 hw) Via.refl Fv (hb hby dNC_1) ?_
  intro T132 ST132
  show Go p e below _ (T132.setTop (mkF m 4 #[.val (.ref x), .val (.int (Int32.ofNat n)), .unset, .unset, .unset, .unset] [(.ref tb)]))
  refine g_len ST132 Vb (hb hby dNC_4) ?_
  show Go p e below _ (T132.setTop (mkF m 5 #[.val (.ref x), .val (.int (Int32.ofNat n)), .unset, .unset, .unset, .unset] [(.int (16 : Int32))]))
  refine s_istoreN ST132 (hb hby dNC_5) (L' := #[.val (.ref x), .val (.int (Int32.ofNat n)), .val (.int (16 : Int32)), .unset, .unset, .unset]) rfl (pc' := 6) rfl ?_
  refine s_iloadN ST132 (hb hby dNC_6) rfl (pc' := 7) rfl ?_
  refine s_aloadN ST132 (hb hby dNC_7) rfl rfl (pc' := 8) rfl ?_
  refine g_getF ST132 (w76 hw) Via.refl Fk (hb hby dNC_8) ?_
  intro T133 ST133
  show Go p e below _ (T133.setTop (mkF m 11 #[.val (.ref x), .val (.int (Int32.ofNat n)), .val (.int (16 : Int32)), .unset, .unset, .unset] [(.int (0 : Int32)), (.int (Int32.ofNat n))]))
  refine s_ishl ST133 (hb hby dNC_11) (z := (Int32.ofNat n)) (own_shl0 _) (pc' := 12) rfl ?_
  refine s_istoreN ST133 (hb hby dNC_12) (L' := #[.val (.ref x), .val (.int (Int32.ofNat n)), .val (.int (16 : Int32)), .val (.int (Int32.ofNat n)), .unset, .unset]) rfl (pc' := 13) rfl ?_
  refine s_iloadN ST133 (hb hby dNC_13) rfl (pc' := 14) rfl ?_
  refine s_iloadN ST133 (hb hby dNC_14) rfl (pc' := 15) rfl ?_
  refine s_isub ST133 (hb hby dNC_15) (z := (Int32.ofNat (n - 16))) (o_sub (b := 16) (by omega) (by omega)) (pc' := 16) rfl ?_
  refine s_istore ST133 (hb hby dNC_16) (L' := #[.val (.ref x), .val (.int (Int32.ofNat n)), .val (.int (16 : Int32)), .val (.int (Int32.ofNat n)), .val (.int (Int32.ofNat (n - 16))), .unset]) rfl (pc' := 18) rfl ?_
  refine s_iloadN ST133 (hb hby dNC_18) rfl (pc' := 19) rfl ?_
  refine s_iload ST133 (hb hby dNC_19) rfl (pc' := 21) rfl ?_
  refine s_iloadN ST133 (hb hby dNC_21) rfl (pc' := 22) rfl ?_
  refine s_iconst ST133 (hb hby dNC_22) (v := (2 : Int32)) rfl (pc' := 23) rfl ?_
  refine s_aloadN ST133 (hb hby dNC_23) rfl rfl (pc' := 24) rfl ?_
  refine g_getF ST133 (w76 hw) Via.refl Fk (hb hby dNC_24) ?_
  intro T134 ST134
  show Go p e below _ (T134.setTop (mkF m 27 #[.val (.ref x), .val (.int (Int32.ofNat n)), .val (.int (16 : Int32)), .val (.int (Int32.ofNat n)), .val (.int (Int32.ofNat (n - 16))), .unset] [(.int (0 : Int32)), (.int (2 : Int32)), (.int (16 : Int32)), (.int (Int32.ofNat (n - 16))), (.int (16 : Int32))]))
  refine s_ishl ST134 (hb hby dNC_27) (z := (2 : Int32)) (by decide) (pc' := 28) rfl ?_
  refine s_iadd ST134 (hb hby dNC_28) (z := (18 : Int32)) rfl (pc' := 29) rfl ?_
  show Go p e below _ (T134.setTop (mkF m 29 #[.val (.ref x), .val (.int (Int32.ofNat n)), .val (.int (16 : Int32)), .val (.int (Int32.ofNat n)), .val (.int (Int32.ofNat (n - 16))), .unset] [(.int (18 : Int32)), (.int (Int32.ofNat (n - 16))), (.int (16 : Int32))]))
  refine g_static ST134 (rmNL X hn1 hn2 ST134.old) (fun _ q => nomatch q) (w235 hw) (w236 hw) (w237 hw) (w238 hw) (by decide) (hb hby dNC_29) (by rw [hml]; rfl) [(.int (16 : Int32)), (.int (Int32.ofNat (n - 16))), (.int (18 : Int32))] (lenOf pd8 rfl) rfl rfl (Nat.le_of_ble_eq_true rfl) (Nat.le_of_ble_eq_true rfl) (Nat.le_of_ble_eq_true rfl) (Nat.le_of_ble_eq_true rfl) ?_
  intro v135 T135 V135 h135 S135 C135 q135
  obtain ⟨rfl, rfl⟩ := q135
  show Go p e below _ (T135.setTop (mkF m 32 #[.val (.ref x), .val (.int (Int32.ofNat n)), .val (.int (16 : Int32)), .val (.int (Int32.ofNat n)), .val (.int (Int32.ofNat (n - 16))), .unset] [(.int (34 : Int32))]))
  refine s_istore S135 (hb hby dNC_32) (L' := #[.val (.ref x), .val (.int (Int32.ofNat n)), .val (.int (16 : Int32)), .val (.int (Int32.ofNat n)), .val (.int (Int32.ofNat (n - 16))), .val (.int (34 : Int32))]) rfl (pc' := 34) rfl ?_
  refine s_iload S135 (hb hby dNC_34) rfl (pc' := 36) rfl ?_
  refine g_ldcI S135 (w243 hw) (hb hby dNC_36) ?_
  show Go p e below _ (T135.setTop (mkF m 38 #[.val (.ref x), .val (.int (Int32.ofNat n)), .val (.int (16 : Int32)), .val (.int (Int32.ofNat n)), .val (.int (Int32.ofNat (n - 16))), .val (.int (34 : Int32))] [(.int (2147483647 : Int32)), (.int (34 : Int32))]))
  refine s_icmpY S135 (hb hby dNC_38) (by decide) (by decide) (pcT := 51) (by decide) ?_
  refine s_iload S135 (hb hby dNC_51) rfl (pc' := 53) rfl ?_
  refine s_aloadN S135 (hb hby dNC_53) rfl rfl (pc' := 54) rfl ?_
  refine g_getF S135 (w76 hw) Via.refl Fk (hb hby dNC_54) ?_
  intro T136 ST136
  show Go p e below _ (T136.setTop (mkF m 57 #[.val (.ref x), .val (.int (Int32.ofNat n)), .val (.int (16 : Int32)), .val (.int (Int32.ofNat n)), .val (.int (Int32.ofNat (n - 16))), .val (.int (34 : Int32))] [(.int (0 : Int32)), (.int (34 : Int32))]))
  refine s_ishr ST136 (hb hby dNC_57) (z := (34 : Int32)) (by decide) (pc' := 58) rfl ?_
  exact g_iret ST136 (hb hby dNC_58) hret ⟨rfl, rfl⟩
theorem dCW_0 : decode jdk_65_method_121_code 0 = .ok (.iload_n 1, 1) := by decide +kernel
theorem dCW_1 : decode jdk_65_method_121_code 1 = .ok (.aload_n 0, 1) := by decide +kernel
theorem dCW_2 : decode jdk_65_method_121_code 2 = .ok (.arraylength, 1) := by decide +kernel
theorem dCW_3 : decode jdk_65_method_121_code 3 = .ok (.if_icmp .ne 11, 3) := by decide +kernel
theorem dCW_14 : decode jdk_65_method_121_code 14 = .ok (.iload_n 1, 1) := by decide +kernel
theorem dCW_15 : decode jdk_65_method_121_code 15 = .ok (.newarray .byte, 2) := by decide +kernel
theorem dCW_17 : decode jdk_65_method_121_code 17 = .ok (.astore_n 2, 1) := by decide +kernel
theorem dCW_18 : decode jdk_65_method_121_code 18 = .ok (.aload_n 0, 1) := by decide +kernel
theorem dCW_19 : decode jdk_65_method_121_code 19 = .ok (.iconst 0, 1) := by decide +kernel
theorem dCW_20 : decode jdk_65_method_121_code 20 = .ok (.aload_n 2, 1) := by decide +kernel
theorem dCW_21 : decode jdk_65_method_121_code 21 = .ok (.iconst 0, 1) := by decide +kernel
theorem dCW_22 : decode jdk_65_method_121_code 22 = .ok (.aload_n 0, 1) := by decide +kernel
theorem dCW_23 : decode jdk_65_method_121_code 23 = .ok (.arraylength, 1) := by decide +kernel
theorem dCW_24 : decode jdk_65_method_121_code 24 = .ok (.iload_n 1, 1) := by decide +kernel
theorem dCW_25 : decode jdk_65_method_121_code 25 = .ok (.invokestatic 304, 3) := by decide +kernel
theorem dCW_28 : decode jdk_65_method_121_code 28 = .ok (.invokestatic 150, 3) := by decide +kernel
theorem dCW_31 : decode jdk_65_method_121_code 31 = .ok (.aload_n 2, 1) := by decide +kernel
theorem dCW_32 : decode jdk_65_method_121_code 32 = .ok (.areturn, 1) := by decide +kernel
set_option maxRecDepth 65536 in
set_option maxHeartbeats 40000000 in
theorem rmCW {l : Launch} {Z : State} {a0 : Array Value} {n0 : Nat} (X : Ctx Z a0) {tb : Addr} {kb : ClassId} {bs : List Value} {h : Heap} (hO : Old Z n0 h)  (Vb : Arv Z h tb kb .byte (16 : Int32) bs (.int (0 : Int32))) (hbl : bs.length = 16) :
    CtrV l Z EL1 n0 (⟨"java/util/Arrays", "copyOf", "([BI)[B"⟩ : MethodName) jdk_65_method_121_code 3 (some (.array .byte)) ({ frames := 1, cells := 1, slots := 34, locals := 18 } : Room) #[(.ref tb), (.int (34 : Int32))] h [] (fun v h' vm => ∃ u ku, v = some (.ref u) ∧ Ext h h' ∧ h.size ≤ u ∧ n0 ≤ u ∧ Safe Z EL1 vm h' u ∧ Arv Z h' u ku .byte (34 : Int32) (bs ++ List.replicate 18 (.int (0 : Int32))) (.int (0 : Int32)) ∧ Exa Z h' u "[B") := by
  have hw := X.hw
  obtain ⟨z1, hz1, hz2⟩ := X.2.2.1
  refine CtrV.intro (a0 := a0) (plainFor_of_name pn4) hO X.ew ?_
  intro p e s m below meth c T0 V0 S0 hby hml hret hnm hsf
  rw [ef7]
  refine s_iloadN S0 (hb hby dCW_0) rfl (pc' := 1) rfl ?_
  refine s_aloadN S0 (hb hby dCW_1) rfl rfl (pc' := 2) rfl ?_
  refine g_len S0 Vb (hb hby dCW_2) ?_
  show Go p e below _ (T0.setTop (mkF m 3 #[.val (.ref tb), .val (.int (34 : Int32)), .unset] [(.int (16 : Int32)), (.int (34 : Int32))]))
  refine s_icmpY S0 (hb hby dCW_3) (by decide) (by decide) (pcT := 14) (by decide) ?_
  refine s_iloadN S0 (hb hby dCW_14) rfl (pc' := 15) rfl ?_
  refine g_newarrE (aty := .byte) S0 (w20 hw) (hb hby dCW_15) (by decide) (cap := 34) (by decide) (by decide) (Nat.le_of_ble_eq_true rfl) (Nat.le_of_ble_eq_true rfl) rfl ?_
  intro T137 h137 b137 kc137 S137 E137 fr137 lt137 na137 sf137 A137 EA137
  have V137 : Arv Z h137 b137 kc137 .byte (34 : Int32) (List.replicate 34 (.int (0 : Int32))) (.int (0 : Int32)) := A137 34
  show Go p e below _ (T137.setTop (mkF m 17 #[.val (.ref tb), .val (.int (34 : Int32)), .unset] [(.ref b137)]))
  refine s_astoreN S137 (hb hby dCW_17) rfl (L' := #[.val (.ref tb), .val (.int (34 : Int32)), .val (.ref b137)]) rfl (pc' := 18) rfl ?_
  refine s_aloadN S137 (hb hby dCW_18) rfl rfl (pc' := 19) rfl ?_
  refine s_iconst S137 (hb hby dCW_19) (v := (0 : Int32)) rfl (pc' := 20) rfl ?_
  refine s_aloadN S137 (hb hby dCW_20) rfl rfl (pc' := 21) rfl ?_
  refine s_iconst S137 (hb hby dCW_21) (v := (0 : Int32)) rfl (pc' := 22) rfl ?_
  refine s_aloadN S137 (hb hby dCW_22) rfl rfl (pc' := 23) rfl ?_
  have Vb138 := Vb.ext E137
  refine g_len S137 Vb138 (hb hby dCW_23) ?_
  show Go p e below _ (T137.setTop (mkF m 24 #[.val (.ref tb), .val (.int (34 : Int32)), .val (.ref b137)] [(.int (16 : Int32)), (.int (0 : Int32)), (.ref b137), (.int (0 : Int32)), (.ref tb)]))
  refine s_iloadN S137 (hb hby dCW_24) rfl (pc' := 25) rfl ?_
  show Go p e below _ (T137.setTop (mkF m 25 #[.val (.ref tb), .val (.int (34 : Int32)), .val (.ref b137)] [(.int (34 : Int32)), (.int (16 : Int32)), (.int (0 : Int32)), (.ref b137), (.int (0 : Int32)), (.ref tb)]))
  refine g_static S137 (rmMN X (z := (16 : Int32)) (by decide) S137.old) (fun _ q => nomatch q) (w185 hw) (w186 hw) (w187 hw) (w188 hw) (by decide) (hb hby dCW_25) (by rw [hml]; rfl) [(.int (16 : Int32)), (.int (34 : Int32))] (lenOf pd7 rfl) rfl rfl (Nat.le_of_ble_eq_true rfl) (Nat.le_of_ble_eq_true rfl) (Nat.le_of_ble_eq_true rfl) (Nat.le_of_ble_eq_true rfl) ?_
  intro v139 T139 V139 h139 S139 C139 q139
  obtain ⟨rfl, rfl⟩ := q139
  have sf140 := C139.safe lt137 sf137
  show Go p e below _ (T139.setTop (mkF m 28 #[.val (.ref tb), .val (.int (34 : Int32)), .val (.ref b137)] [(.int (16 : Int32)), (.int (0 : Int32)), (.ref b137), (.int (0 : Int32)), (.ref tb)]))
  show Go p e below _ (T139.setTop (mkF m 28 #[.val (.ref tb), .val (.int (34 : Int32)), .val (.ref b137)] [(.int (16 : Int32)), (.int (0 : Int32)), (.ref b137), (.int (0 : Int32)), (.ref tb)]))
  refine g_copy S139 (w189 hw) (w124 hw) (w122 hw) (w123 hw) Vb138 V137 rfl (by decide) (by decide) (by decide) (by decide) (by decide) (us := bs) (cp_us (n := 16) hbl (by decide)) (by decide) na137 sf140 (hb hby dCW_28) (by rw [hml]; rfl) (Nat.le_of_ble_eq_true rfl) (by decide) ?_
  intro T9 h9 S9 K9 V9 sg9
  have V9 : Arv Z h9 b137 kc137 .byte (34 : Int32) (bs ++ List.replicate 18 (.int (0 : Int32))) (.int (0 : Int32)) := V9
  show Go p e below _ (T9.setTop (mkF m 31 #[.val (.ref tb), .val (.int (34 : Int32)), .val (.ref b137)] []))
  refine s_aloadN S9 (hb hby dCW_31) rfl rfl (pc' := 32) rfl ?_
  show Go p e below _ (T9.setTop (mkF m 32 #[.val (.ref tb), .val (.int (34 : Int32)), .val (.ref b137)] [(.ref b137)]))
  have X141 : Ext h h9 := ext_keep1 E137 K9 fr137
  have F142 := EA137.keep K9
  exact g_aretV S9 (hb hby dCW_32) hret rfl rfl rfl (fun sfx => ⟨b137, _, rfl, X141, fr137, na137, sfx _ V9.lt sg9, V9, F142⟩)
theorem dEW_0 : decode jdk_68_method_9_code 0 = .ok (.aload_n 0, 1) := by decide +kernel
theorem dEW_1 : decode jdk_68_method_9_code 1 = .ok (.getfield 15, 3) := by decide +kernel
theorem dEW_4 : decode jdk_68_method_9_code 4 = .ok (.arraylength, 1) := by decide +kernel
theorem dEW_5 : decode jdk_68_method_9_code 5 = .ok (.aload_n 0, 1) := by decide +kernel
theorem dEW_6 : decode jdk_68_method_9_code 6 = .ok (.getfield 22, 3) := by decide +kernel
theorem dEW_9 : decode jdk_68_method_9_code 9 = .ok (.ishr, 1) := by decide +kernel
theorem dEW_10 : decode jdk_68_method_9_code 10 = .ok (.istore_n 2, 1) := by decide +kernel
theorem dEW_11 : decode jdk_68_method_9_code 11 = .ok (.iload_n 1, 1) := by decide +kernel
theorem dEW_12 : decode jdk_68_method_9_code 12 = .ok (.iload_n 2, 1) := by decide +kernel
theorem dEW_13 : decode jdk_68_method_9_code 13 = .ok (.isub, 1) := by decide +kernel
theorem dEW_14 : decode jdk_68_method_9_code 14 = .ok (.ifCond .le 24, 3) := by decide +kernel
theorem dEW_17 : decode jdk_68_method_9_code 17 = .ok (.aload_n 0, 1) := by decide +kernel
theorem dEW_18 : decode jdk_68_method_9_code 18 = .ok (.aload_n 0, 1) := by decide +kernel
theorem dEW_19 : decode jdk_68_method_9_code 19 = .ok (.getfield 15, 3) := by decide +kernel
theorem dEW_22 : decode jdk_68_method_9_code 22 = .ok (.aload_n 0, 1) := by decide +kernel
theorem dEW_23 : decode jdk_68_method_9_code 23 = .ok (.iload_n 1, 1) := by decide +kernel
theorem dEW_24 : decode jdk_68_method_9_code 24 = .ok (.invokevirtual 104, 3) := by decide +kernel
theorem dEW_27 : decode jdk_68_method_9_code 27 = .ok (.aload_n 0, 1) := by decide +kernel
theorem dEW_28 : decode jdk_68_method_9_code 28 = .ok (.getfield 22, 3) := by decide +kernel
theorem dEW_31 : decode jdk_68_method_9_code 31 = .ok (.ishl, 1) := by decide +kernel
theorem dEW_32 : decode jdk_68_method_9_code 32 = .ok (.invokestatic 108, 3) := by decide +kernel
theorem dEW_35 : decode jdk_68_method_9_code 35 = .ok (.putfield 15, 3) := by decide +kernel
theorem dEW_38 : decode jdk_68_method_9_code 38 = .ok (.return_, 1) := by decide +kernel
set_option maxRecDepth 65536 in
set_option maxHeartbeats 40000000 in
theorem rmEW {l : Launch} {Z : State} {a0 : Array Value} {n0 : Nat} (X : Ctx Z a0) {x tb : Addr} {kb : ClassId} {sc : Int32} {bs : List Value} {n : Nat} (na : n0 ≤ x) (hn1 : 16 < n) (hn2 : n ≤ 30) {h : Heap} (hO : Old Z n0 h) (Ex : Exa Z h x "java/lang/StringBuilder") (Fv : Fld Z h x "java/lang/AbstractStringBuilder" "value" "[B" (.ref tb)) (Fk : Fld Z h x "java/lang/AbstractStringBuilder" "coder" "B" (.int (0 : Int32))) (Fs : Fld Z h x "java/lang/AbstractStringBuilder" "count" "I" (.int sc)) (Vb : Arv Z h tb kb .byte (16 : Int32) bs (.int (0 : Int32))) (hbl : bs.length = 16) :
    CtrV l Z EL1 n0 (⟨"java/lang/AbstractStringBuilder", "ensureCapacityInternal", "(I)V"⟩ : MethodName) jdk_68_method_9_code 3 none ({ frames := 3, cells := 1, slots := 34, locals := 54 } : Room) #[(.ref x), (.int (Int32.ofNat n))] h [] (fun v h' vm => v = none ∧ ∃ (u : Addr) (ku : ClassId), Keep h h' [x] ∧ h.size ≤ u ∧ n0 ≤ u ∧ Exa Z h' x "java/lang/StringBuilder" ∧ Fld Z h' x "java/lang/AbstractStringBuilder" "value" "[B" (.ref u) ∧ Fld Z h' x "java/lang/AbstractStringBuilder" "coder" "B" (.int (0 : Int32)) ∧ Fld Z h' x "java/lang/AbstractStringBuilder" "count" "I" (.int sc) ∧ Arv Z h' u ku .byte (34 : Int32) (bs ++ List.replicate 18 (.int (0 : Int32))) (.int (0 : Int32)) ∧ Exa Z h' u "[B" ∧ Safe Z EL1 vm h' u) := by
  have hw := X.hw
  obtain ⟨z1, hz1, hz2⟩ := X.2.2.1
  refine CtrV.intro (a0 := a0) (plainFor_of_name pn0) hO X.ew ?_
  intro p e s m below meth c T0 V0 S0 hby hml hret hnm hsf
  rw [ef7]
  refine s_aloadN S0 (hb hby dEW_0) rfl rfl (pc' := 1) rfl ?_
  refine g_getF S0 (w74 hw) Via.refl Fv (hb hby dEW_1) ?_
  intro T143 ST143
  show Go p e below _ (T143.setTop (mkF m 4 #[.val (.ref x), .val (.int (Int32.ofNat n)), .unset] [(.ref tb)]))
  refine g_len ST143 Vb (hb hby dEW_4) ?_
  show Go p e below _ (T143.setTop (mkF m 5 #[.val (.ref x), .val (.int (Int32.ofNat n)), .unset] [(.int (16 : Int32))]))
  refine s_aloadN ST143 (hb hby dEW_5) rfl rfl (pc' := 6) rfl ?_
  refine g_getF ST143 (w76 hw) Via.refl Fk (hb hby dEW_6) ?_
  intro T144 ST144
  show Go p e below _ (T144.setTop (mkF m 9 #[.val (.ref x), .val (.int (Int32.ofNat n)), .unset] [(.int (0 : Int32)), (.int (16 : Int32))]))
  refine s_ishr ST144 (hb hby dEW_9) (z := (16 : Int32)) (by decide) (pc' := 10) rfl ?_
  refine s_istoreN ST144 (hb hby dEW_10) (L' := #[.val (.ref x), .val (.int (Int32.ofNat n)), .val (.int (16 : Int32))]) rfl (pc' := 11) rfl ?_
  refine s_iloadN ST144 (hb hby dEW_11) rfl (pc' := 12) rfl ?_
  refine s_iloadN ST144 (hb hby dEW_12) rfl (pc' := 13) rfl ?_
  refine s_isub ST144 (hb hby dEW_13) (z := (Int32.ofNat (n - 16))) (o_sub (b := 16) (by omega) (by omega)) (pc' := 14) rfl ?_
  refine s_ifN ST144 (hb hby dEW_14) ((if0 _ _).trans (tlt (o_lt (a := 0) (by omega) (by omega) (by omega))).2.2.2) (pc' := 17) rfl ?_
  refine s_aloadN ST144 (hb hby dEW_17) rfl rfl (pc' := 18) rfl ?_
  refine s_aloadN ST144 (hb hby dEW_18) rfl rfl (pc' := 19) rfl ?_
  refine g_getF ST144 (w74 hw) Via.refl Fv (hb hby dEW_19) ?_
  intro T145 ST145
  show Go p e below _ (T145.setTop (mkF m 22 #[.val (.ref x), .val (.int (Int32.ofNat n)), .val (.int (16 : Int32))] [(.ref tb), (.ref x)]))
  refine s_aloadN ST145 (hb hby dEW_22) rfl rfl (pc' := 23) rfl ?_
  refine s_iloadN ST145 (hb hby dEW_23) rfl (pc' := 24) rfl ?_
  show Go p e below _ (T145.setTop (mkF m 24 #[.val (.ref x), .val (.int (Int32.ofNat n)), .val (.int (16 : Int32))] [(.int (Int32.ofNat n)), (.ref x), (.ref tb), (.ref x)]))
  refine g_private ST145 (rmNC X hn1 hn2 ST145.old Ex Fv Fk Fs Vb) (fun _ q => nomatch q) (w230 hw) (ni_sel (w103 hw) rfl) (w232 hw) (w231 hw) (w70 hw) (w234 hw) (by decide) (hb hby dEW_24) (by rw [hml]; rfl) x Ex [(.int (Int32.ofNat n))] (lenOf pd9 rfl) rfl rfl (Nat.le_of_ble_eq_true rfl) (Nat.le_of_ble_eq_true rfl) (Nat.le_of_ble_eq_true rfl) (Nat.le_of_ble_eq_true rfl) ?_
  intro v146 T146 V146 h146 S146 C146 q146
  obtain ⟨rfl, rfl⟩ := q146
  show Go p e below _ (T146.setTop (mkF m 27 #[.val (.ref x), .val (.int (Int32.ofNat n)), .val (.int (16 : Int32))] [(.int (34 : Int32)), (.ref tb), (.ref x)]))
  refine s_aloadN S146 (hb hby dEW_27) rfl rfl (pc' := 28) rfl ?_
  refine g_getF S146 (w76 hw) Via.refl Fk (hb hby dEW_28) ?_
  intro T147 ST147
  show Go p e below _ (T147.setTop (mkF m 31 #[.val (.ref x), .val (.int (Int32.ofNat n)), .val (.int (16 : Int32))] [(.int (0 : Int32)), (.int (34 : Int32)), (.ref tb), (.ref x)]))
  refine s_ishl ST147 (hb hby dEW_31) (z := (34 : Int32)) (by decide) (pc' := 32) rfl ?_
  show Go p e below _ (T147.setTop (mkF m 32 #[.val (.ref x), .val (.int (Int32.ofNat n)), .val (.int (16 : Int32))] [(.int (34 : Int32)), (.ref tb), (.ref x)]))
  refine g_static ST147 (rmCW X ST147.old Vb hbl) (fun _ q => nomatch q) (w244 hw) (w245 hw) (w177 hw) (w246 hw) (by decide) (hb hby dEW_32) (by rw [hml]; rfl) [(.ref tb), (.int (34 : Int32))] (lenOf pd10 rfl) rfl rfl (Nat.le_of_ble_eq_true rfl) (Nat.le_of_ble_eq_true rfl) (Nat.le_of_ble_eq_true rfl) (Nat.le_of_ble_eq_true rfl) ?_
  intro v148 T148 V148 h148 S148 C148 q148
  obtain ⟨u, ku, rfl, Eu, fru, nu, sfu, Vu, EBu⟩ := q148
  have Ex149 := Ex.ext Eu
  have nXU : x ≠ u := Exa.neArv Ex149 Vu (w61 hw)
  show Go p e below _ (T148.setTop (mkF m 35 #[.val (.ref x), .val (.int (Int32.ofNat n)), .val (.int (16 : Int32))] [(.ref u), (.ref x)]))
  show Go p e below _ (T148.setTop (mkF m 35 #[.val (.ref x), .val (.int (Int32.ofNat n)), .val (.int (16 : Int32))] [(.ref u), (.ref x)]))
  have Fv151 := Fv.ext Eu
  have Fk152 := Fk.ext Eu
  have Fs153 := Fs.ext Eu
  refine g_putF S148 (w74 hw) Via.refl Fv151 Ex149 (Or.inl (w75 hw)) (w61 hw) (ty := (.array .byte)) (v' := (.ref u)) (by decide) rfl rfl na (Safe.exa S148.warm.alike Ex149 (by decide) (by decide)) (hb hby dEW_35) ?_
  intro T150 h150 S150 K150 W150 A150 F150 sg150
  have sf154 := Safe.keep K150 (sfS (Safe.exa S148.warm.alike Ex149 (by decide) (by decide)) sf0) S148.chv sfu
  have F155 := Fk152.other W150 (Or.inr (slot_ne (Or.inl (w77 hw)) (Or.inl (w75 hw)) (by decide) (t := .byte) (t' := (.array .byte)) (by decide) (by decide)))
  have F156 := Fs153.other W150 (Or.inr (slot_ne (Or.inl (w99 hw)) (Or.inl (w75 hw)) (by decide) (t := .int) (t' := (.array .byte)) (by decide) (by decide)))
  show Go p e below _ (T150.setTop (mkF m 38 #[.val (.ref x), .val (.int (Int32.ofNat n)), .val (.int (16 : Int32))] []))
  show Go p e below _ (T150.setTop (mkF m 38 #[.val (.ref x), .val (.int (Int32.ofNat n)), .val (.int (16 : Int32))] []))
  have KA157 : Keep h146 h150 [x] := (((Keep.refl h146 [x]).ext Eu).trans K150 (fun y hy => Or.inl hy))
  have F158 := Vu.keep K150 (ninS (Ne.symm nXU) nin0)
  have F159 := EBu.keep K150
  exact g_retV S150 (hb hby dEW_38) hret (fun sfx => ⟨rfl, u, ku, KA157, fru, nu, A150, F150, F155, F156, F158, F159, sfx _ F158.lt sf154⟩)
theorem dZS_0 : decode jdk_33_method_13_code 0 = .ok (.iconst 1, 1) := by decide +kernel
theorem dZS_1 : decode jdk_33_method_13_code 1 = .ok (.istore_n 1, 1) := by decide +kernel
theorem dZS_2 : decode jdk_33_method_13_code 2 = .ok (.iload_n 0, 1) := by decide +kernel
theorem dZS_3 : decode jdk_33_method_13_code 3 = .ok (.ifCond .lt 8, 3) := by decide +kernel
theorem dZS_6 : decode jdk_33_method_13_code 6 = .ok (.iconst 0, 1) := by decide +kernel
theorem dZS_7 : decode jdk_33_method_13_code 7 = .ok (.istore_n 1, 1) := by decide +kernel
theorem dZS_8 : decode jdk_33_method_13_code 8 = .ok (.iload_n 0, 1) := by decide +kernel
theorem dZS_9 : decode jdk_33_method_13_code 9 = .ok (.ineg, 1) := by decide +kernel
theorem dZS_10 : decode jdk_33_method_13_code 10 = .ok (.istore_n 0, 1) := by decide +kernel
theorem dZS_11 : decode jdk_33_method_13_code 11 = .ok (.bipush (-10), 2) := by decide +kernel
theorem dZS_13 : decode jdk_33_method_13_code 13 = .ok (.istore_n 2, 1) := by decide +kernel
theorem dZS_14 : decode jdk_33_method_13_code 14 = .ok (.iconst 1, 1) := by decide +kernel
theorem dZS_15 : decode jdk_33_method_13_code 15 = .ok (.istore_n 3, 1) := by decide +kernel
theorem dZS_16 : decode jdk_33_method_13_code 16 = .ok (.iload_n 3, 1) := by decide +kernel
theorem dZS_17 : decode jdk_33_method_13_code 17 = .ok (.bipush 10, 2) := by decide +kernel
theorem dZS_19 : decode jdk_33_method_13_code 19 = .ok (.if_icmp .ge 23, 3) := by decide +kernel
theorem dZS_22 : decode jdk_33_method_13_code 22 = .ok (.iload_n 0, 1) := by decide +kernel
theorem dZS_23 : decode jdk_33_method_13_code 23 = .ok (.iload_n 2, 1) := by decide +kernel
theorem dZS_24 : decode jdk_33_method_13_code 24 = .ok (.if_icmp .le 7, 3) := by decide +kernel
theorem dZS_27 : decode jdk_33_method_13_code 27 = .ok (.iload_n 3, 1) := by decide +kernel
theorem dZS_28 : decode jdk_33_method_13_code 28 = .ok (.iload_n 1, 1) := by decide +kernel
theorem dZS_29 : decode jdk_33_method_13_code 29 = .ok (.iadd, 1) := by decide +kernel
theorem dZS_30 : decode jdk_33_method_13_code 30 = .ok (.ireturn, 1) := by decide +kernel
theorem dZS_31 : decode jdk_33_method_13_code 31 = .ok (.bipush 10, 2) := by decide +kernel
theorem dZS_33 : decode jdk_33_method_13_code 33 = .ok (.iload_n 2, 1) := by decide +kernel
theorem dZS_34 : decode jdk_33_method_13_code 34 = .ok (.imul, 1) := by decide +kernel
theorem dZS_35 : decode jdk_33_method_13_code 35 = .ok (.istore_n 2, 1) := by decide +kernel
theorem dZS_36 : decode jdk_33_method_13_code 36 = .ok (.iinc 3 1, 3) := by decide +kernel
theorem dZS_39 : decode jdk_33_method_13_code 39 = .ok (.goto (-23), 3) := by decide +kernel
theorem dZS_42 : decode jdk_33_method_13_code 42 = .ok (.bipush 10, 2) := by decide +kernel
theorem dZS_44 : decode jdk_33_method_13_code 44 = .ok (.iload_n 1, 1) := by decide +kernel
theorem dZS_45 : decode jdk_33_method_13_code 45 = .ok (.iadd, 1) := by decide +kernel
theorem dZS_46 : decode jdk_33_method_13_code 46 = .ok (.ireturn, 1) := by decide +kernel
set_option maxRecDepth 65536 in
set_option maxHeartbeats 40000000 in
theorem rmZS {l : Launch} {Z : State} {a0 : Array Value} {n0 : Nat} (X : Ctx Z a0) (x : Int32) {h : Heap} (hO : Old Z n0 h)  :
    Ctr l Z EL1 n0 (⟨"java/lang/Integer", "stringSize", "(I)I"⟩ : MethodName) jdk_33_method_13_code 4 (some .int) ({ frames := 0, cells := 0, slots := 0, locals := 0 } : Room) #[(.int x)] h [] (fun v h' => ∃ nd : Nat, Nd x.toInt.natAbs nd ∧ v = some (.int (Int32.ofNat (decC x nd).length)) ∧ h' = h) := by
  have hw := X.hw
  obtain ⟨z1, hz1, hz2⟩ := X.2.2.1
  refine Ctr.intro (a0 := a0) (plainFor_of_name pn5) hO X.ew ?_
  intro p e s m below meth c T0 V0 S0 hby hml hret hnm hsf
  rw [ef10]
  have rx := rng32 x
  show Go p e below _ (T0.setTop (mkF m 0 #[.val (.int x), .unset, .unset, .unset] []))
  refine s_iconst S0 (hb hby dZS_0) (v := (1 : Int32)) rfl (pc' := 1) rfl ?_
  refine s_istoreN S0 (hb hby dZS_1) (L' := #[.val (.int x), .val (.int (1 : Int32)), .unset, .unset]) rfl (pc' := 2) rfl ?_
  refine s_iloadN S0 (hb hby dZS_2) rfl (pc' := 3) rfl ?_
  refine g_if S0 (hb hby dZS_3) (by decide) (pcT := 11) (by decide) (fun q => ?_) (fun q => ?_)
  · have hc3_160 : x < (0 : Int32) := icT_lt q
    show Go p e below _ (T0.setTop (mkF m 11 #[.val (.int x), .val (.int (1 : Int32)), .unset, .unset] []))
    refine s_bipush S0 (hb hby dZS_11) (v := (-10 : Int32)) rfl (pc' := 13) rfl ?_
    refine s_istoreN S0 (hb hby dZS_13) (L' := #[.val (.int x), .val (.int (1 : Int32)), .val (.int (-10 : Int32)), .unset]) rfl (pc' := 14) rfl ?_
    refine s_iconst S0 (hb hby dZS_14) (v := (1 : Int32)) rfl (pc' := 15) rfl ?_
    refine s_istoreN S0 (hb hby dZS_15) (L' := #[.val (.int x), .val (.int (1 : Int32)), .val (.int (-10 : Int32)), .val (.int (1 : Int32))]) rfl (pc' := 16) rfl ?_
    refine s_iloadN S0 (hb hby dZS_16) rfl (pc' := 17) rfl ?_
    refine s_bipush S0 (hb hby dZS_17) (v := (10 : Int32)) rfl (pc' := 19) rfl ?_
    refine s_icmpN S0 (hb hby dZS_19) (by decide) (pc' := 22) rfl ?_
    refine s_iloadN S0 (hb hby dZS_22) rfl (pc' := 23) rfl ?_
    refine s_iloadN S0 (hb hby dZS_23) rfl (pc' := 24) rfl ?_
    refine g_icmp S0 (hb hby dZS_24) (by decide) (pcT := 31) (by decide) (fun q => ?_) (fun q => ?_)
    · have hc24_161 : ¬ (-10 : Int32) < x := icT_le q
      show Go p e below _ (T0.setTop (mkF m 31 #[.val (.int x), .val (.int (1 : Int32)), .val (.int (-10 : Int32)), .val (.int (1 : Int32))] []))
      refine s_bipush S0 (hb hby dZS_31) (v := (10 : Int32)) rfl (pc' := 33) rfl ?_
      refine s_iloadN S0 (hb hby dZS_33) rfl (pc' := 34) rfl ?_
      refine s_imul S0 (hb hby dZS_34) (z := (-100 : Int32)) rfl (pc' := 35) rfl ?_
      refine s_istoreN S0 (hb hby dZS_35) (L' := #[.val (.int x), .val (.int (1 : Int32)), .val (.int (-100 : Int32)), .val (.int (1 : Int32))]) rfl (pc' := 36) rfl ?_
      refine s_iinc S0 (hb hby dZS_36) rfl (z := (2 : Int32)) rfl (L' := #[.val (.int x), .val (.int (1 : Int32)), .val (.int (-100 : Int32)), .val (.int (2 : Int32))]) rfl (pc' := 39) rfl ?_
      refine s_goto S0 (hb hby dZS_39) (by decide) (pcT := 16) (by decide) ?_
      refine s_iloadN S0 (hb hby dZS_16) rfl (pc' := 17) rfl ?_
      refine s_bipush S0 (hb hby dZS_17) (v := (10 : Int32)) rfl (pc' := 19) rfl ?_
      refine s_icmpN S0 (hb hby dZS_19) (by decide) (pc' := 22) rfl ?_
      refine s_iloadN S0 (hb hby dZS_22) rfl (pc' := 23) rfl ?_
      refine s_iloadN S0 (hb hby dZS_23) rfl (pc' := 24) rfl ?_
      refine g_icmp S0 (hb hby dZS_24) (by decide) (pcT := 31) (by decide) (fun q => ?_) (fun q => ?_)
      · have hc24_162 : ¬ (-100 : Int32) < x := icT_le q
        show Go p e below _ (T0.setTop (mkF m 31 #[.val (.int x), .val (.int (1 : Int32)), .val (.int (-100 : Int32)), .val (.int (2 : Int32))] []))
        refine s_bipush S0 (hb hby dZS_31) (v := (10 : Int32)) rfl (pc' := 33) rfl ?_
        refine s_iloadN S0 (hb hby dZS_33) rfl (pc' := 34) rfl ?_
        refine s_imul S0 (hb hby dZS_34) (z := (-1000 : Int32)) rfl (pc' := 35) rfl ?_
        refine s_istoreN S0 (hb hby dZS_35) (L' := #[.val (.int x), .val (.int (1 : Int32)), .val (.int (-1000 : Int32)), .val (.int (2 : Int32))]) rfl (pc' := 36) rfl ?_
        refine s_iinc S0 (hb hby dZS_36) rfl (z := (3 : Int32)) rfl (L' := #[.val (.int x), .val (.int (1 : Int32)), .val (.int (-1000 : Int32)), .val (.int (3 : Int32))]) rfl (pc' := 39) rfl ?_
        refine s_goto S0 (hb hby dZS_39) (by decide) (pcT := 16) (by decide) ?_
        refine s_iloadN S0 (hb hby dZS_16) rfl (pc' := 17) rfl ?_
        refine s_bipush S0 (hb hby dZS_17) (v := (10 : Int32)) rfl (pc' := 19) rfl ?_
        refine s_icmpN S0 (hb hby dZS_19) (by decide) (pc' := 22) rfl ?_
        refine s_iloadN S0 (hb hby dZS_22) rfl (pc' := 23) rfl ?_
        refine s_iloadN S0 (hb hby dZS_23) rfl (pc' := 24) rfl ?_
        refine g_icmp S0 (hb hby dZS_24) (by decide) (pcT := 31) (by decide) (fun q => ?_) (fun q => ?_)
        · have hc24_163 : ¬ (-1000 : Int32) < x := icT_le q
          show Go p e below _ (T0.setTop (mkF m 31 #[.val (.int x), .val (.int (1 : Int32)), .val (.int (-1000 : Int32)), .val (.int (3 : Int32))] []))
          refine s_bipush S0 (hb hby dZS_31) (v := (10 : Int32)) rfl (pc' := 33) rfl ?_
          refine s_iloadN S0 (hb hby dZS_33) rfl (pc' := 34) rfl ?_
          refine s_imul S0 (hb hby dZS_34) (z := (-10000 : Int32)) rfl (pc' := 35) rfl ?_
          refine s_istoreN S0 (hb hby dZS_35) (L' := #[.val (.int x), .val (.int (1 : Int32)), .val (.int (-10000 : Int32)), .val (.int (3 : Int32))]) rfl (pc' := 36) rfl ?_
          refine s_iinc S0 (hb hby dZS_36) rfl (z := (4 : Int32)) rfl (L' := #[.val (.int x), .val (.int (1 : Int32)), .val (.int (-10000 : Int32)), .val (.int (4 : Int32))]) rfl (pc' := 39) rfl ?_
          refine s_goto S0 (hb hby dZS_39) (by decide) (pcT := 16) (by decide) ?_
          refine s_iloadN S0 (hb hby dZS_16) rfl (pc' := 17) rfl ?_
          refine s_bipush S0 (hb hby dZS_17) (v := (10 : Int32)) rfl (pc' := 19) rfl ?_
          refine s_icmpN S0 (hb hby dZS_19) (by decide) (pc' := 22) rfl ?_
          refine s_iloadN S0 (hb hby dZS_22) rfl (pc' := 23) rfl ?_
          refine s_iloadN S0 (hb hby dZS_23) rfl (pc' := 24) rfl ?_
          refine g_icmp S0 (hb hby dZS_24) (by decide) (pcT := 31) (by decide) (fun q => ?_) (fun q => ?_)
          · have hc24_164 : ¬ (-10000 : Int32) < x := icT_le q
            show Go p e below _ (T0.setTop (mkF m 31 #[.val (.int x), .val (.int (1 : Int32)), .val (.int (-10000 : Int32)), .val (.int (4 : Int32))] []))
            refine s_bipush S0 (hb hby dZS_31) (v := (10 : Int32)) rfl (pc' := 33) rfl ?_
            refine s_iloadN S0 (hb hby dZS_33) rfl (pc' := 34) rfl ?_
            refine s_imul S0 (hb hby dZS_34) (z := (-100000 : Int32)) rfl (pc' := 35) rfl ?_
            refine s_istoreN S0 (hb hby dZS_35) (L' := #[.val (.int x), .val (.int (1 : Int32)), .val (.int (-100000 : Int32)), .val (.int (4 : Int32))]) rfl (pc' := 36) rfl ?_
            refine s_iinc S0 (hb hby dZS_36) rfl (z := (5 : Int32)) rfl (L' := #[.val (.int x), .val (.int (1 : Int32)), .val (.int (-100000 : Int32)), .val (.int (5 : Int32))]) rfl (pc' := 39) rfl ?_
            refine s_goto S0 (hb hby dZS_39) (by decide) (pcT := 16) (by decide) ?_
            refine s_iloadN S0 (hb hby dZS_16) rfl (pc' := 17) rfl ?_
            refine s_bipush S0 (hb hby dZS_17) (v := (10 : Int32)) rfl (pc' := 19) rfl ?_
            refine s_icmpN S0 (hb hby dZS_19) (by decide) (pc' := 22) rfl ?_
            refine s_iloadN S0 (hb hby dZS_22) rfl (pc' := 23) rfl ?_
            refine s_iloadN S0 (hb hby dZS_23) rfl (pc' := 24) rfl ?_
            refine g_icmp S0 (hb hby dZS_24) (by decide) (pcT := 31) (by decide) (fun q => ?_) (fun q => ?_)
            · have hc24_165 : ¬ (-100000 : Int32) < x := icT_le q
              show Go p e below _ (T0.setTop (mkF m 31 #[.val (.int x), .val (.int (1 : Int32)), .val (.int (-100000 : Int32)), .val (.int (5 : Int32))] []))
              refine s_bipush S0 (hb hby dZS_31) (v := (10 : Int32)) rfl (pc' := 33) rfl ?_
              refine s_iloadN S0 (hb hby dZS_33) rfl (pc' := 34) rfl ?_
              refine s_imul S0 (hb hby dZS_34) (z := (-1000000 : Int32)) rfl (pc' := 35) rfl ?_
              refine s_istoreN S0 (hb hby dZS_35) (L' := #[.val (.int x), .val (.int (1 : Int32)), .val (.int (-1000000 : Int32)), .val (.int (5 : Int32))]) rfl (pc' := 36) rfl ?_
              refine s_iinc S0 (hb hby dZS_36) rfl (z := (6 : Int32)) rfl (L' := #[.val (.int x), .val (.int (1 : Int32)), .val (.int (-1000000 : Int32)), .val (.int (6 : Int32))]) rfl (pc' := 39) rfl ?_
              refine s_goto S0 (hb hby dZS_39) (by decide) (pcT := 16) (by decide) ?_
              refine s_iloadN S0 (hb hby dZS_16) rfl (pc' := 17) rfl ?_
              refine s_bipush S0 (hb hby dZS_17) (v := (10 : Int32)) rfl (pc' := 19) rfl ?_
              refine s_icmpN S0 (hb hby dZS_19) (by decide) (pc' := 22) rfl ?_
              refine s_iloadN S0 (hb hby dZS_22) rfl (pc' := 23) rfl ?_
              refine s_iloadN S0 (hb hby dZS_23) rfl (pc' := 24) rfl ?_
              refine g_icmp S0 (hb hby dZS_24) (by decide) (pcT := 31) (by decide) (fun q => ?_) (fun q => ?_)
              · have hc24_166 : ¬ (-1000000 : Int32) < x := icT_le q
                show Go p e below _ (T0.setTop (mkF m 31 #[.val (.int x), .val (.int (1 : Int32)), .val (.int (-1000000 : Int32)), .val (.int (6 : Int32))] []))
                refine s_bipush S0 (hb hby dZS_31) (v := (10 : Int32)) rfl (pc' := 33) rfl ?_
                refine s_iloadN S0 (hb hby dZS_33) rfl (pc' := 34) rfl ?_
                refine s_imul S0 (hb hby dZS_34) (z := (-10000000 : Int32)) rfl (pc' := 35) rfl ?_
                refine s_istoreN S0 (hb hby dZS_35) (L' := #[.val (.int x), .val (.int (1 : Int32)), .val (.int (-10000000 : Int32)), .val (.int (6 : Int32))]) rfl (pc' := 36) rfl ?_
                refine s_iinc S0 (hb hby dZS_36) rfl (z := (7 : Int32)) rfl (L' := #[.val (.int x), .val (.int (1 : Int32)), .val (.int (-10000000 : Int32)), .val (.int (7 : Int32))]) rfl (pc' := 39) rfl ?_
                refine s_goto S0 (hb hby dZS_39) (by decide) (pcT := 16) (by decide) ?_
                refine s_iloadN S0 (hb hby dZS_16) rfl (pc' := 17) rfl ?_
                refine s_bipush S0 (hb hby dZS_17) (v := (10 : Int32)) rfl (pc' := 19) rfl ?_
                refine s_icmpN S0 (hb hby dZS_19) (by decide) (pc' := 22) rfl ?_
                refine s_iloadN S0 (hb hby dZS_22) rfl (pc' := 23) rfl ?_
                refine s_iloadN S0 (hb hby dZS_23) rfl (pc' := 24) rfl ?_
                refine g_icmp S0 (hb hby dZS_24) (by decide) (pcT := 31) (by decide) (fun q => ?_) (fun q => ?_)
                · have hc24_167 : ¬ (-10000000 : Int32) < x := icT_le q
                  show Go p e below _ (T0.setTop (mkF m 31 #[.val (.int x), .val (.int (1 : Int32)), .val (.int (-10000000 : Int32)), .val (.int (7 : Int32))] []))
                  refine s_bipush S0 (hb hby dZS_31) (v := (10 : Int32)) rfl (pc' := 33) rfl ?_
                  refine s_iloadN S0 (hb hby dZS_33) rfl (pc' := 34) rfl ?_
                  refine s_imul S0 (hb hby dZS_34) (z := (-100000000 : Int32)) rfl (pc' := 35) rfl ?_
                  refine s_istoreN S0 (hb hby dZS_35) (L' := #[.val (.int x), .val (.int (1 : Int32)), .val (.int (-100000000 : Int32)), .val (.int (7 : Int32))]) rfl (pc' := 36) rfl ?_
                  refine s_iinc S0 (hb hby dZS_36) rfl (z := (8 : Int32)) rfl (L' := #[.val (.int x), .val (.int (1 : Int32)), .val (.int (-100000000 : Int32)), .val (.int (8 : Int32))]) rfl (pc' := 39) rfl ?_
                  refine s_goto S0 (hb hby dZS_39) (by decide) (pcT := 16) (by decide) ?_
                  refine s_iloadN S0 (hb hby dZS_16) rfl (pc' := 17) rfl ?_
                  refine s_bipush S0 (hb hby dZS_17) (v := (10 : Int32)) rfl (pc' := 19) rfl ?_
                  refine s_icmpN S0 (hb hby dZS_19) (by decide) (pc' := 22) rfl ?_
                  refine s_iloadN S0 (hb hby dZS_22) rfl (pc' := 23) rfl ?_
                  refine s_iloadN S0 (hb hby dZS_23) rfl (pc' := 24) rfl ?_
                  refine g_icmp S0 (hb hby dZS_24) (by decide) (pcT := 31) (by decide) (fun q => ?_) (fun q => ?_)
                  · have hc24_168 : ¬ (-100000000 : Int32) < x := icT_le q
                    show Go p e below _ (T0.setTop (mkF m 31 #[.val (.int x), .val (.int (1 : Int32)), .val (.int (-100000000 : Int32)), .val (.int (8 : Int32))] []))
                    refine s_bipush S0 (hb hby dZS_31) (v := (10 : Int32)) rfl (pc' := 33) rfl ?_
                    refine s_iloadN S0 (hb hby dZS_33) rfl (pc' := 34) rfl ?_
                    refine s_imul S0 (hb hby dZS_34) (z := (-1000000000 : Int32)) rfl (pc' := 35) rfl ?_
                    refine s_istoreN S0 (hb hby dZS_35) (L' := #[.val (.int x), .val (.int (1 : Int32)), .val (.int (-1000000000 : Int32)), .val (.int (8 : Int32))]) rfl (pc' := 36) rfl ?_
                    refine s_iinc S0 (hb hby dZS_36) rfl (z := (9 : Int32)) rfl (L' := #[.val (.int x), .val (.int (1 : Int32)), .val (.int (-1000000000 : Int32)), .val (.int (9 : Int32))]) rfl (pc' := 39) rfl ?_
                    refine s_goto S0 (hb hby dZS_39) (by decide) (pcT := 16) (by decide) ?_
                    refine s_iloadN S0 (hb hby dZS_16) rfl (pc' := 17) rfl ?_
                    refine s_bipush S0 (hb hby dZS_17) (v := (10 : Int32)) rfl (pc' := 19) rfl ?_
                    refine s_icmpN S0 (hb hby dZS_19) (by decide) (pc' := 22) rfl ?_
                    refine s_iloadN S0 (hb hby dZS_22) rfl (pc' := 23) rfl ?_
                    refine s_iloadN S0 (hb hby dZS_23) rfl (pc' := 24) rfl ?_
                    refine g_icmp S0 (hb hby dZS_24) (by decide) (pcT := 31) (by decide) (fun q => ?_) (fun q => ?_)
                    · have hc24_169 : ¬ (-1000000000 : Int32) < x := icT_le q
                      show Go p e below _ (T0.setTop (mkF m 31 #[.val (.int x), .val (.int (1 : Int32)), .val (.int (-1000000000 : Int32)), .val (.int (9 : Int32))] []))
                      refine s_bipush S0 (hb hby dZS_31) (v := (10 : Int32)) rfl (pc' := 33) rfl ?_
                      refine s_iloadN S0 (hb hby dZS_33) rfl (pc' := 34) rfl ?_
                      refine s_imul S0 (hb hby dZS_34) (z := (-1410065408 : Int32)) rfl (pc' := 35) rfl ?_
                      refine s_istoreN S0 (hb hby dZS_35) (L' := #[.val (.int x), .val (.int (1 : Int32)), .val (.int (-1410065408 : Int32)), .val (.int (9 : Int32))]) rfl (pc' := 36) rfl ?_
                      refine s_iinc S0 (hb hby dZS_36) rfl (z := (10 : Int32)) rfl (L' := #[.val (.int x), .val (.int (1 : Int32)), .val (.int (-1410065408 : Int32)), .val (.int (10 : Int32))]) rfl (pc' := 39) rfl ?_
                      refine s_goto S0 (hb hby dZS_39) (by decide) (pcT := 16) (by decide) ?_
                      refine s_iloadN S0 (hb hby dZS_16) rfl (pc' := 17) rfl ?_
                      refine s_bipush S0 (hb hby dZS_17) (v := (10 : Int32)) rfl (pc' := 19) rfl ?_
                      refine s_icmpY S0 (hb hby dZS_19) (by decide) (by decide) (pcT := 42) (by decide) ?_
                      refine s_bipush S0 (hb hby dZS_42) (v := (10 : Int32)) rfl (pc' := 44) rfl ?_
                      refine s_iloadN S0 (hb hby dZS_44) rfl (pc' := 45) rfl ?_
                      refine s_iadd S0 (hb hby dZS_45) (z := (11 : Int32)) rfl (pc' := 46) rfl ?_
                      show Go p e below _ (T0.setTop (mkF m 46 #[.val (.int x), .val (.int (1 : Int32)), .val (.int (-1410065408 : Int32)), .val (.int (10 : Int32))] [(.int (11 : Int32))]))
                      have m_ := x.toInt.natAbs
                      rw [Int32.lt_iff_toInt_lt] at hc3_160
                      rw [Int32.lt_iff_toInt_lt] at hc24_161
                      rw [Int32.lt_iff_toInt_lt] at hc24_162
                      rw [Int32.lt_iff_toInt_lt] at hc24_163
                      rw [Int32.lt_iff_toInt_lt] at hc24_164
                      rw [Int32.lt_iff_toInt_lt] at hc24_165
                      rw [Int32.lt_iff_toInt_lt] at hc24_166
                      rw [Int32.lt_iff_toInt_lt] at hc24_167
                      rw [Int32.lt_iff_toInt_lt] at hc24_168
                      rw [Int32.lt_iff_toInt_lt] at hc24_169
                      have q0 : ((-10 : Int32) : Int32).toInt = -10 := rfl
                      have q1 : ((-100 : Int32) : Int32).toInt = -100 := rfl
                      have q2 : ((-1000 : Int32) : Int32).toInt = -1000 := rfl
                      have q3 : ((-10000 : Int32) : Int32).toInt = -10000 := rfl
                      have q4 : ((-100000 : Int32) : Int32).toInt = -100000 := rfl
                      have q5 : ((-1000000 : Int32) : Int32).toInt = -1000000 := rfl
                      have q6 : ((-10000000 : Int32) : Int32).toInt = -10000000 := rfl
                      have q7 : ((-100000000 : Int32) : Int32).toInt = -100000000 := rfl
                      have q8 : ((-1000000000 : Int32) : Int32).toInt = -1000000000 := rfl
                      have q9 : ((0 : Int32) : Int32).toInt = 0 := rfl
                      exact g_iret S0 (hb hby dZS_46) hret ⟨10, ⟨by decide, by decide, by show x.toInt.natAbs < 10000000000; omega, Or.inr (by show 1000000000 ≤ x.toInt.natAbs; omega)⟩, by rw [decC_len, if_pos (by rw [Int32.lt_iff_toInt_lt]; omega)]; rfl, rfl⟩
                    · have hc24_169 : (-1000000000 : Int32) < x := icF_le q
                      show Go p e below _ (T0.setTop (mkF m 27 #[.val (.int x), .val (.int (1 : Int32)), .val (.int (-1000000000 : Int32)), .val (.int (9 : Int32))] []))
                      refine s_iloadN S0 (hb hby dZS_27) rfl (pc' := 28) rfl ?_
                      refine s_iloadN S0 (hb hby dZS_28) rfl (pc' := 29) rfl ?_
                      refine s_iadd S0 (hb hby dZS_29) (z := (10 : Int32)) rfl (pc' := 30) rfl ?_
                      show Go p e below _ (T0.setTop (mkF m 30 #[.val (.int x), .val (.int (1 : Int32)), .val (.int (-1000000000 : Int32)), .val (.int (9 : Int32))] [(.int (10 : Int32))]))
                      have m_ := x.toInt.natAbs
                      rw [Int32.lt_iff_toInt_lt] at hc3_160
                      rw [Int32.lt_iff_toInt_lt] at hc24_161
                      rw [Int32.lt_iff_toInt_lt] at hc24_162
                      rw [Int32.lt_iff_toInt_lt] at hc24_163
                      rw [Int32.lt_iff_toInt_lt] at hc24_164
                      rw [Int32.lt_iff_toInt_lt] at hc24_165
                      rw [Int32.lt_iff_toInt_lt] at hc24_166
                      rw [Int32.lt_iff_toInt_lt] at hc24_167
                      rw [Int32.lt_iff_toInt_lt] at hc24_168
                      rw [Int32.lt_iff_toInt_lt] at hc24_169
                      have q0 : ((-10 : Int32) : Int32).toInt = -10 := rfl
                      have q1 : ((-100 : Int32) : Int32).toInt = -100 := rfl
                      have q2 : ((-1000 : Int32) : Int32).toInt = -1000 := rfl
                      have q3 : ((-10000 : Int32) : Int32).toInt = -10000 := rfl
                      have q4 : ((-100000 : Int32) : Int32).toInt = -100000 := rfl
                      have q5 : ((-1000000 : Int32) : Int32).toInt = -1000000 := rfl
                      have q6 : ((-10000000 : Int32) : Int32).toInt = -10000000 := rfl
                      have q7 : ((-100000000 : Int32) : Int32).toInt = -100000000 := rfl
                      have q8 : ((-1000000000 : Int32) : Int32).toInt = -1000000000 := rfl
                      have q9 : ((0 : Int32) : Int32).toInt = 0 := rfl
                      exact g_iret S0 (hb hby dZS_30) hret ⟨9, ⟨by decide, by decide, by show x.toInt.natAbs < 1000000000; omega, Or.inr (by show 100000000 ≤ x.toInt.natAbs; omega)⟩, by rw [decC_len, if_pos (by rw [Int32.lt_iff_toInt_lt]; omega)]; rfl, rfl⟩
                  · have hc24_168 : (-100000000 : Int32) < x := icF_le q
                    show Go p e below _ (T0.setTop (mkF m 27 #[.val (.int x), .val (.int (1 : Int32)), .val (.int (-100000000 : Int32)), .val (.int (8 : Int32))] []))
                    refine s_iloadN S0 (hb hby dZS_27) rfl (pc' := 28) rfl ?_
                    refine s_iloadN S0 (hb hby dZS_28) rfl (pc' := 29) rfl ?_
                    refine s_iadd S0 (hb hby dZS_29) (z := (9 : Int32)) rfl (pc' := 30) rfl ?_
                    show Go p e below _ (T0.setTop (mkF m 30 #[.val (.int x), .val (.int (1 : Int32)), .val (.int (-100000000 : Int32)), .val (.int (8 : Int32))] [(.int (9 : Int32))]))
                    have m_ := x.toInt.natAbs
                    rw [Int32.lt_iff_toInt_lt] at hc3_160
                    rw [Int32.lt_iff_toInt_lt] at hc24_161
                    rw [Int32.lt_iff_toInt_lt] at hc24_162
                    rw [Int32.lt_iff_toInt_lt] at hc24_163
                    rw [Int32.lt_iff_toInt_lt] at hc24_164
                    rw [Int32.lt_iff_toInt_lt] at hc24_165
                    rw [Int32.lt_iff_toInt_lt] at hc24_166
                    rw [Int32.lt_iff_toInt_lt] at hc24_167
                    rw [Int32.lt_iff_toInt_lt] at hc24_168
                    have q0 : ((-10 : Int32) : Int32).toInt = -10 := rfl
                    have q1 : ((-100 : Int32) : Int32).toInt = -100 := rfl
                    have q2 : ((-1000 : Int32) : Int32).toInt = -1000 := rfl
                    have q3 : ((-10000 : Int32) : Int32).toInt = -10000 := rfl
                    have q4 : ((-100000 : Int32) : Int32).toInt = -100000 := rfl
                    have q5 : ((-1000000 : Int32) : Int32).toInt = -1000000 := rfl
                    have q6 : ((-10000000 : Int32) : Int32).toInt = -10000000 := rfl
                    have q7 : ((-100000000 : Int32) : Int32).toInt = -100000000 := rfl
                    have q8 : ((0 : Int32) : Int32).toInt = 0 := rfl
                    exact g_iret S0 (hb hby dZS_30) hret ⟨8, ⟨by decide, by decide, by show x.toInt.natAbs < 100000000; omega, Or.inr (by show 10000000 ≤ x.toInt.natAbs; omega)⟩, by rw [decC_len, if_pos (by rw [Int32.lt_iff_toInt_lt]; omega)]; rfl, rfl⟩
                · have hc24_167 : (-10000000 : Int32) < x := icF_le q
                  show Go p e below _ (T0.setTop (mkF m 27 #[.val (.int x), .val (.int (1 : Int32)), .val (.int (-10000000 : Int32)), .val (.int (7 : Int32))] []))
                  refine s_iloadN S0 (hb hby dZS_27) rfl (pc' := 28) rfl ?_
                  refine s_iloadN S0 (hb hby dZS_28) rfl (pc' := 29) rfl ?_
                  refine s_iadd S0 (hb hby dZS_29) (z := (8 : Int32)) rfl (pc' := 30) rfl ?_
                  show Go p e below _ (T0.setTop (mkF m 30 #[.val (.int x), .val (.int (1 : Int32)), .val (.int (-10000000 : Int32)), .val (.int (7 : Int32))] [(.int (8 : Int32))]))
                  have m_ := x.toInt.natAbs
                  rw [Int32.lt_iff_toInt_lt] at hc3_160
                  rw [Int32.lt_iff_toInt_lt] at hc24_161
                  rw [Int32.lt_iff_toInt_lt] at hc24_162
                  rw [Int32.lt_iff_toInt_lt] at hc24_163
                  rw [Int32.lt_iff_toInt_lt] at hc24_164
                  rw [Int32.lt_iff_toInt_lt] at hc24_165
                  rw [Int32.lt_iff_toInt_lt] at hc24_166
                  rw [Int32.lt_iff_toInt_lt] at hc24_167
                  have q0 : ((-10 : Int32) : Int32).toInt = -10 := rfl
                  have q1 : ((-100 : Int32) : Int32).toInt = -100 := rfl
                  have q2 : ((-1000 : Int32) : Int32).toInt = -1000 := rfl
                  have q3 : ((-10000 : Int32) : Int32).toInt = -10000 := rfl
                  have q4 : ((-100000 : Int32) : Int32).toInt = -100000 := rfl
                  have q5 : ((-1000000 : Int32) : Int32).toInt = -1000000 := rfl
                  have q6 : ((-10000000 : Int32) : Int32).toInt = -10000000 := rfl
                  have q7 : ((0 : Int32) : Int32).toInt = 0 := rfl
                  exact g_iret S0 (hb hby dZS_30) hret ⟨7, ⟨by decide, by decide, by show x.toInt.natAbs < 10000000; omega, Or.inr (by show 1000000 ≤ x.toInt.natAbs; omega)⟩, by rw [decC_len, if_pos (by rw [Int32.lt_iff_toInt_lt]; omega)]; rfl, rfl⟩
              · have hc24_166 : (-1000000 : Int32) < x := icF_le q
                show Go p e below _ (T0.setTop (mkF m 27 #[.val (.int x), .val (.int (1 : Int32)), .val (.int (-1000000 : Int32)), .val (.int (6 : Int32))] []))
                refine s_iloadN S0 (hb hby dZS_27) rfl (pc' := 28) rfl ?_
                refine s_iloadN S0 (hb hby dZS_28) rfl (pc' := 29) rfl ?_
                refine s_iadd S0 (hb hby dZS_29) (z := (7 : Int32)) rfl (pc' := 30) rfl ?_
                show Go p e below _ (T0.setTop (mkF m 30 #[.val (.int x), .val (.int (1 : Int32)), .val (.int (-1000000 : Int32)), .val (.int (6 : Int32))] [(.int (7 : Int32))]))
                have m_ := x.toInt.natAbs
                rw [Int32.lt_iff_toInt_lt] at hc3_160
                rw [Int32.lt_iff_toInt_lt] at hc24_161
                rw [Int32.lt_iff_toInt_lt] at hc24_162
                rw [Int32.lt_iff_toInt_lt] at hc24_163
                rw [Int32.lt_iff_toInt_lt] at hc24_164
                rw [Int32.lt_iff_toInt_lt] at hc24_165
                rw [Int32.lt_iff_toInt_lt] at hc24_166
                have q0 : ((-10 : Int32) : Int32).toInt = -10 := rfl
                have q1 : ((-100 : Int32) : Int32).toInt = -100 := rfl
                have q2 : ((-1000 : Int32) : Int32).toInt = -1000 := rfl
                have q3 : ((-10000 : Int32) : Int32).toInt = -10000 := rfl
                have q4 : ((-100000 : Int32) : Int32).toInt = -100000 := rfl
                have q5 : ((-1000000 : Int32) : Int32).toInt = -1000000 := rfl
                have q6 : ((0 : Int32) : Int32).toInt = 0 := rfl
                exact g_iret S0 (hb hby dZS_30) hret ⟨6, ⟨by decide, by decide, by show x.toInt.natAbs < 1000000; omega, Or.inr (by show 100000 ≤ x.toInt.natAbs; omega)⟩, by rw [decC_len, if_pos (by rw [Int32.lt_iff_toInt_lt]; omega)]; rfl, rfl⟩
            · have hc24_165 : (-100000 : Int32) < x := icF_le q
              show Go p e below _ (T0.setTop (mkF m 27 #[.val (.int x), .val (.int (1 : Int32)), .val (.int (-100000 : Int32)), .val (.int (5 : Int32))] []))
              refine s_iloadN S0 (hb hby dZS_27) rfl (pc' := 28) rfl ?_
              refine s_iloadN S0 (hb hby dZS_28) rfl (pc' := 29) rfl ?_
              refine s_iadd S0 (hb hby dZS_29) (z := (6 : Int32)) rfl (pc' := 30) rfl ?_
              show Go p e below _ (T0.setTop (mkF m 30 #[.val (.int x), .val (.int (1 : Int32)), .val (.int (-100000 : Int32)), .val (.int (5 : Int32))] [(.int (6 : Int32))]))
              have m_ := x.toInt.natAbs
              rw [Int32.lt_iff_toInt_lt] at hc3_160
              rw [Int32.lt_iff_toInt_lt] at hc24_161
              rw [Int32.lt_iff_toInt_lt] at hc24_162
              rw [Int32.lt_iff_toInt_lt] at hc24_163
              rw [Int32.lt_iff_toInt_lt] at hc24_164
              rw [Int32.lt_iff_toInt_lt] at hc24_165
              have q0 : ((-10 : Int32) : Int32).toInt = -10 := rfl
              have q1 : ((-100 : Int32) : Int32).toInt = -100 := rfl
              have q2 : ((-1000 : Int32) : Int32).toInt = -1000 := rfl
              have q3 : ((-10000 : Int32) : Int32).toInt = -10000 := rfl
              have q4 : ((-100000 : Int32) : Int32).toInt = -100000 := rfl
              have q5 : ((0 : Int32) : Int32).toInt = 0 := rfl
              exact g_iret S0 (hb hby dZS_30) hret ⟨5, ⟨by decide, by decide, by show x.toInt.natAbs < 100000; omega, Or.inr (by show 10000 ≤ x.toInt.natAbs; omega)⟩, by rw [decC_len, if_pos (by rw [Int32.lt_iff_toInt_lt]; omega)]; rfl, rfl⟩
          · have hc24_164 : (-10000 : Int32) < x := icF_le q
            show Go p e below _ (T0.setTop (mkF m 27 #[.val (.int x), .val (.int (1 : Int32)), .val (.int (-10000 : Int32)), .val (.int (4 : Int32))] []))
            refine s_iloadN S0 (hb hby dZS_27) rfl (pc' := 28) rfl ?_
            refine s_iloadN S0 (hb hby dZS_28) rfl (pc' := 29) rfl ?_
            refine s_iadd S0 (hb hby dZS_29) (z := (5 : Int32)) rfl (pc' := 30) rfl ?_
            show Go p e below _ (T0.setTop (mkF m 30 #[.val (.int x), .val (.int (1 : Int32)), .val (.int (-10000 : Int32)), .val (.int (4 : Int32))] [(.int (5 : Int32))]))
            have m_ := x.toInt.natAbs
            rw [Int32.lt_iff_toInt_lt] at hc3_160
            rw [Int32.lt_iff_toInt_lt] at hc24_161
            rw [Int32.lt_iff_toInt_lt] at hc24_162
            rw [Int32.lt_iff_toInt_lt] at hc24_163
            rw [Int32.lt_iff_toInt_lt] at hc24_164
            have q0 : ((-10 : Int32) : Int32).toInt = -10 := rfl
            have q1 : ((-100 : Int32) : Int32).toInt = -100 := rfl
            have q2 : ((-1000 : Int32) : Int32).toInt = -1000 := rfl
            have q3 : ((-10000 : Int32) : Int32).toInt = -10000 := rfl
            have q4 : ((0 : Int32) : Int32).toInt = 0 := rfl
            exact g_iret S0 (hb hby dZS_30) hret ⟨4, ⟨by decide, by decide, by show x.toInt.natAbs < 10000; omega, Or.inr (by show 1000 ≤ x.toInt.natAbs; omega)⟩, by rw [decC_len, if_pos (by rw [Int32.lt_iff_toInt_lt]; omega)]; rfl, rfl⟩
        · have hc24_163 : (-1000 : Int32) < x := icF_le q
          show Go p e below _ (T0.setTop (mkF m 27 #[.val (.int x), .val (.int (1 : Int32)), .val (.int (-1000 : Int32)), .val (.int (3 : Int32))] []))
          refine s_iloadN S0 (hb hby dZS_27) rfl (pc' := 28) rfl ?_
          refine s_iloadN S0 (hb hby dZS_28) rfl (pc' := 29) rfl ?_
          refine s_iadd S0 (hb hby dZS_29) (z := (4 : Int32)) rfl (pc' := 30) rfl ?_
          show Go p e below _ (T0.setTop (mkF m 30 #[.val (.int x), .val (.int (1 : Int32)), .val (.int (-1000 : Int32)), .val (.int (3 : Int32))] [(.int (4 : Int32))]))
          have m_ := x.toInt.natAbs
          rw [Int32.lt_iff_toInt_lt] at hc3_160
          rw [Int32.lt_iff_toInt_lt] at hc24_161
          rw [Int32.lt_iff_toInt_lt] at hc24_162
          rw [Int32.lt_iff_toInt_lt] at hc24_163
          have q0 : ((-10 : Int32) : Int32).toInt = -10 := rfl
          have q1 : ((-100 : Int32) : Int32).toInt = -100 := rfl
          have q2 : ((-1000 : Int32) : Int32).toInt = -1000 := rfl
          have q3 : ((0 : Int32) : Int32).toInt = 0 := rfl
          exact g_iret S0 (hb hby dZS_30) hret ⟨3, ⟨by decide, by decide, by show x.toInt.natAbs < 1000; omega, Or.inr (by show 100 ≤ x.toInt.natAbs; omega)⟩, by rw [decC_len, if_pos (by rw [Int32.lt_iff_toInt_lt]; omega)]; rfl, rfl⟩
      · have hc24_162 : (-100 : Int32) < x := icF_le q
        show Go p e below _ (T0.setTop (mkF m 27 #[.val (.int x), .val (.int (1 : Int32)), .val (.int (-100 : Int32)), .val (.int (2 : Int32))] []))
        refine s_iloadN S0 (hb hby dZS_27) rfl (pc' := 28) rfl ?_
        refine s_iloadN S0 (hb hby dZS_28) rfl (pc' := 29) rfl ?_
        refine s_iadd S0 (hb hby dZS_29) (z := (3 : Int32)) rfl (pc' := 30) rfl ?_
        show Go p e below _ (T0.setTop (mkF m 30 #[.val (.int x), .val (.int (1 : Int32)), .val (.int (-100 : Int32)), .val (.int (2 : Int32))] [(.int (3 : Int32))]))
        have m_ := x.toInt.natAbs
        rw [Int32.lt_iff_toInt_lt] at hc3_160
        rw [Int32.lt_iff_toInt_lt] at hc24_161
        rw [Int32.lt_iff_toInt_lt] at hc24_162
        have q0 : ((-10 : Int32) : Int32).toInt = -10 := rfl
        have q1 : ((-100 : Int32) : Int32).toInt = -100 := rfl
        have q2 : ((0 : Int32) : Int32).toInt = 0 := rfl
        exact g_iret S0 (hb hby dZS_30) hret ⟨2, ⟨by decide, by decide, by show x.toInt.natAbs < 100; omega, Or.inr (by show 10 ≤ x.toInt.natAbs; omega)⟩, by rw [decC_len, if_pos (by rw [Int32.lt_iff_toInt_lt]; omega)]; rfl, rfl⟩
    · have hc24_161 : (-10 : Int32) < x := icF_le q
      show Go p e below _ (T0.setTop (mkF m 27 #[.val (.int x), .val (.int (1 : Int32)), .val (.int (-10 : Int32)), .val (.int (1 : Int32))] []))
      refine s_iloadN S0 (hb hby dZS_27) rfl (pc' := 28) rfl ?_
      refine s_iloadN S0 (hb hby dZS_28) rfl (pc' := 29) rfl ?_
      refine s_iadd S0 (hb hby dZS_29) (z := (2 : Int32)) rfl (pc' := 30) rfl ?_
      show Go p e below _ (T0.setTop (mkF m 30 #[.val (.int x), .val (.int (1 : Int32)), .val (.int (-10 : Int32)), .val (.int (1 : Int32))] [(.int (2 : Int32))]))
      have m_ := x.toInt.natAbs
      rw [Int32.lt_iff_toInt_lt] at hc3_160
      rw [Int32.lt_iff_toInt_lt] at hc24_161
      have q0 : ((-10 : Int32) : Int32).toInt = -10 := rfl
      have q1 : ((0 : Int32) : Int32).toInt = 0 := rfl
      exact g_iret S0 (hb hby dZS_30) hret ⟨1, ⟨by decide, by decide, by show x.toInt.natAbs < 10; omega, Or.inl rfl⟩, by rw [decC_len, if_pos (by rw [Int32.lt_iff_toInt_lt]; omega)]; rfl, rfl⟩
  · have hc3_160 : ¬ x < (0 : Int32) := icF_lt q
    show Go p e below _ (T0.setTop (mkF m 6 #[.val (.int x), .val (.int (1 : Int32)), .unset, .unset] []))
    refine s_iconst S0 (hb hby dZS_6) (v := (0 : Int32)) rfl (pc' := 7) rfl ?_
    refine s_istoreN S0 (hb hby dZS_7) (L' := #[.val (.int x), .val (.int (0 : Int32)), .unset, .unset]) rfl (pc' := 8) rfl ?_
    refine s_iloadN S0 (hb hby dZS_8) rfl (pc' := 9) rfl ?_
    refine s_ineg S0 (hb hby dZS_9) (z := (-x)) rfl (pc' := 10) rfl ?_
    generalize ey170 : (-x) = y170
    refine s_istoreN S0 (hb hby dZS_10) (L' := #[.val (.int y170), .val (.int (0 : Int32)), .unset, .unset]) rfl (pc' := 11) rfl ?_
    refine s_bipush S0 (hb hby dZS_11) (v := (-10 : Int32)) rfl (pc' := 13) rfl ?_
    refine s_istoreN S0 (hb hby dZS_13) (L' := #[.val (.int y170), .val (.int (0 : Int32)), .val (.int (-10 : Int32)), .unset]) rfl (pc' := 14) rfl ?_
    refine s_iconst S0 (hb hby dZS_14) (v := (1 : Int32)) rfl (pc' := 15) rfl ?_
    refine s_istoreN S0 (hb hby dZS_15) (L' := #[.val (.int y170), .val (.int (0 : Int32)), .val (.int (-10 : Int32)), .val (.int (1 : Int32))]) rfl (pc' := 16) rfl ?_
    refine s_iloadN S0 (hb hby dZS_16) rfl (pc' := 17) rfl ?_
    refine s_bipush S0 (hb hby dZS_17) (v := (10 : Int32)) rfl (pc' := 19) rfl ?_
    refine s_icmpN S0 (hb hby dZS_19) (by decide) (pc' := 22) rfl ?_
    refine s_iloadN S0 (hb hby dZS_22) rfl (pc' := 23) rfl ?_
    refine s_iloadN S0 (hb hby dZS_23) rfl (pc' := 24) rfl ?_
    refine g_icmp S0 (hb hby dZS_24) (by decide) (pcT := 31) (by decide) (fun q => ?_) (fun q => ?_)
    · have hc24_171 : ¬ (-10 : Int32) < y170 := icT_le q
      show Go p e below _ (T0.setTop (mkF m 31 #[.val (.int y170), .val (.int (0 : Int32)), .val (.int (-10 : Int32)), .val (.int (1 : Int32))] []))
      refine s_bipush S0 (hb hby dZS_31) (v := (10 : Int32)) rfl (pc' := 33) rfl ?_
      refine s_iloadN S0 (hb hby dZS_33) rfl (pc' := 34) rfl ?_
      refine s_imul S0 (hb hby dZS_34) (z := (-100 : Int32)) rfl (pc' := 35) rfl ?_
      refine s_istoreN S0 (hb hby dZS_35) (L' := #[.val (.int y170), .val (.int (0 : Int32)), .val (.int (-100 : Int32)), .val (.int (1 : Int32))]) rfl (pc' := 36) rfl ?_
      refine s_iinc S0 (hb hby dZS_36) rfl (z := (2 : Int32)) rfl (L' := #[.val (.int y170), .val (.int (0 : Int32)), .val (.int (-100 : Int32)), .val (.int (2 : Int32))]) rfl (pc' := 39) rfl ?_
      refine s_goto S0 (hb hby dZS_39) (by decide) (pcT := 16) (by decide) ?_
      refine s_iloadN S0 (hb hby dZS_16) rfl (pc' := 17) rfl ?_
      refine s_bipush S0 (hb hby dZS_17) (v := (10 : Int32)) rfl (pc' := 19) rfl ?_
      refine s_icmpN S0 (hb hby dZS_19) (by decide) (pc' := 22) rfl ?_
      refine s_iloadN S0 (hb hby dZS_22) rfl (pc' := 23) rfl ?_
      refine s_iloadN S0 (hb hby dZS_23) rfl (pc' := 24) rfl ?_
      refine g_icmp S0 (hb hby dZS_24) (by decide) (pcT := 31) (by decide) (fun q => ?_) (fun q => ?_)
      · have hc24_172 : ¬ (-100 : Int32) < y170 := icT_le q
        show Go p e below _ (T0.setTop (mkF m 31 #[.val (.int y170), .val (.int (0 : Int32)), .val (.int (-100 : Int32)), .val (.int (2 : Int32))] []))
        refine s_bipush S0 (hb hby dZS_31) (v := (10 : Int32)) rfl (pc' := 33) rfl ?_
        refine s_iloadN S0 (hb hby dZS_33) rfl (pc' := 34) rfl ?_
        refine s_imul S0 (hb hby dZS_34) (z := (-1000 : Int32)) rfl (pc' := 35) rfl ?_
        refine s_istoreN S0 (hb hby dZS_35) (L' := #[.val (.int y170), .val (.int (0 : Int32)), .val (.int (-1000 : Int32)), .val (.int (2 : Int32))]) rfl (pc' := 36) rfl ?_
        refine s_iinc S0 (hb hby dZS_36) rfl (z := (3 : Int32)) rfl (L' := #[.val (.int y170), .val (.int (0 : Int32)), .val (.int (-1000 : Int32)), .val (.int (3 : Int32))]) rfl (pc' := 39) rfl ?_
        refine s_goto S0 (hb hby dZS_39) (by decide) (pcT := 16) (by decide) ?_
        refine s_iloadN S0 (hb hby dZS_16) rfl (pc' := 17) rfl ?_
        refine s_bipush S0 (hb hby dZS_17) (v := (10 : Int32)) rfl (pc' := 19) rfl ?_
        refine s_icmpN S0 (hb hby dZS_19) (by decide) (pc' := 22) rfl ?_
        refine s_iloadN S0 (hb hby dZS_22) rfl (pc' := 23) rfl ?_
        refine s_iloadN S0 (hb hby dZS_23) rfl (pc' := 24) rfl ?_
        refine g_icmp S0 (hb hby dZS_24) (by decide) (pcT := 31) (by decide) (fun q => ?_) (fun q => ?_)
        · have hc24_173 : ¬ (-1000 : Int32) < y170 := icT_le q
          show Go p e below _ (T0.setTop (mkF m 31 #[.val (.int y170), .val (.int (0 : Int32)), .val (.int (-1000 : Int32)), .val (.int (3 : Int32))] []))
          refine s_bipush S0 (hb hby dZS_31) (v := (10 : Int32)) rfl (pc' := 33) rfl ?_
          refine s_iloadN S0 (hb hby dZS_33) rfl (pc' := 34) rfl ?_
          refine s_imul S0 (hb hby dZS_34) (z := (-10000 : Int32)) rfl (pc' := 35) rfl ?_
          refine s_istoreN S0 (hb hby dZS_35) (L' := #[.val (.int y170), .val (.int (0 : Int32)), .val (.int (-10000 : Int32)), .val (.int (3 : Int32))]) rfl (pc' := 36) rfl ?_
          refine s_iinc S0 (hb hby dZS_36) rfl (z := (4 : Int32)) rfl (L' := #[.val (.int y170), .val (.int (0 : Int32)), .val (.int (-10000 : Int32)), .val (.int (4 : Int32))]) rfl (pc' := 39) rfl ?_
          refine s_goto S0 (hb hby dZS_39) (by decide) (pcT := 16) (by decide) ?_
          refine s_iloadN S0 (hb hby dZS_16) rfl (pc' := 17) rfl ?_
          refine s_bipush S0 (hb hby dZS_17) (v := (10 : Int32)) rfl (pc' := 19) rfl ?_
          refine s_icmpN S0 (hb hby dZS_19) (by decide) (pc' := 22) rfl ?_
          refine s_iloadN S0 (hb hby dZS_22) rfl (pc' := 23) rfl ?_
          refine s_iloadN S0 (hb hby dZS_23) rfl (pc' := 24) rfl ?_
          refine g_icmp S0 (hb hby dZS_24) (by decide) (pcT := 31) (by decide) (fun q => ?_) (fun q => ?_)
          · have hc24_174 : ¬ (-10000 : Int32) < y170 := icT_le q
            show Go p e below _ (T0.setTop (mkF m 31 #[.val (.int y170), .val (.int (0 : Int32)), .val (.int (-10000 : Int32)), .val (.int (4 : Int32))] []))
            refine s_bipush S0 (hb hby dZS_31) (v := (10 : Int32)) rfl (pc' := 33) rfl ?_
            refine s_iloadN S0 (hb hby dZS_33) rfl (pc' := 34) rfl ?_
            refine s_imul S0 (hb hby dZS_34) (z := (-100000 : Int32)) rfl (pc' := 35) rfl ?_
            refine s_istoreN S0 (hb hby dZS_35) (L' := #[.val (.int y170), .val (.int (0 : Int32)), .val (.int (-100000 : Int32)), .val (.int (4 : Int32))]) rfl (pc' := 36) rfl ?_
            refine s_iinc S0 (hb hby dZS_36) rfl (z := (5 : Int32)) rfl (L' := #[.val (.int y170), .val (.int (0 : Int32)), .val (.int (-100000 : Int32)), .val (.int (5 : Int32))]) rfl (pc' := 39) rfl ?_
            refine s_goto S0 (hb hby dZS_39) (by decide) (pcT := 16) (by decide) ?_
            refine s_iloadN S0 (hb hby dZS_16) rfl (pc' := 17) rfl ?_
            refine s_bipush S0 (hb hby dZS_17) (v := (10 : Int32)) rfl (pc' := 19) rfl ?_
            refine s_icmpN S0 (hb hby dZS_19) (by decide) (pc' := 22) rfl ?_
            refine s_iloadN S0 (hb hby dZS_22) rfl (pc' := 23) rfl ?_
            refine s_iloadN S0 (hb hby dZS_23) rfl (pc' := 24) rfl ?_
            refine g_icmp S0 (hb hby dZS_24) (by decide) (pcT := 31) (by decide) (fun q => ?_) (fun q => ?_)
            · have hc24_175 : ¬ (-100000 : Int32) < y170 := icT_le q
              show Go p e below _ (T0.setTop (mkF m 31 #[.val (.int y170), .val (.int (0 : Int32)), .val (.int (-100000 : Int32)), .val (.int (5 : Int32))] []))
              refine s_bipush S0 (hb hby dZS_31) (v := (10 : Int32)) rfl (pc' := 33) rfl ?_
              refine s_iloadN S0 (hb hby dZS_33) rfl (pc' := 34) rfl ?_
              refine s_imul S0 (hb hby dZS_34) (z := (-1000000 : Int32)) rfl (pc' := 35) rfl ?_
              refine s_istoreN S0 (hb hby dZS_35) (L' := #[.val (.int y170), .val (.int (0 : Int32)), .val (.int (-1000000 : Int32)), .val (.int (5 : Int32))]) rfl (pc' := 36) rfl ?_
              refine s_iinc S0 (hb hby dZS_36) rfl (z := (6 : Int32)) rfl (L' := #[.val (.int y170), .val (.int (0 : Int32)), .val (.int (-1000000 : Int32)), .val (.int (6 : Int32))]) rfl (pc' := 39) rfl ?_
              refine s_goto S0 (hb hby dZS_39) (by decide) (pcT := 16) (by decide) ?_
              refine s_iloadN S0 (hb hby dZS_16) rfl (pc' := 17) rfl ?_
              refine s_bipush S0 (hb hby dZS_17) (v := (10 : Int32)) rfl (pc' := 19) rfl ?_
              refine s_icmpN S0 (hb hby dZS_19) (by decide) (pc' := 22) rfl ?_
              refine s_iloadN S0 (hb hby dZS_22) rfl (pc' := 23) rfl ?_
              refine s_iloadN S0 (hb hby dZS_23) rfl (pc' := 24) rfl ?_
              refine g_icmp S0 (hb hby dZS_24) (by decide) (pcT := 31) (by decide) (fun q => ?_) (fun q => ?_)
              · have hc24_176 : ¬ (-1000000 : Int32) < y170 := icT_le q
                show Go p e below _ (T0.setTop (mkF m 31 #[.val (.int y170), .val (.int (0 : Int32)), .val (.int (-1000000 : Int32)), .val (.int (6 : Int32))] []))
                refine s_bipush S0 (hb hby dZS_31) (v := (10 : Int32)) rfl (pc' := 33) rfl ?_
                refine s_iloadN S0 (hb hby dZS_33) rfl (pc' := 34) rfl ?_
                refine s_imul S0 (hb hby dZS_34) (z := (-10000000 : Int32)) rfl (pc' := 35) rfl ?_
                refine s_istoreN S0 (hb hby dZS_35) (L' := #[.val (.int y170), .val (.int (0 : Int32)), .val (.int (-10000000 : Int32)), .val (.int (6 : Int32))]) rfl (pc' := 36) rfl ?_
                refine s_iinc S0 (hb hby dZS_36) rfl (z := (7 : Int32)) rfl (L' := #[.val (.int y170), .val (.int (0 : Int32)), .val (.int (-10000000 : Int32)), .val (.int (7 : Int32))]) rfl (pc' := 39) rfl ?_
                refine s_goto S0 (hb hby dZS_39) (by decide) (pcT := 16) (by decide) ?_
                refine s_iloadN S0 (hb hby dZS_16) rfl (pc' := 17) rfl ?_
                refine s_bipush S0 (hb hby dZS_17) (v := (10 : Int32)) rfl (pc' := 19) rfl ?_
                refine s_icmpN S0 (hb hby dZS_19) (by decide) (pc' := 22) rfl ?_
                refine s_iloadN S0 (hb hby dZS_22) rfl (pc' := 23) rfl ?_
                refine s_iloadN S0 (hb hby dZS_23) rfl (pc' := 24) rfl ?_
                refine g_icmp S0 (hb hby dZS_24) (by decide) (pcT := 31) (by decide) (fun q => ?_) (fun q => ?_)
                · have hc24_177 : ¬ (-10000000 : Int32) < y170 := icT_le q
                  show Go p e below _ (T0.setTop (mkF m 31 #[.val (.int y170), .val (.int (0 : Int32)), .val (.int (-10000000 : Int32)), .val (.int (7 : Int32))] []))
                  refine s_bipush S0 (hb hby dZS_31) (v := (10 : Int32)) rfl (pc' := 33) rfl ?_
                  refine s_iloadN S0 (hb hby dZS_33) rfl (pc' := 34) rfl ?_
                  refine s_imul S0 (hb hby dZS_34) (z := (-100000000 : Int32)) rfl (pc' := 35) rfl ?_
                  refine s_istoreN S0 (hb hby dZS_35) (L' := #[.val (.int y170), .val (.int (0 : Int32)), .val (.int (-100000000 : Int32)), .val (.int (7 : Int32))]) rfl (pc' := 36) rfl ?_
                  refine s_iinc S0 (hb hby dZS_36) rfl (z := (8 : Int32)) rfl (L' := #[.val (.int y170), .val (.int (0 : Int32)), .val (.int (-100000000 : Int32)), .val (.int (8 : Int32))]) rfl (pc' := 39) rfl ?_
                  refine s_goto S0 (hb hby dZS_39) (by decide) (pcT := 16) (by decide) ?_
                  refine s_iloadN S0 (hb hby dZS_16) rfl (pc' := 17) rfl ?_
                  refine s_bipush S0 (hb hby dZS_17) (v := (10 : Int32)) rfl (pc' := 19) rfl ?_
                  refine s_icmpN S0 (hb hby dZS_19) (by decide) (pc' := 22) rfl ?_
                  refine s_iloadN S0 (hb hby dZS_22) rfl (pc' := 23) rfl ?_
                  refine s_iloadN S0 (hb hby dZS_23) rfl (pc' := 24) rfl ?_
                  refine g_icmp S0 (hb hby dZS_24) (by decide) (pcT := 31) (by decide) (fun q => ?_) (fun q => ?_)
                  · have hc24_178 : ¬ (-100000000 : Int32) < y170 := icT_le q
                    show Go p e below _ (T0.setTop (mkF m 31 #[.val (.int y170), .val (.int (0 : Int32)), .val (.int (-100000000 : Int32)), .val (.int (8 : Int32))] []))
                    refine s_bipush S0 (hb hby dZS_31) (v := (10 : Int32)) rfl (pc' := 33) rfl ?_
                    refine s_iloadN S0 (hb hby dZS_33) rfl (pc' := 34) rfl ?_
                    refine s_imul S0 (hb hby dZS_34) (z := (-1000000000 : Int32)) rfl (pc' := 35) rfl ?_
                    refine s_istoreN S0 (hb hby dZS_35) (L' := #[.val (.int y170), .val (.int (0 : Int32)), .val (.int (-1000000000 : Int32)), .val (.int (8 : Int32))]) rfl (pc' := 36) rfl ?_
                    refine s_iinc S0 (hb hby dZS_36) rfl (z := (9 : Int32)) rfl (L' := #[.val (.int y170), .val (.int (0 : Int32)), .val (.int (-1000000000 : Int32)), .val (.int (9 : Int32))]) rfl (pc' := 39) rfl ?_
                    refine s_goto S0 (hb hby dZS_39) (by decide) (pcT := 16) (by decide) ?_
                    refine s_iloadN S0 (hb hby dZS_16) rfl (pc' := 17) rfl ?_
                    refine s_bipush S0 (hb hby dZS_17) (v := (10 : Int32)) rfl (pc' := 19) rfl ?_
                    refine s_icmpN S0 (hb hby dZS_19) (by decide) (pc' := 22) rfl ?_
                    refine s_iloadN S0 (hb hby dZS_22) rfl (pc' := 23) rfl ?_
                    refine s_iloadN S0 (hb hby dZS_23) rfl (pc' := 24) rfl ?_
                    refine g_icmp S0 (hb hby dZS_24) (by decide) (pcT := 31) (by decide) (fun q => ?_) (fun q => ?_)
                    · have hc24_179 : ¬ (-1000000000 : Int32) < y170 := icT_le q
                      show Go p e below _ (T0.setTop (mkF m 31 #[.val (.int y170), .val (.int (0 : Int32)), .val (.int (-1000000000 : Int32)), .val (.int (9 : Int32))] []))
                      refine s_bipush S0 (hb hby dZS_31) (v := (10 : Int32)) rfl (pc' := 33) rfl ?_
                      refine s_iloadN S0 (hb hby dZS_33) rfl (pc' := 34) rfl ?_
                      refine s_imul S0 (hb hby dZS_34) (z := (-1410065408 : Int32)) rfl (pc' := 35) rfl ?_
                      refine s_istoreN S0 (hb hby dZS_35) (L' := #[.val (.int y170), .val (.int (0 : Int32)), .val (.int (-1410065408 : Int32)), .val (.int (9 : Int32))]) rfl (pc' := 36) rfl ?_
                      refine s_iinc S0 (hb hby dZS_36) rfl (z := (10 : Int32)) rfl (L' := #[.val (.int y170), .val (.int (0 : Int32)), .val (.int (-1410065408 : Int32)), .val (.int (10 : Int32))]) rfl (pc' := 39) rfl ?_
                      refine s_goto S0 (hb hby dZS_39) (by decide) (pcT := 16) (by decide) ?_
                      refine s_iloadN S0 (hb hby dZS_16) rfl (pc' := 17) rfl ?_
                      refine s_bipush S0 (hb hby dZS_17) (v := (10 : Int32)) rfl (pc' := 19) rfl ?_
                      refine s_icmpY S0 (hb hby dZS_19) (by decide) (by decide) (pcT := 42) (by decide) ?_
                      refine s_bipush S0 (hb hby dZS_42) (v := (10 : Int32)) rfl (pc' := 44) rfl ?_
                      refine s_iloadN S0 (hb hby dZS_44) rfl (pc' := 45) rfl ?_
                      refine s_iadd S0 (hb hby dZS_45) (z := (10 : Int32)) rfl (pc' := 46) rfl ?_
                      show Go p e below _ (T0.setTop (mkF m 46 #[.val (.int y170), .val (.int (0 : Int32)), .val (.int (-1410065408 : Int32)), .val (.int (10 : Int32))] [(.int (10 : Int32))]))
                      have m_ := x.toInt.natAbs
                      rw [Int32.lt_iff_toInt_lt] at hc3_160
                      rw [Int32.lt_iff_toInt_lt] at hc24_171
                      rw [Int32.lt_iff_toInt_lt] at hc24_172
                      rw [Int32.lt_iff_toInt_lt] at hc24_173
                      rw [Int32.lt_iff_toInt_lt] at hc24_174
                      rw [Int32.lt_iff_toInt_lt] at hc24_175
                      rw [Int32.lt_iff_toInt_lt] at hc24_176
                      rw [Int32.lt_iff_toInt_lt] at hc24_177
                      rw [Int32.lt_iff_toInt_lt] at hc24_178
                      rw [Int32.lt_iff_toInt_lt] at hc24_179
                      have q0 : ((-10 : Int32) : Int32).toInt = -10 := rfl
                      have q1 : ((-100 : Int32) : Int32).toInt = -100 := rfl
                      have q2 : ((-1000 : Int32) : Int32).toInt = -1000 := rfl
                      have q3 : ((-10000 : Int32) : Int32).toInt = -10000 := rfl
                      have q4 : ((-100000 : Int32) : Int32).toInt = -100000 := rfl
                      have q5 : ((-1000000 : Int32) : Int32).toInt = -1000000 := rfl
                      have q6 : ((-10000000 : Int32) : Int32).toInt = -10000000 := rfl
                      have q7 : ((-100000000 : Int32) : Int32).toInt = -100000000 := rfl
                      have q8 : ((-1000000000 : Int32) : Int32).toInt = -1000000000 := rfl
                      have q9 : ((0 : Int32) : Int32).toInt = 0 := rfl
                      have qy := c_ineg x
                      rw [ey170] at qy
                      have qz := rng32 y170
                      exact g_iret S0 (hb hby dZS_46) hret ⟨10, ⟨by decide, by decide, by show x.toInt.natAbs < 10000000000; omega, Or.inr (by show 1000000000 ≤ x.toInt.natAbs; omega)⟩, by rw [decC_len, if_neg (by rw [Int32.lt_iff_toInt_lt]; omega)]; rfl, rfl⟩
                    · have hc24_179 : (-1000000000 : Int32) < y170 := icF_le q
                      show Go p e below _ (T0.setTop (mkF m 27 #[.val (.int y170), .val (.int (0 : Int32)), .val (.int (-1000000000 : Int32)), .val (.int (9 : Int32))] []))
                      refine s_iloadN S0 (hb hby dZS_27) rfl (pc' := 28) rfl ?_
                      refine s_iloadN S0 (hb hby dZS_28) rfl (pc' := 29) rfl ?_
                      refine s_iadd S0 (hb hby dZS_29) (z := (9 : Int32)) rfl (pc' := 30) rfl ?_
                      show Go p e below _ (T0.setTop (mkF m 30 #[.val (.int y170), .val (.int (0 : Int32)), .val (.int (-1000000000 : Int32)), .val (.int (9 : Int32))] [(.int (9 : Int32))]))
                      have m_ := x.toInt.natAbs
                      rw [Int32.lt_iff_toInt_lt] at hc3_160
                      rw [Int32.lt_iff_toInt_lt] at hc24_171
                      rw [Int32.lt_iff_toInt_lt] at hc24_172
                      rw [Int32.lt_iff_toInt_lt] at hc24_173
                      rw [Int32.lt_iff_toInt_lt] at hc24_174
                      rw [Int32.lt_iff_toInt_lt] at hc24_175
                      rw [Int32.lt_iff_toInt_lt] at hc24_176
                      rw [Int32.lt_iff_toInt_lt] at hc24_177
                      rw [Int32.lt_iff_toInt_lt] at hc24_178
                      rw [Int32.lt_iff_toInt_lt] at hc24_179
                      have q0 : ((-10 : Int32) : Int32).toInt = -10 := rfl
                      have q1 : ((-100 : Int32) : Int32).toInt = -100 := rfl
                      have q2 : ((-1000 : Int32) : Int32).toInt = -1000 := rfl
                      have q3 : ((-10000 : Int32) : Int32).toInt = -10000 := rfl
                      have q4 : ((-100000 : Int32) : Int32).toInt = -100000 := rfl
                      have q5 : ((-1000000 : Int32) : Int32).toInt = -1000000 := rfl
                      have q6 : ((-10000000 : Int32) : Int32).toInt = -10000000 := rfl
                      have q7 : ((-100000000 : Int32) : Int32).toInt = -100000000 := rfl
                      have q8 : ((-1000000000 : Int32) : Int32).toInt = -1000000000 := rfl
                      have q9 : ((0 : Int32) : Int32).toInt = 0 := rfl
                      have qy := c_ineg x
                      rw [ey170] at qy
                      have qz := rng32 y170
                      exact g_iret S0 (hb hby dZS_30) hret ⟨9, ⟨by decide, by decide, by show x.toInt.natAbs < 1000000000; omega, Or.inr (by show 100000000 ≤ x.toInt.natAbs; omega)⟩, by rw [decC_len, if_neg (by rw [Int32.lt_iff_toInt_lt]; omega)]; rfl, rfl⟩
                  · have hc24_178 : (-100000000 : Int32) < y170 := icF_le q
                    show Go p e below _ (T0.setTop (mkF m 27 #[.val (.int y170), .val (.int (0 : Int32)), .val (.int (-100000000 : Int32)), .val (.int (8 : Int32))] []))
                    refine s_iloadN S0 (hb hby dZS_27) rfl (pc' := 28) rfl ?_
                    refine s_iloadN S0 (hb hby dZS_28) rfl (pc' := 29) rfl ?_
                    refine s_iadd S0 (hb hby dZS_29) (z := (8 : Int32)) rfl (pc' := 30) rfl ?_
                    show Go p e below _ (T0.setTop (mkF m 30 #[.val (.int y170), .val (.int (0 : Int32)), .val (.int (-100000000 : Int32)), .val (.int (8 : Int32))] [(.int (8 : Int32))]))
                    have m_ := x.toInt.natAbs
                    rw [Int32.lt_iff_toInt_lt] at hc3_160
                    rw [Int32.lt_iff_toInt_lt] at hc24_171
                    rw [Int32.lt_iff_toInt_lt] at hc24_172
                    rw [Int32.lt_iff_toInt_lt] at hc24_173
                    rw [Int32.lt_iff_toInt_lt] at hc24_174
                    rw [Int32.lt_iff_toInt_lt] at hc24_175
                    rw [Int32.lt_iff_toInt_lt] at hc24_176
                    rw [Int32.lt_iff_toInt_lt] at hc24_177
                    rw [Int32.lt_iff_toInt_lt] at hc24_178
                    have q0 : ((-10 : Int32) : Int32).toInt = -10 := rfl
                    have q1 : ((-100 : Int32) : Int32).toInt = -100 := rfl
                    have q2 : ((-1000 : Int32) : Int32).toInt = -1000 := rfl
                    have q3 : ((-10000 : Int32) : Int32).toInt = -10000 := rfl
                    have q4 : ((-100000 : Int32) : Int32).toInt = -100000 := rfl
                    have q5 : ((-1000000 : Int32) : Int32).toInt = -1000000 := rfl
                    have q6 : ((-10000000 : Int32) : Int32).toInt = -10000000 := rfl
                    have q7 : ((-100000000 : Int32) : Int32).toInt = -100000000 := rfl
                    have q8 : ((0 : Int32) : Int32).toInt = 0 := rfl
                    have qy := c_ineg x
                    rw [ey170] at qy
                    have qz := rng32 y170
                    exact g_iret S0 (hb hby dZS_30) hret ⟨8, ⟨by decide, by decide, by show x.toInt.natAbs < 100000000; omega, Or.inr (by show 10000000 ≤ x.toInt.natAbs; omega)⟩, by rw [decC_len, if_neg (by rw [Int32.lt_iff_toInt_lt]; omega)]; rfl, rfl⟩
                · have hc24_177 : (-10000000 : Int32) < y170 := icF_le q
                  show Go p e below _ (T0.setTop (mkF m 27 #[.val (.int y170), .val (.int (0 : Int32)), .val (.int (-10000000 : Int32)), .val (.int (7 : Int32))] []))
                  refine s_iloadN S0 (hb hby dZS_27) rfl (pc' := 28) rfl ?_
                  refine s_iloadN S0 (hb hby dZS_28) rfl (pc' := 29) rfl ?_
                  refine s_iadd S0 (hb hby dZS_29) (z := (7 : Int32)) rfl (pc' := 30) rfl ?_
                  show Go p e below _ (T0.setTop (mkF m 30 #[.val (.int y170), .val (.int (0 : Int32)), .val (.int (-10000000 : Int32)), .val (.int (7 : Int32))] [(.int (7 : Int32))]))
                  have m_ := x.toInt.natAbs
                  rw [Int32.lt_iff_toInt_lt] at hc3_160
                  rw [Int32.lt_iff_toInt_lt] at hc24_171
                  rw [Int32.lt_iff_toInt_lt] at hc24_172
                  rw [Int32.lt_iff_toInt_lt] at hc24_173
                  rw [Int32.lt_iff_toInt_lt] at hc24_174
                  rw [Int32.lt_iff_toInt_lt] at hc24_175
                  rw [Int32.lt_iff_toInt_lt] at hc24_176
                  rw [Int32.lt_iff_toInt_lt] at hc24_177
                  have q0 : ((-10 : Int32) : Int32).toInt = -10 := rfl
                  have q1 : ((-100 : Int32) : Int32).toInt = -100 := rfl
                  have q2 : ((-1000 : Int32) : Int32).toInt = -1000 := rfl
                  have q3 : ((-10000 : Int32) : Int32).toInt = -10000 := rfl
                  have q4 : ((-100000 : Int32) : Int32).toInt = -100000 := rfl
                  have q5 : ((-1000000 : Int32) : Int32).toInt = -1000000 := rfl
                  have q6 : ((-10000000 : Int32) : Int32).toInt = -10000000 := rfl
                  have q7 : ((0 : Int32) : Int32).toInt = 0 := rfl
                  have qy := c_ineg x
                  rw [ey170] at qy
                  have qz := rng32 y170
                  exact g_iret S0 (hb hby dZS_30) hret ⟨7, ⟨by decide, by decide, by show x.toInt.natAbs < 10000000; omega, Or.inr (by show 1000000 ≤ x.toInt.natAbs; omega)⟩, by rw [decC_len, if_neg (by rw [Int32.lt_iff_toInt_lt]; omega)]; rfl, rfl⟩
              · have hc24_176 : (-1000000 : Int32) < y170 := icF_le q
                show Go p e below _ (T0.setTop (mkF m 27 #[.val (.int y170), .val (.int (0 : Int32)), .val (.int (-1000000 : Int32)), .val (.int (6 : Int32))] []))
                refine s_iloadN S0 (hb hby dZS_27) rfl (pc' := 28) rfl ?_
                refine s_iloadN S0 (hb hby dZS_28) rfl (pc' := 29) rfl ?_
                refine s_iadd S0 (hb hby dZS_29) (z := (6 : Int32)) rfl (pc' := 30) rfl ?_
                show Go p e below _ (T0.setTop (mkF m 30 #[.val (.int y170), .val (.int (0 : Int32)), .val (.int (-1000000 : Int32)), .val (.int (6 : Int32))] [(.int (6 : Int32))]))
                have m_ := x.toInt.natAbs
                rw [Int32.lt_iff_toInt_lt] at hc3_160
                rw [Int32.lt_iff_toInt_lt] at hc24_171
                rw [Int32.lt_iff_toInt_lt] at hc24_172
                rw [Int32.lt_iff_toInt_lt] at hc24_173
                rw [Int32.lt_iff_toInt_lt] at hc24_174
                rw [Int32.lt_iff_toInt_lt] at hc24_175
                rw [Int32.lt_iff_toInt_lt] at hc24_176
                have q0 : ((-10 : Int32) : Int32).toInt = -10 := rfl
                have q1 : ((-100 : Int32) : Int32).toInt = -100 := rfl
                have q2 : ((-1000 : Int32) : Int32).toInt = -1000 := rfl
                have q3 : ((-10000 : Int32) : Int32).toInt = -10000 := rfl
                have q4 : ((-100000 : Int32) : Int32).toInt = -100000 := rfl
                have q5 : ((-1000000 : Int32) : Int32).toInt = -1000000 := rfl
                have q6 : ((0 : Int32) : Int32).toInt = 0 := rfl
                have qy := c_ineg x
                rw [ey170] at qy
                have qz := rng32 y170
                exact g_iret S0 (hb hby dZS_30) hret ⟨6, ⟨by decide, by decide, by show x.toInt.natAbs < 1000000; omega, Or.inr (by show 100000 ≤ x.toInt.natAbs; omega)⟩, by rw [decC_len, if_neg (by rw [Int32.lt_iff_toInt_lt]; omega)]; rfl, rfl⟩
            · have hc24_175 : (-100000 : Int32) < y170 := icF_le q
              show Go p e below _ (T0.setTop (mkF m 27 #[.val (.int y170), .val (.int (0 : Int32)), .val (.int (-100000 : Int32)), .val (.int (5 : Int32))] []))
              refine s_iloadN S0 (hb hby dZS_27) rfl (pc' := 28) rfl ?_
              refine s_iloadN S0 (hb hby dZS_28) rfl (pc' := 29) rfl ?_
              refine s_iadd S0 (hb hby dZS_29) (z := (5 : Int32)) rfl (pc' := 30) rfl ?_
              show Go p e below _ (T0.setTop (mkF m 30 #[.val (.int y170), .val (.int (0 : Int32)), .val (.int (-100000 : Int32)), .val (.int (5 : Int32))] [(.int (5 : Int32))]))
              have m_ := x.toInt.natAbs
              rw [Int32.lt_iff_toInt_lt] at hc3_160
              rw [Int32.lt_iff_toInt_lt] at hc24_171
              rw [Int32.lt_iff_toInt_lt] at hc24_172
              rw [Int32.lt_iff_toInt_lt] at hc24_173
              rw [Int32.lt_iff_toInt_lt] at hc24_174
              rw [Int32.lt_iff_toInt_lt] at hc24_175
              have q0 : ((-10 : Int32) : Int32).toInt = -10 := rfl
              have q1 : ((-100 : Int32) : Int32).toInt = -100 := rfl
              have q2 : ((-1000 : Int32) : Int32).toInt = -1000 := rfl
              have q3 : ((-10000 : Int32) : Int32).toInt = -10000 := rfl
              have q4 : ((-100000 : Int32) : Int32).toInt = -100000 := rfl
              have q5 : ((0 : Int32) : Int32).toInt = 0 := rfl
              have qy := c_ineg x
              rw [ey170] at qy
              have qz := rng32 y170
              exact g_iret S0 (hb hby dZS_30) hret ⟨5, ⟨by decide, by decide, by show x.toInt.natAbs < 100000; omega, Or.inr (by show 10000 ≤ x.toInt.natAbs; omega)⟩, by rw [decC_len, if_neg (by rw [Int32.lt_iff_toInt_lt]; omega)]; rfl, rfl⟩
          · have hc24_174 : (-10000 : Int32) < y170 := icF_le q
            show Go p e below _ (T0.setTop (mkF m 27 #[.val (.int y170), .val (.int (0 : Int32)), .val (.int (-10000 : Int32)), .val (.int (4 : Int32))] []))
            refine s_iloadN S0 (hb hby dZS_27) rfl (pc' := 28) rfl ?_
            refine s_iloadN S0 (hb hby dZS_28) rfl (pc' := 29) rfl ?_
            refine s_iadd S0 (hb hby dZS_29) (z := (4 : Int32)) rfl (pc' := 30) rfl ?_
            show Go p e below _ (T0.setTop (mkF m 30 #[.val (.int y170), .val (.int (0 : Int32)), .val (.int (-10000 : Int32)), .val (.int (4 : Int32))] [(.int (4 : Int32))]))
            have m_ := x.toInt.natAbs
            rw [Int32.lt_iff_toInt_lt] at hc3_160
            rw [Int32.lt_iff_toInt_lt] at hc24_171
            rw [Int32.lt_iff_toInt_lt] at hc24_172
            rw [Int32.lt_iff_toInt_lt] at hc24_173
            rw [Int32.lt_iff_toInt_lt] at hc24_174
            have q0 : ((-10 : Int32) : Int32).toInt = -10 := rfl
            have q1 : ((-100 : Int32) : Int32).toInt = -100 := rfl
            have q2 : ((-1000 : Int32) : Int32).toInt = -1000 := rfl
            have q3 : ((-10000 : Int32) : Int32).toInt = -10000 := rfl
            have q4 : ((0 : Int32) : Int32).toInt = 0 := rfl
            have qy := c_ineg x
            rw [ey170] at qy
            have qz := rng32 y170
            exact g_iret S0 (hb hby dZS_30) hret ⟨4, ⟨by decide, by decide, by show x.toInt.natAbs < 10000; omega, Or.inr (by show 1000 ≤ x.toInt.natAbs; omega)⟩, by rw [decC_len, if_neg (by rw [Int32.lt_iff_toInt_lt]; omega)]; rfl, rfl⟩
        · have hc24_173 : (-1000 : Int32) < y170 := icF_le q
          show Go p e below _ (T0.setTop (mkF m 27 #[.val (.int y170), .val (.int (0 : Int32)), .val (.int (-1000 : Int32)), .val (.int (3 : Int32))] []))
          refine s_iloadN S0 (hb hby dZS_27) rfl (pc' := 28) rfl ?_
          refine s_iloadN S0 (hb hby dZS_28) rfl (pc' := 29) rfl ?_
          refine s_iadd S0 (hb hby dZS_29) (z := (3 : Int32)) rfl (pc' := 30) rfl ?_
          show Go p e below _ (T0.setTop (mkF m 30 #[.val (.int y170), .val (.int (0 : Int32)), .val (.int (-1000 : Int32)), .val (.int (3 : Int32))] [(.int (3 : Int32))]))
          have m_ := x.toInt.natAbs
          rw [Int32.lt_iff_toInt_lt] at hc3_160
          rw [Int32.lt_iff_toInt_lt] at hc24_171
          rw [Int32.lt_iff_toInt_lt] at hc24_172
          rw [Int32.lt_iff_toInt_lt] at hc24_173
          have q0 : ((-10 : Int32) : Int32).toInt = -10 := rfl
          have q1 : ((-100 : Int32) : Int32).toInt = -100 := rfl
          have q2 : ((-1000 : Int32) : Int32).toInt = -1000 := rfl
          have q3 : ((0 : Int32) : Int32).toInt = 0 := rfl
          have qy := c_ineg x
          rw [ey170] at qy
          have qz := rng32 y170
          exact g_iret S0 (hb hby dZS_30) hret ⟨3, ⟨by decide, by decide, by show x.toInt.natAbs < 1000; omega, Or.inr (by show 100 ≤ x.toInt.natAbs; omega)⟩, by rw [decC_len, if_neg (by rw [Int32.lt_iff_toInt_lt]; omega)]; rfl, rfl⟩
      · have hc24_172 : (-100 : Int32) < y170 := icF_le q
        show Go p e below _ (T0.setTop (mkF m 27 #[.val (.int y170), .val (.int (0 : Int32)), .val (.int (-100 : Int32)), .val (.int (2 : Int32))] []))
        refine s_iloadN S0 (hb hby dZS_27) rfl (pc' := 28) rfl ?_
        refine s_iloadN S0 (hb hby dZS_28) rfl (pc' := 29) rfl ?_
        refine s_iadd S0 (hb hby dZS_29) (z := (2 : Int32)) rfl (pc' := 30) rfl ?_
        show Go p e below _ (T0.setTop (mkF m 30 #[.val (.int y170), .val (.int (0 : Int32)), .val (.int (-100 : Int32)), .val (.int (2 : Int32))] [(.int (2 : Int32))]))
        have m_ := x.toInt.natAbs
        rw [Int32.lt_iff_toInt_lt] at hc3_160
        rw [Int32.lt_iff_toInt_lt] at hc24_171
        rw [Int32.lt_iff_toInt_lt] at hc24_172
        have q0 : ((-10 : Int32) : Int32).toInt = -10 := rfl
        have q1 : ((-100 : Int32) : Int32).toInt = -100 := rfl
        have q2 : ((0 : Int32) : Int32).toInt = 0 := rfl
        have qy := c_ineg x
        rw [ey170] at qy
        have qz := rng32 y170
        exact g_iret S0 (hb hby dZS_30) hret ⟨2, ⟨by decide, by decide, by show x.toInt.natAbs < 100; omega, Or.inr (by show 10 ≤ x.toInt.natAbs; omega)⟩, by rw [decC_len, if_neg (by rw [Int32.lt_iff_toInt_lt]; omega)]; rfl, rfl⟩
    · have hc24_171 : (-10 : Int32) < y170 := icF_le q
      show Go p e below _ (T0.setTop (mkF m 27 #[.val (.int y170), .val (.int (0 : Int32)), .val (.int (-10 : Int32)), .val (.int (1 : Int32))] []))
      refine s_iloadN S0 (hb hby dZS_27) rfl (pc' := 28) rfl ?_
      refine s_iloadN S0 (hb hby dZS_28) rfl (pc' := 29) rfl ?_
      refine s_iadd S0 (hb hby dZS_29) (z := (1 : Int32)) rfl (pc' := 30) rfl ?_
      show Go p e below _ (T0.setTop (mkF m 30 #[.val (.int y170), .val (.int (0 : Int32)), .val (.int (-10 : Int32)), .val (.int (1 : Int32))] [(.int (1 : Int32))]))
      have m_ := x.toInt.natAbs
      rw [Int32.lt_iff_toInt_lt] at hc3_160
      rw [Int32.lt_iff_toInt_lt] at hc24_171
      have q0 : ((-10 : Int32) : Int32).toInt = -10 := rfl
      have q1 : ((0 : Int32) : Int32).toInt = 0 := rfl
      have qy := c_ineg x
      rw [ey170] at qy
      have qz := rng32 y170
      exact g_iret S0 (hb hby dZS_30) hret ⟨1, ⟨by decide, by decide, by show x.toInt.natAbs < 10; omega, Or.inl rfl⟩, by rw [decC_len, if_neg (by rw [Int32.lt_iff_toInt_lt]; omega)]; rfl, rfl⟩
theorem dGC_0 : decode jdk_33_method_12_code 0 = .ok (.iload_n 1, 1) := by decide +kernel
theorem dGC_1 : decode jdk_33_method_12_code 1 = .ok (.istore 5, 2) := by decide +kernel
theorem dGC_3 : decode jdk_33_method_12_code 3 = .ok (.iload_n 0, 1) := by decide +kernel
theorem dGC_4 : decode jdk_33_method_12_code 4 = .ok (.ifCond .ge 7, 3) := by decide +kernel
theorem dGC_7 : decode jdk_33_method_12_code 7 = .ok (.iconst 1, 1) := by decide +kernel
theorem dGC_8 : decode jdk_33_method_12_code 8 = .ok (.goto 4, 3) := by decide +kernel
theorem dGC_11 : decode jdk_33_method_12_code 11 = .ok (.iconst 0, 1) := by decide +kernel
theorem dGC_12 : decode jdk_33_method_12_code 12 = .ok (.istore 6, 2) := by decide +kernel
theorem dGC_14 : decode jdk_33_method_12_code 14 = .ok (.iload 6, 2) := by decide +kernel
theorem dGC_16 : decode jdk_33_method_12_code 16 = .ok (.ifCond .ne 6, 3) := by decide +kernel
theorem dGC_19 : decode jdk_33_method_12_code 19 = .ok (.iload_n 0, 1) := by decide +kernel
theorem dGC_20 : decode jdk_33_method_12_code 20 = .ok (.ineg, 1) := by decide +kernel
theorem dGC_21 : decode jdk_33_method_12_code 21 = .ok (.istore_n 0, 1) := by decide +kernel
theorem dGC_22 : decode jdk_33_method_12_code 22 = .ok (.iload_n 0, 1) := by decide +kernel
theorem dGC_23 : decode jdk_33_method_12_code 23 = .ok (.bipush (-100), 2) := by decide +kernel
theorem dGC_25 : decode jdk_33_method_12_code 25 = .ok (.if_icmp .gt 47, 3) := by decide +kernel
theorem dGC_28 : decode jdk_33_method_12_code 28 = .ok (.iload_n 0, 1) := by decide +kernel
theorem dGC_29 : decode jdk_33_method_12_code 29 = .ok (.bipush 100, 2) := by decide +kernel
theorem dGC_31 : decode jdk_33_method_12_code 31 = .ok (.idiv, 1) := by decide +kernel
theorem dGC_32 : decode jdk_33_method_12_code 32 = .ok (.istore_n 3, 1) := by decide +kernel
theorem dGC_33 : decode jdk_33_method_12_code 33 = .ok (.iload_n 3, 1) := by decide +kernel
theorem dGC_34 : decode jdk_33_method_12_code 34 = .ok (.bipush 100, 2) := by decide +kernel
theorem dGC_36 : decode jdk_33_method_12_code 36 = .ok (.imul, 1) := by decide +kernel
theorem dGC_37 : decode jdk_33_method_12_code 37 = .ok (.iload_n 0, 1) := by decide +kernel
theorem dGC_38 : decode jdk_33_method_12_code 38 = .ok (.isub, 1) := by decide +kernel
theorem dGC_39 : decode jdk_33_method_12_code 39 = .ok (.istore 4, 2) := by decide +kernel
theorem dGC_41 : decode jdk_33_method_12_code 41 = .ok (.iload_n 3, 1) := by decide +kernel
theorem dGC_42 : decode jdk_33_method_12_code 42 = .ok (.istore_n 0, 1) := by decide +kernel
theorem dGC_43 : decode jdk_33_method_12_code 43 = .ok (.aload_n 2, 1) := by decide +kernel
theorem dGC_44 : decode jdk_33_method_12_code 44 = .ok (.iinc 5 (-1), 3) := by decide +kernel
theorem dGC_47 : decode jdk_33_method_12_code 47 = .ok (.iload 5, 2) := by decide +kernel
theorem dGC_49 : decode jdk_33_method_12_code 49 = .ok (.getstatic 83, 3) := by decide +kernel
theorem dGC_52 : decode jdk_33_method_12_code 52 = .ok (.iload 4, 2) := by decide +kernel
theorem dGC_54 : decode jdk_33_method_12_code 54 = .ok (.baload, 1) := by decide +kernel
theorem dGC_55 : decode jdk_33_method_12_code 55 = .ok (.bastore, 1) := by decide +kernel
theorem dGC_56 : decode jdk_33_method_12_code 56 = .ok (.aload_n 2, 1) := by decide +kernel
theorem dGC_57 : decode jdk_33_method_12_code 57 = .ok (.iinc 5 (-1), 3) := by decide +kernel
theorem dGC_60 : decode jdk_33_method_12_code 60 = .ok (.iload 5, 2) := by decide +kernel
theorem dGC_62 : decode jdk_33_method_12_code 62 = .ok (.getstatic 87, 3) := by decide +kernel
theorem dGC_65 : decode jdk_33_method_12_code 65 = .ok (.iload 4, 2) := by decide +kernel
theorem dGC_67 : decode jdk_33_method_12_code 67 = .ok (.baload, 1) := by decide +kernel
theorem dGC_68 : decode jdk_33_method_12_code 68 = .ok (.bastore, 1) := by decide +kernel
theorem dGC_69 : decode jdk_33_method_12_code 69 = .ok (.goto (-47), 3) := by decide +kernel
theorem dGC_72 : decode jdk_33_method_12_code 72 = .ok (.aload_n 2, 1) := by decide +kernel
theorem dGC_73 : decode jdk_33_method_12_code 73 = .ok (.iinc 5 (-1), 3) := by decide +kernel
theorem dGC_76 : decode jdk_33_method_12_code 76 = .ok (.iload 5, 2) := by decide +kernel
theorem dGC_78 : decode jdk_33_method_12_code 78 = .ok (.getstatic 83, 3) := by decide +kernel
theorem dGC_81 : decode jdk_33_method_12_code 81 = .ok (.iload_n 0, 1) := by decide +kernel
theorem dGC_82 : decode jdk_33_method_12_code 82 = .ok (.ineg, 1) := by decide +kernel
theorem dGC_83 : decode jdk_33_method_12_code 83 = .ok (.baload, 1) := by decide +kernel
theorem dGC_84 : decode jdk_33_method_12_code 84 = .ok (.bastore, 1) := by decide +kernel
theorem dGC_85 : decode jdk_33_method_12_code 85 = .ok (.iload_n 0, 1) := by decide +kernel
theorem dGC_86 : decode jdk_33_method_12_code 86 = .ok (.bipush (-9), 2) := by decide +kernel
theorem dGC_88 : decode jdk_33_method_12_code 88 = .ok (.if_icmp .ge 16, 3) := by decide +kernel
theorem dGC_91 : decode jdk_33_method_12_code 91 = .ok (.aload_n 2, 1) := by decide +kernel
theorem dGC_92 : decode jdk_33_method_12_code 92 = .ok (.iinc 5 (-1), 3) := by decide +kernel
theorem dGC_95 : decode jdk_33_method_12_code 95 = .ok (.iload 5, 2) := by decide +kernel
theorem dGC_97 : decode jdk_33_method_12_code 97 = .ok (.getstatic 87, 3) := by decide +kernel
theorem dGC_100 : decode jdk_33_method_12_code 100 = .ok (.iload_n 0, 1) := by decide +kernel
theorem dGC_101 : decode jdk_33_method_12_code 101 = .ok (.ineg, 1) := by decide +kernel
theorem dGC_102 : decode jdk_33_method_12_code 102 = .ok (.baload, 1) := by decide +kernel
theorem dGC_103 : decode jdk_33_method_12_code 103 = .ok (.bastore, 1) := by decide +kernel
theorem dGC_104 : decode jdk_33_method_12_code 104 = .ok (.iload 6, 2) := by decide +kernel
theorem dGC_106 : decode jdk_33_method_12_code 106 = .ok (.ifCond .eq 12, 3) := by decide +kernel
theorem dGC_109 : decode jdk_33_method_12_code 109 = .ok (.aload_n 2, 1) := by decide +kernel
theorem dGC_110 : decode jdk_33_method_12_code 110 = .ok (.iinc 5 (-1), 3) := by decide +kernel
theorem dGC_113 : decode jdk_33_method_12_code 113 = .ok (.iload 5, 2) := by decide +kernel
theorem dGC_115 : decode jdk_33_method_12_code 115 = .ok (.bipush 45, 2) := by decide +kernel
theorem dGC_117 : decode jdk_33_method_12_code 117 = .ok (.bastore, 1) := by decide +kernel
theorem dGC_118 : decode jdk_33_method_12_code 118 = .ok (.iload 5, 2) := by decide +kernel
theorem dGC_120 : decode jdk_33_method_12_code 120 = .ok (.ireturn, 1) := by decide +kernel
set_option maxRecDepth 65536 in
set_option maxHeartbeats 40000000 in
theorem rmGC {l : Launch} {Z : State} {a0 : Array Value} {n0 : Nat} (X : Ctx Z a0) {tb : Addr} {kb : ClassId} {bs : List Value} (x : Int32) {P nd I : Nat} (nb : n0 ≤ tb) {h : Heap} (hO : Old Z n0 h) (Vb : Arv Z h tb kb .byte (Int32.ofNat bs.length) bs (.int (0 : Int32))) (hnd : Nd x.toInt.natAbs nd) (hI : I = P + (decC x nd).length) (hIb : I ≤ bs.length) (hbs : bs.length ≤ 1000) :
    Ctr l Z EL1 n0 (⟨"java/lang/Integer", "getChars", "(II[B)I"⟩ : MethodName) jdk_33_method_12_code 7 (some .int) ({ frames := 0, cells := 0, slots := 0, locals := 0 } : Room) #[(.int x), (.int (Int32.ofNat I)), (.ref tb)] h [tb] (fun v h' => v = some (.int (Int32.ofNat P)) ∧ Keep h h' [tb] ∧ Arv Z h' tb kb .byte (Int32.ofNat bs.length) (bs.take P ++ bz (decC x nd) ++ bs.drop I) (.int (0 : Int32))) := by
  have hw := X.hw
  obtain ⟨z1, hz1, hz2⟩ := X.2.2.1
  refine Ctr.intro (a0 := a0) (plainFor_of_name pn5) hO X.ew ?_
  intro p e s m below meth c T0 V0 S0 hby hml hret hnm hsf
  rw [ef11]
  obtain ⟨nd1, nd2, nd3, nd4⟩ := hnd
  have mle := abs_le x
  have lI : I ≤ 100000 := by omega
  have lI2 : nd ≤ I := by rw [hI, decC_len]; omega
  obtain ⟨⟨aO, kO, hO_, VO⟩, aT, kT, hT_, VT⟩ := X.2.2.2.2
  have KE : ∀ (i ng : Int32) (s3 s4 : Slot) (T1 : State) (V1 : Vm) (h1 : Heap), ((ng = 1 ∧ x < 0) ∨ (ng = 0 ∧ ¬ x < 0)) → St p l e ({ frames := 0, cells := 0, slots := 0, locals := 0 } : Room) s m #[(.int x), (.int (Int32.ofNat I)), (.ref tb)] below meth c Z a0 EL1 n0 "java/lang/Integer" T1 V1 h1 0 0 → Keep h h1 [tb] → Safe Z EL1 V1 h1 tb → Arv Z h1 tb kb .byte (Int32.ofNat bs.length) (gcB bs x.toInt.natAbs I nd) (.int (0 : Int32)) → Go p e below (Fini Z EL1 n0 s ({ frames := 0, cells := 0, slots := 0, locals := 0 } : Room) (fun v h' => v = some (.int (Int32.ofNat P)) ∧ Keep h h' [tb] ∧ Arv Z h' tb kb .byte (Int32.ofNat bs.length) (bs.take P ++ bz (decC x nd) ++ bs.drop I) (.int (0 : Int32)))) (T1.setTop (mkF m 104 #[.val (.int i), .val (.int (Int32.ofNat I)), .val (.ref tb), s3, s4, .val (.int (Int32.ofNat (I - nd))), .val (.int ng)] [])) := by
    intro i ng s3 s4 T1 V1 h1 hng S1 K1 sf1_ A1
    rcases hng with ⟨rfl, hx⟩ | ⟨rfl, hx⟩
    · skip
      rw [decC_neg hx] at hI ⊢
      have lI3 : I = P + (nd + 1) := by rw [hI]; simp [dl_len]
      show Go p e below _ (T1.setTop (mkF m 104 #[.val (.int i), .val (.int (Int32.ofNat I)), .val (.ref tb), s3, s4, .val (.int (Int32.ofNat (I - nd))), .val (.int (1 : Int32))] []))
      refine s_iload S1 (hb hby dGC_104) rfl (pc' := 106) rfl ?_
      refine s_ifN S1 (hb hby dGC_106) (by decide) (pc' := 109) rfl ?_
      refine s_aloadN S1 (hb hby dGC_109) rfl rfl (pc' := 110) rfl ?_
      refine s_iinc S1 (hb hby dGC_110) rfl (z := (Int32.ofNat P)) ((o_dec (by omega) (by omega)).trans (congrArg Int32.ofNat (by omega))) (L' := #[.val (.int i), .val (.int (Int32.ofNat I)), .val (.ref tb), s3, s4, .val (.int (Int32.ofNat P)), .val (.int (1 : Int32))]) rfl (pc' := 113) rfl ?_
      refine s_iload S1 (hb hby dGC_113) rfl (pc' := 115) rfl ?_
      refine s_bipush S1 (hb hby dGC_115) (v := (45 : Int32)) rfl (pc' := 117) rfl ?_
      show Go p e below _ (T1.setTop (mkF m 117 #[.val (.int i), .val (.int (Int32.ofNat I)), .val (.ref tb), s3, s4, .val (.int (Int32.ofNat P)), .val (.int (1 : Int32))] [(.int (45 : Int32)), (.int (Int32.ofNat P)), (.ref tb)]))
      refine g_bastore S1 A1 ⟨o_nn (by omega), o_lt (by omega) (by omega) (by omega)⟩ P (o_nat (by omega)) (by have := bz_len (dl x.toInt.natAbs nd); have := dl_len x.toInt.natAbs nd; simp only [gcB, List.length_append, List.length_take, List.length_drop]; omega) nb sf1_ (hb hby dGC_117) ?_
      intro T9 h9 S9 K9 V9 sg9
      subst lI3
      replace V9 : Arv Z h9 tb kb .byte (Int32.ofNat bs.length) (bs.take P ++ bz ((45 : Int32) :: dl x.toInt.natAbs nd) ++ bs.drop (P + (nd + 1))) (.int (0 : Int32)) := by rw [← gc_sign (by omega)]; exact V9
      refine s_iload S9 (hb hby dGC_118) rfl (pc' := 120) rfl ?_
      exact g_iret S9 (hb hby dGC_120) hret ⟨rfl, K1.trans K9 (fun y hy => Or.inl hy), V9⟩
    · skip
      rw [decC_pos hx] at hI ⊢
      have lI3 : I = P + nd := by rw [hI]; simp [dl_len]
      show Go p e below _ (T1.setTop (mkF m 104 #[.val (.int i), .val (.int (Int32.ofNat I)), .val (.ref tb), s3, s4, .val (.int (Int32.ofNat (I - nd))), .val (.int (0 : Int32))] []))
      refine s_iload S1 (hb hby dGC_104) rfl (pc' := 106) rfl ?_
      refine s_ifY S1 (hb hby dGC_106) (by decide) (by decide) (pcT := 118) (by decide) ?_
      refine s_iload S1 (hb hby dGC_118) rfl (pc' := 120) rfl ?_
      subst lI3
      exact g_iret S1 (hb hby dGC_120) hret ⟨by rw [Nat.add_sub_cancel], K1, by have q := A1; unfold gcB at q; rw [Nat.add_sub_cancel] at q; exact q⟩
  have KL : ∀ (fu j M : Nat) (i ng : Int32) (s3 s4 : Slot) (T1 : State) (V1 : Vm) (h1 : Heap), ((s3 = .unset ∧ s4 = .unset) ∨ ∃ a b : Int32, s3 = .val (.int a) ∧ s4 = .val (.int b)) → 10 ≤ fu + j → j < nd → M = x.toInt.natAbs / 10 ^ j → i.toInt = -(M : Int) → ((ng = 1 ∧ x < 0) ∨ (ng = 0 ∧ ¬ x < 0)) → St p l e ({ frames := 0, cells := 0, slots := 0, locals := 0 } : Room) s m #[(.int x), (.int (Int32.ofNat I)), (.ref tb)] below meth c Z a0 EL1 n0 "java/lang/Integer" T1 V1 h1 0 0 → Keep h h1 [tb] → Safe Z EL1 V1 h1 tb → Arv Z h1 tb kb .byte (Int32.ofNat bs.length) (gcB bs x.toInt.natAbs I j) (.int (0 : Int32)) → Go p e below (Fini Z EL1 n0 s ({ frames := 0, cells := 0, slots := 0, locals := 0 } : Room) (fun v h' => v = some (.int (Int32.ofNat P)) ∧ Keep h h' [tb] ∧ Arv Z h' tb kb .byte (Int32.ofNat bs.length) (bs.take P ++ bz (decC x nd) ++ bs.drop I) (.int (0 : Int32)))) (T1.setTop (mkF m 22 #[.val (.int i), .val (.int (Int32.ofNat I)), .val (.ref tb), s3, s4, .val (.int (Int32.ofNat (I - j))), .val (.int ng)] [])) := by
    intro fu
    induction fu with
    | zero => intro j M i ng s3 s4 T1 V1 h1 hs34 h10 hj; exact absurd hj (by omega)
    | succ fu ih =>
      intro j M i ng s3 s4 T1 V1 h1 hs34 h10 hj hM hi hng S1 K1 sf1_ A1
      have hMl : M ≤ 2147483648 := by rw [hM]; exact Nat.le_trans (Nat.div_le_self _ _) mle
      have c1 : (-100 : Int32).toInt = -100 := rfl
      have c2 : (-9 : Int32).toInt = -9 := rfl
      show Go p e below _ (T1.setTop (mkF m 22 #[.val (.int i), .val (.int (Int32.ofNat I)), .val (.ref tb), s3, s4, .val (.int (Int32.ofNat (I - j))), .val (.int ng)] []))
      refine s_iloadN S1 (hb hby dGC_22) rfl (pc' := 23) rfl ?_
      refine s_bipush S1 (hb hby dGC_23) (v := (-100 : Int32)) rfl (pc' := 25) rfl ?_
      refine g_icmp S1 (hb hby dGC_25) (by decide) (pcT := 72) (by decide) (fun q => ?_) (fun q => ?_)
      · have hc25_180 : (-100 : Int32) < i := icT_gt q
        rw [Int32.lt_iff_toInt_lt] at hc25_180
        have hM2 : M < 100 := by omega
        show Go p e below _ (T1.setTop (mkF m 72 #[.val (.int i), .val (.int (Int32.ofNat I)), .val (.ref tb), s3, s4, .val (.int (Int32.ofNat (I - j))), .val (.int ng)] []))
        refine s_aloadN S1 (hb hby dGC_72) rfl rfl (pc' := 73) rfl ?_
        refine s_iinc S1 (hb hby dGC_73) rfl (z := (Int32.ofNat (I - (j + 1)))) ((o_dec (by omega) (by omega)).trans (congrArg Int32.ofNat (by omega))) (L' := #[.val (.int i), .val (.int (Int32.ofNat I)), .val (.ref tb), s3, s4, .val (.int (Int32.ofNat (I - (j + 1)))), .val (.int ng)]) rfl (pc' := 76) rfl ?_
        refine s_iload S1 (hb hby dGC_76) rfl (pc' := 78) rfl ?_
        refine g_getS S1 (w148 hw) Via.refl (hO_.ext S1.old.2) (hb hby dGC_78) ?_
        intro T181 ST181
        show Go p e below _ (T181.setTop (mkF m 81 #[.val (.int i), .val (.int (Int32.ofNat I)), .val (.ref tb), s3, s4, .val (.int (Int32.ofNat (I - (j + 1)))), .val (.int ng)] [(.ref aO), (.int (Int32.ofNat (I - (j + 1)))), (.ref tb)]))
        refine s_iloadN ST181 (hb hby dGC_81) rfl (pc' := 82) rfl ?_
        refine s_ineg ST181 (hb hby dGC_82) (z := (Int32.ofNat M)) (gc_neg hi hM2) (pc' := 83) rfl ?_
        show Go p e below _ (T181.setTop (mkF m 83 #[.val (.int i), .val (.int (Int32.ofNat I)), .val (.ref tb), s3, s4, .val (.int (Int32.ofNat (I - (j + 1)))), .val (.int ng)] [(.int (Int32.ofNat M)), (.ref aO), (.int (Int32.ofNat (I - (j + 1)))), (.ref tb)]))
        refine g_baload ST181 (VO.ext ST181.old.2) ⟨o_nn (by omega), o_lt (b := 100) (by omega) (by omega) hM2⟩ (x := (Int32.ofNat (48 + M % 10))) (dOnes_at hM2) (hb hby dGC_83) ?_
        show Go p e below _ (T181.setTop (mkF m 84 #[.val (.int i), .val (.int (Int32.ofNat I)), .val (.ref tb), s3, s4, .val (.int (Int32.ofNat (I - (j + 1)))), .val (.int ng)] [(.int (Int32.ofNat (48 + M % 10))), (.int (Int32.ofNat (I - (j + 1)))), (.ref tb)]))
        show Go p e below _ (T181.setTop (mkF m 84 #[.val (.int i), .val (.int (Int32.ofNat I)), .val (.ref tb), s3, s4, .val (.int (Int32.ofNat (I - (j + 1)))), .val (.int ng)] [(.int (Int32.ofNat (48 + M % 10))), (.int (Int32.ofNat (I - (j + 1)))), (.ref tb)]))
        refine g_bastore ST181 A1 ⟨o_nn (by omega), o_lt (by omega) (by omega) (by omega)⟩ (I - (j + 1)) (o_nat (by omega)) (by have := bz_len (dl x.toInt.natAbs j); have := dl_len x.toInt.natAbs j; simp only [gcB, List.length_append, List.length_take, List.length_drop]; omega) nb sf1_ (hb hby dGC_84) ?_
        intro T182 h182 S182 K182 V182 sg182
        replace V182 : Arv Z h182 tb kb .byte (Int32.ofNat bs.length) (gcB bs x.toInt.natAbs I (j + 1)) (.int (0 : Int32)) := by have q := dl_step (m := x.toInt.natAbs) (j := j) (I := I) (bs := bs) (p := I - (j + 1)) (by omega) (by omega) (Int32.ofNat (48 + M % 10)) (by rw [hM]); show Arv Z h182 tb kb .byte (Int32.ofNat bs.length) (bs.take (I - (j + 1)) ++ bz (dl x.toInt.natAbs (j + 1)) ++ bs.drop I) (.int (0 : Int32)); rw [← q]; exact V182
        have sf183 := Safe.keep K182 (sfS sf1_ sf0) ST181.chv sf1_
        show Go p e below _ (T182.setTop (mkF m 85 #[.val (.int i), .val (.int (Int32.ofNat I)), .val (.ref tb), s3, s4, .val (.int (Int32.ofNat (I - (j + 1)))), .val (.int ng)] []))
        refine s_iloadN S182 (hb hby dGC_85) rfl (pc' := 86) rfl ?_
        refine s_bipush S182 (hb hby dGC_86) (v := (-9 : Int32)) rfl (pc' := 88) rfl ?_
        refine g_icmp S182 (hb hby dGC_88) (by decide) (pcT := 104) (by decide) (fun q => ?_) (fun q => ?_)
        · have hc88_184 : ¬ i < (-9 : Int32) := icT_ge q
          rw [Int32.lt_iff_toInt_lt] at hc88_184
          have hnd_ : nd = j + 1 := nd_ge nd4 hj (by rw [← hM]; omega)
          show Go p e below _ (T182.setTop (mkF m 104 #[.val (.int i), .val (.int (Int32.ofNat I)), .val (.ref tb), s3, s4, .val (.int (Int32.ofNat (I - (j + 1)))), .val (.int ng)] []))
          have KK185 := K1.trans K182 (fun y hy => Or.inl hy)
          subst hnd_
          exact KE i ng (s3) (s4) _ _ _ hng S182 KK185 sg182 V182
        · have hc88_184 : i < (-9 : Int32) := icF_ge q
          rw [Int32.lt_iff_toInt_lt] at hc88_184
          have hj3 : j + 1 < nd := nd_lt nd3 (by rw [← hM]; omega)
          have hnd_ : nd = j + 1 + 1 := nd_ge nd4 hj3 (by rw [pow_split, ← hM]; omega)
          show Go p e below _ (T182.setTop (mkF m 91 #[.val (.int i), .val (.int (Int32.ofNat I)), .val (.ref tb), s3, s4, .val (.int (Int32.ofNat (I - (j + 1)))), .val (.int ng)] []))
          refine s_aloadN S182 (hb hby dGC_91) rfl rfl (pc' := 92) rfl ?_
          refine s_iinc S182 (hb hby dGC_92) rfl (z := (Int32.ofNat (I - (j + 1 + 1)))) ((o_dec (by omega) (by omega)).trans (congrArg Int32.ofNat (by omega))) (L' := #[.val (.int i), .val (.int (Int32.ofNat I)), .val (.ref tb), s3, s4, .val (.int (Int32.ofNat (I - (j + 1 + 1)))), .val (.int ng)]) rfl (pc' := 95) rfl ?_
          refine s_iload S182 (hb hby dGC_95) rfl (pc' := 97) rfl ?_
          refine g_getS S182 (w247 hw) Via.refl (hT_.ext S182.old.2) (hb hby dGC_97) ?_
          intro T186 ST186
          show Go p e below _ (T186.setTop (mkF m 100 #[.val (.int i), .val (.int (Int32.ofNat I)), .val (.ref tb), s3, s4, .val (.int (Int32.ofNat (I - (j + 1 + 1)))), .val (.int ng)] [(.ref aT), (.int (Int32.ofNat (I - (j + 1 + 1)))), (.ref tb)]))
          refine s_iloadN ST186 (hb hby dGC_100) rfl (pc' := 101) rfl ?_
          refine s_ineg ST186 (hb hby dGC_101) (z := (Int32.ofNat M)) (gc_neg hi hM2) (pc' := 102) rfl ?_
          show Go p e below _ (T186.setTop (mkF m 102 #[.val (.int i), .val (.int (Int32.ofNat I)), .val (.ref tb), s3, s4, .val (.int (Int32.ofNat (I - (j + 1 + 1)))), .val (.int ng)] [(.int (Int32.ofNat M)), (.ref aT), (.int (Int32.ofNat (I - (j + 1 + 1)))), (.ref tb)]))
          refine g_baload ST186 (VT.ext ST186.old.2) ⟨o_nn (by omega), o_lt (b := 100) (by omega) (by omega) hM2⟩ (x := (Int32.ofNat (48 + M / 10))) (dTens_at hM2) (hb hby dGC_102) ?_
          show Go p e below _ (T186.setTop (mkF m 103 #[.val (.int i), .val (.int (Int32.ofNat I)), .val (.ref tb), s3, s4, .val (.int (Int32.ofNat (I - (j + 1 + 1)))), .val (.int ng)] [(.int (Int32.ofNat (48 + M / 10))), (.int (Int32.ofNat (I - (j + 1 + 1)))), (.ref tb)]))
          show Go p e below _ (T186.setTop (mkF m 103 #[.val (.int i), .val (.int (Int32.ofNat I)), .val (.ref tb), s3, s4, .val (.int (Int32.ofNat (I - (j + 1 + 1)))), .val (.int ng)] [(.int (Int32.ofNat (48 + M / 10))), (.int (Int32.ofNat (I - (j + 1 + 1)))), (.ref tb)]))
          refine g_bastore ST186 V182 ⟨o_nn (by omega), o_lt (by omega) (by omega) (by omega)⟩ (I - (j + 1 + 1)) (o_nat (by omega)) (by have := bz_len (dl x.toInt.natAbs (j + 1)); have := dl_len x.toInt.natAbs (j + 1); simp only [gcB, List.length_append, List.length_take, List.length_drop]; omega) nb sg182 (hb hby dGC_103) ?_
          intro T187 h187 S187 K187 V187 sg187
          replace V187 : Arv Z h187 tb kb .byte (Int32.ofNat bs.length) (gcB bs x.toInt.natAbs I (j + 1 + 1)) (.int (0 : Int32)) := by have q := dl_step (m := x.toInt.natAbs) (j := (j + 1)) (I := I) (bs := bs) (p := I - (j + 1 + 1)) (by omega) (by omega) (Int32.ofNat (48 + M / 10)) (by rw [pow_split, ← hM, Nat.mod_eq_of_lt (show M / 10 < 10 by omega)]); show Arv Z h187 tb kb .byte (Int32.ofNat bs.length) (bs.take (I - (j + 1 + 1)) ++ bz (dl x.toInt.natAbs (j + 1 + 1)) ++ bs.drop I) (.int (0 : Int32)); rw [← q]; exact V187
          have sf188 := Safe.keep K187 (sfS sg182 sf0) ST186.chv sg182
          show Go p e below _ (T187.setTop (mkF m 104 #[.val (.int i), .val (.int (Int32.ofNat I)), .val (.ref tb), s3, s4, .val (.int (Int32.ofNat (I - (j + 1 + 1)))), .val (.int ng)] []))
          have KK189 := K1.trans K182 (fun y hy => Or.inl hy)
          have KK190 := KK189.trans K187 (fun y hy => Or.inl hy)
          subst hnd_
          exact KE i ng (s3) (s4) _ _ _ hng S187 KK190 sg187 V187
      · have hc25_180 : ¬ (-100 : Int32) < i := icF_gt q
        rw [Int32.lt_iff_toInt_lt] at hc25_180
        have hM2 : 100 ≤ M := by omega
        have hj2 : j + 1 + 1 < nd := nd_lt nd3 (by rw [pow_split, ← hM]; omega)
        show Go p e below _ (T1.setTop (mkF m 28 #[.val (.int i), .val (.int (Int32.ofNat I)), .val (.ref tb), s3, s4, .val (.int (Int32.ofNat (I - j))), .val (.int ng)] []))
        refine s_iloadN S1 (hb hby dGC_28) rfl (pc' := 29) rfl ?_
        refine s_bipush S1 (hb hby dGC_29) (v := (100 : Int32)) rfl (pc' := 31) rfl ?_
        refine s_idiv S1 (hb hby dGC_31) (by decide) (z := (i / (100 : Int32))) rfl (pc' := 32) rfl ?_
        generalize eq191 : (i / (100 : Int32)) = q191
        have st192 : storeLocals #[.val (.int i), .val (.int (Int32.ofNat I)), .val (.ref tb), s3, s4, .val (.int (Int32.ofNat (I - j))), .val (.int ng)] 3 (.int q191) = some #[.val (.int i), .val (.int (Int32.ofNat I)), .val (.ref tb), .val (.int q191), s4, .val (.int (Int32.ofNat (I - j))), .val (.int ng)] := by rcases hs34 with ⟨h3_, h4_⟩ | ⟨a_, b_, h3_, h4_⟩ <;> subst h3_ h4_ <;> rfl
        refine s_istoreN S1 (hb hby dGC_32) (L' := #[.val (.int i), .val (.int (Int32.ofNat I)), .val (.ref tb), .val (.int q191), s4, .val (.int (Int32.ofNat (I - j))), .val (.int ng)]) st192 (pc' := 33) rfl ?_
        have hq : q191.toInt = -((M / 100 : Nat) : Int) := by rw [← eq191]; exact gc_q hi hMl
        refine s_iloadN S1 (hb hby dGC_33) rfl (pc' := 34) rfl ?_
        refine s_bipush S1 (hb hby dGC_34) (v := (100 : Int32)) rfl (pc' := 36) rfl ?_
        refine s_imul S1 (hb hby dGC_36) (z := (q191 * (100 : Int32))) rfl (pc' := 37) rfl ?_
        refine s_iloadN S1 (hb hby dGC_37) rfl (pc' := 38) rfl ?_
        refine s_isub S1 (hb hby dGC_38) (z := (Int32.ofNat (M % 100))) (gc_r hi hMl hq) (pc' := 39) rfl ?_
        have st193 : storeLocals #[.val (.int i), .val (.int (Int32.ofNat I)), .val (.ref tb), .val (.int q191), s4, .val (.int (Int32.ofNat (I - j))), .val (.int ng)] 4 (.int (Int32.ofNat (M % 100))) = some #[.val (.int i), .val (.int (Int32.ofNat I)), .val (.ref tb), .val (.int q191), .val (.int (Int32.ofNat (M % 100))), .val (.int (Int32.ofNat (I - j))), .val (.int ng)] := by rcases hs34 with ⟨h3_, h4_⟩ | ⟨a_, b_, h3_, h4_⟩ <;> subst h3_ h4_ <;> rfl
        refine s_istore S1 (hb hby dGC_39) (L' := #[.val (.int i), .val (.int (Int32.ofNat I)), .val (.ref tb), .val (.int q191), .val (.int (Int32.ofNat (M % 100))), .val (.int (Int32.ofNat (I - j))), .val (.int ng)]) st193 (pc' := 41) rfl ?_
        refine s_iloadN S1 (hb hby dGC_41) rfl (pc' := 42) rfl ?_
        refine s_istoreN S1 (hb hby dGC_42) (L' := #[.val (.int q191), .val (.int (Int32.ofNat I)), .val (.ref tb), .val (.int q191), .val (.int (Int32.ofNat (M % 100))), .val (.int (Int32.ofNat (I - j))), .val (.int ng)]) rfl (pc' := 43) rfl ?_
        refine s_aloadN S1 (hb hby dGC_43) rfl rfl (pc' := 44) rfl ?_
        refine s_iinc S1 (hb hby dGC_44) rfl (z := (Int32.ofNat (I - (j + 1)))) ((o_dec (by omega) (by omega)).trans (congrArg Int32.ofNat (by omega))) (L' := #[.val (.int q191), .val (.int (Int32.ofNat I)), .val (.ref tb), .val (.int q191), .val (.int (Int32.ofNat (M % 100))), .val (.int (Int32.ofNat (I - (j + 1)))), .val (.int ng)]) rfl (pc' := 47) rfl ?_
        refine s_iload S1 (hb hby dGC_47) rfl (pc' := 49) rfl ?_
        refine g_getS S1 (w148 hw) Via.refl (hO_.ext S1.old.2) (hb hby dGC_49) ?_
        intro T194 ST194
        show Go p e below _ (T194.setTop (mkF m 52 #[.val (.int q191), .val (.int (Int32.ofNat I)), .val (.ref tb), .val (.int q191), .val (.int (Int32.ofNat (M % 100))), .val (.int (Int32.ofNat (I - (j + 1)))), .val (.int ng)] [(.ref aO), (.int (Int32.ofNat (I - (j + 1)))), (.ref tb)]))
        refine s_iload ST194 (hb hby dGC_52) rfl (pc' := 54) rfl ?_
        show Go p e below _ (T194.setTop (mkF m 54 #[.val (.int q191), .val (.int (Int32.ofNat I)), .val (.ref tb), .val (.int q191), .val (.int (Int32.ofNat (M % 100))), .val (.int (Int32.ofNat (I - (j + 1)))), .val (.int ng)] [(.int (Int32.ofNat (M % 100))), (.ref aO), (.int (Int32.ofNat (I - (j + 1)))), (.ref tb)]))
        refine g_baload ST194 (VO.ext ST194.old.2) ⟨o_nn (by omega), o_lt (b := 100) (by omega) (by omega) (Nat.mod_lt _ (by decide))⟩ (x := (Int32.ofNat (48 + M % 100 % 10))) (dOnes_at (Nat.mod_lt _ (by decide))) (hb hby dGC_54) ?_
        show Go p e below _ (T194.setTop (mkF m 55 #[.val (.int q191), .val (.int (Int32.ofNat I)), .val (.ref tb), .val (.int q191), .val (.int (Int32.ofNat (M % 100))), .val (.int (Int32.ofNat (I - (j + 1)))), .val (.int ng)] [(.int (Int32.ofNat (48 + M % 100 % 10))), (.int (Int32.ofNat (I - (j + 1)))), (.ref tb)]))
        show Go p e below _ (T194.setTop (mkF m 55 #[.val (.int q191), .val (.int (Int32.ofNat I)), .val (.ref tb), .val (.int q191), .val (.int (Int32.ofNat (M % 100))), .val (.int (Int32.ofNat (I - (j + 1)))), .val (.int ng)] [(.int (Int32.ofNat (48 + M % 100 % 10))), (.int (Int32.ofNat (I - (j + 1)))), (.ref tb)]))
        refine g_bastore ST194 A1 ⟨o_nn (by omega), o_lt (by omega) (by omega) (by omega)⟩ (I - (j + 1)) (o_nat (by omega)) (by have := bz_len (dl x.toInt.natAbs j); have := dl_len x.toInt.natAbs j; simp only [gcB, List.length_append, List.length_take, List.length_drop]; omega) nb sf1_ (hb hby dGC_55) ?_
        intro T195 h195 S195 K195 V195 sg195
        replace V195 : Arv Z h195 tb kb .byte (Int32.ofNat bs.length) (gcB bs x.toInt.natAbs I (j + 1)) (.int (0 : Int32)) := by have q := dl_step (m := x.toInt.natAbs) (j := j) (I := I) (bs := bs) (p := I - (j + 1)) (by omega) (by omega) (Int32.ofNat (48 + M % 100 % 10)) (by rw [show M % 100 % 10 = M % 10 by omega, hM]); show Arv Z h195 tb kb .byte (Int32.ofNat bs.length) (bs.take (I - (j + 1)) ++ bz (dl x.toInt.natAbs (j + 1)) ++ bs.drop I) (.int (0 : Int32)); rw [← q]; exact V195
        have sf196 := Safe.keep K195 (sfS sf1_ sf0) ST194.chv sf1_
        show Go p e below _ (T195.setTop (mkF m 56 #[.val (.int q191), .val (.int (Int32.ofNat I)), .val (.ref tb), .val (.int q191), .val (.int (Int32.ofNat (M % 100))), .val (.int (Int32.ofNat (I - (j + 1)))), .val (.int ng)] []))
        refine s_aloadN S195 (hb hby dGC_56) rfl rfl (pc' := 57) rfl ?_
        refine s_iinc S195 (hb hby dGC_57) rfl (z := (Int32.ofNat (I - (j + 1 + 1)))) ((o_dec (by omega) (by omega)).trans (congrArg Int32.ofNat (by omega))) (L' := #[.val (.int q191), .val (.int (Int32.ofNat I)), .val (.ref tb), .val (.int q191), .val (.int (Int32.ofNat (M % 100))), .val (.int (Int32.ofNat (I - (j + 1 + 1)))), .val (.int ng)]) rfl (pc' := 60) rfl ?_
        refine s_iload S195 (hb hby dGC_60) rfl (pc' := 62) rfl ?_
        refine g_getS S195 (w247 hw) Via.refl (hT_.ext S195.old.2) (hb hby dGC_62) ?_
        intro T197 ST197
        show Go p e below _ (T197.setTop (mkF m 65 #[.val (.int q191), .val (.int (Int32.ofNat I)), .val (.ref tb), .val (.int q191), .val (.int (Int32.ofNat (M % 100))), .val (.int (Int32.ofNat (I - (j + 1 + 1)))), .val (.int ng)] [(.ref aT), (.int (Int32.ofNat (I - (j + 1 + 1)))), (.ref tb)]))
        refine s_iload ST197 (hb hby dGC_65) rfl (pc' := 67) rfl ?_
        show Go p e below _ (T197.setTop (mkF m 67 #[.val (.int q191), .val (.int (Int32.ofNat I)), .val (.ref tb), .val (.int q191), .val (.int (Int32.ofNat (M % 100))), .val (.int (Int32.ofNat (I - (j + 1 + 1)))), .val (.int ng)] [(.int (Int32.ofNat (M % 100))), (.ref aT), (.int (Int32.ofNat (I - (j + 1 + 1)))), (.ref tb)]))
        refine g_baload ST197 (VT.ext ST197.old.2) ⟨o_nn (by omega), o_lt (b := 100) (by omega) (by omega) (Nat.mod_lt _ (by decide))⟩ (x := (Int32.ofNat (48 + M % 100 / 10))) (dTens_at (Nat.mod_lt _ (by decide))) (hb hby dGC_67) ?_
        show Go p e below _ (T197.setTop (mkF m 68 #[.val (.int q191), .val (.int (Int32.ofNat I)), .val (.ref tb), .val (.int q191), .val (.int (Int32.ofNat (M % 100))), .val (.int (Int32.ofNat (I - (j + 1 + 1)))), .val (.int ng)] [(.int (Int32.ofNat (48 + M % 100 / 10))), (.int (Int32.ofNat (I - (j + 1 + 1)))), (.ref tb)]))
        show Go p e below _ (T197.setTop (mkF m 68 #[.val (.int q191), .val (.int (Int32.ofNat I)), .val (.ref tb), .val (.int q191), .val (.int (Int32.ofNat (M % 100))), .val (.int (Int32.ofNat (I - (j + 1 + 1)))), .val (.int ng)] [(.int (Int32.ofNat (48 + M % 100 / 10))), (.int (Int32.ofNat (I - (j + 1 + 1)))), (.ref tb)]))
        refine g_bastore ST197 V195 ⟨o_nn (by omega), o_lt (by omega) (by omega) (by omega)⟩ (I - (j + 1 + 1)) (o_nat (by omega)) (by have := bz_len (dl x.toInt.natAbs (j + 1)); have := dl_len x.toInt.natAbs (j + 1); simp only [gcB, List.length_append, List.length_take, List.length_drop]; omega) nb sg195 (hb hby dGC_68) ?_
        intro T198 h198 S198 K198 V198 sg198
        replace V198 : Arv Z h198 tb kb .byte (Int32.ofNat bs.length) (gcB bs x.toInt.natAbs I (j + 1 + 1)) (.int (0 : Int32)) := by have q := dl_step (m := x.toInt.natAbs) (j := (j + 1)) (I := I) (bs := bs) (p := I - (j + 1 + 1)) (by omega) (by omega) (Int32.ofNat (48 + M % 100 / 10)) (by rw [pow_split, ← hM, show M % 100 / 10 = M / 10 % 10 by omega]); show Arv Z h198 tb kb .byte (Int32.ofNat bs.length) (bs.take (I - (j + 1 + 1)) ++ bz (dl x.toInt.natAbs (j + 1 + 1)) ++ bs.drop I) (.int (0 : Int32)); rw [← q]; exact V198
        have sf199 := Safe.keep K198 (sfS sg195 sf0) ST197.chv sg195
        show Go p e below _ (T198.setTop (mkF m 69 #[.val (.int q191), .val (.int (Int32.ofNat I)), .val (.ref tb), .val (.int q191), .val (.int (Int32.ofNat (M % 100))), .val (.int (Int32.ofNat (I - (j + 1 + 1)))), .val (.int ng)] []))
        show Go p e below _ (T198.setTop (mkF m 69 #[.val (.int q191), .val (.int (Int32.ofNat I)), .val (.ref tb), .val (.int q191), .val (.int (Int32.ofNat (M % 100))), .val (.int (Int32.ofNat (I - (j + 1 + 1)))), .val (.int ng)] []))
        refine s_goto S198 (hb hby dGC_69) (by decide) (pcT := 22) (by decide) ?_
        have KK200 := K1.trans K195 (fun y hy => Or.inl hy)
        have KK201 := KK200.trans K198 (fun y hy => Or.inl hy)
        exact ih (j + 1 + 1) (M / 100) _ _ _ _ _ _ _ (Or.inr ⟨_, _, rfl, rfl⟩) (by omega) hj2 (by rw [hM, ← pow_split2]) hq hng S198 KK201 sg198 V198
  have gq : gcB bs x.toInt.natAbs I 0 = bs := by unfold gcB dl; simp [bz]
  show Go p e below _ (T0.setTop (mkF m 0 #[.val (.int x), .val (.int (Int32.ofNat I)), .val (.ref tb), .unset, .unset, .unset, .unset] []))
  refine s_iloadN S0 (hb hby dGC_0) rfl (pc' := 1) rfl ?_
  refine s_istore S0 (hb hby dGC_1) (L' := #[.val (.int x), .val (.int (Int32.ofNat I)), .val (.ref tb), .unset, .unset, .val (.int (Int32.ofNat I)), .unset]) rfl (pc' := 3) rfl ?_
  refine s_iloadN S0 (hb hby dGC_3) rfl (pc' := 4) rfl ?_
  refine g_if S0 (hb hby dGC_4) (by decide) (pcT := 11) (by decide) (fun q => ?_) (fun q => ?_)
  · have hc4_202 : ¬ x < (0 : Int32) := icT_ge q
    show Go p e below _ (T0.setTop (mkF m 11 #[.val (.int x), .val (.int (Int32.ofNat I)), .val (.ref tb), .unset, .unset, .val (.int (Int32.ofNat I)), .unset] []))
    refine s_iconst S0 (hb hby dGC_11) (v := (0 : Int32)) rfl (pc' := 12) rfl ?_
    refine s_istore S0 (hb hby dGC_12) (L' := #[.val (.int x), .val (.int (Int32.ofNat I)), .val (.ref tb), .unset, .unset, .val (.int (Int32.ofNat I)), .val (.int (0 : Int32))]) rfl (pc' := 14) rfl ?_
    refine s_iload S0 (hb hby dGC_14) rfl (pc' := 16) rfl ?_
    refine s_ifN S0 (hb hby dGC_16) (by decide) (pc' := 19) rfl ?_
    refine s_iloadN S0 (hb hby dGC_19) rfl (pc' := 20) rfl ?_
    refine s_ineg S0 (hb hby dGC_20) (z := (-x)) rfl (pc' := 21) rfl ?_
    generalize ey203 : (-x) = y203
    refine s_istoreN S0 (hb hby dGC_21) (L' := #[.val (.int y203), .val (.int (Int32.ofNat I)), .val (.ref tb), .unset, .unset, .val (.int (Int32.ofNat I)), .val (.int (0 : Int32))]) rfl (pc' := 22) rfl ?_
    show Go p e below _ (T0.setTop (mkF m 22 #[.val (.int y203), .val (.int (Int32.ofNat I)), .val (.ref tb), .unset, .unset, .val (.int (Int32.ofNat I)), .val (.int (0 : Int32))] []))
    have hx0 : ¬ x < 0 := hc4_202
    have hx1 := hx0
    rw [Int32.lt_iff_toInt_lt] at hx1
    have e0 : (0 : Int32).toInt = 0 := rfl
    have rx := rng32 x
    have qy := c_ineg x
    rw [ey203] at qy
    have qz := rng32 y203
    exact KL 10 0 x.toInt.natAbs y203 _ _ _ _ _ _ (Or.inl ⟨rfl, rfl⟩) (by omega) (by omega) (by rw [Nat.pow_zero, Nat.div_one]) (by omega) (Or.inr ⟨rfl, hx0⟩) S0 (Keep.refl h [tb]) (hsf tb List.mem_cons_self) (by rw [gq]; exact Vb)
  · have hc4_202 : x < (0 : Int32) := icF_ge q
    show Go p e below _ (T0.setTop (mkF m 7 #[.val (.int x), .val (.int (Int32.ofNat I)), .val (.ref tb), .unset, .unset, .val (.int (Int32.ofNat I)), .unset] []))
    refine s_iconst S0 (hb hby dGC_7) (v := (1 : Int32)) rfl (pc' := 8) rfl ?_
    refine s_goto S0 (hb hby dGC_8) (by decide) (pcT := 12) (by decide) ?_
    refine s_istore S0 (hb hby dGC_12) (L' := #[.val (.int x), .val (.int (Int32.ofNat I)), .val (.ref tb), .unset, .unset, .val (.int (Int32.ofNat I)), .val (.int (1 : Int32))]) rfl (pc' := 14) rfl ?_
    refine s_iload S0 (hb hby dGC_14) rfl (pc' := 16) rfl ?_
    refine s_ifY S0 (hb hby dGC_16) (by decide) (by decide) (pcT := 22) (by decide) ?_
    show Go p e below _ (T0.setTop (mkF m 22 #[.val (.int x), .val (.int (Int32.ofNat I)), .val (.ref tb), .unset, .unset, .val (.int (Int32.ofNat I)), .val (.int (1 : Int32))] []))
    have hx0 : x < 0 := hc4_202
    have hx1 := hx0
    rw [Int32.lt_iff_toInt_lt] at hx1
    have e0 : (0 : Int32).toInt = 0 := rfl
    have rx := rng32 x
    exact KL 10 0 x.toInt.natAbs x _ _ _ _ _ _ (Or.inl ⟨rfl, rfl⟩) (by omega) (by omega) (by rw [Nat.pow_zero, Nat.div_one]) (by omega) (Or.inl ⟨rfl, hx0⟩) S0 (Keep.refl h [tb]) (hsf tb List.mem_cons_self) (by rw [gq]; exact Vb)
theorem dAN_0 : decode jdk_68_method_32_code 0 = .ok (.aload_n 0, 1) := by decide +kernel
theorem dAN_1 : decode jdk_68_method_32_code 1 = .ok (.getfield 79, 3) := by decide +kernel
theorem dAN_4 : decode jdk_68_method_32_code 4 = .ok (.istore_n 2, 1) := by decide +kernel
theorem dAN_5 : decode jdk_68_method_32_code 5 = .ok (.iload_n 2, 1) := by decide +kernel
theorem dAN_6 : decode jdk_68_method_32_code 6 = .ok (.iload_n 1, 1) := by decide +kernel
theorem dAN_7 : decode jdk_68_method_32_code 7 = .ok (.invokestatic 245, 3) := by decide +kernel
theorem dAN_10 : decode jdk_68_method_32_code 10 = .ok (.iadd, 1) := by decide +kernel
theorem dAN_11 : decode jdk_68_method_32_code 11 = .ok (.istore_n 3, 1) := by decide +kernel
theorem dAN_12 : decode jdk_68_method_32_code 12 = .ok (.aload_n 0, 1) := by decide +kernel
theorem dAN_13 : decode jdk_68_method_32_code 13 = .ok (.iload_n 3, 1) := by decide +kernel
theorem dAN_14 : decode jdk_68_method_32_code 14 = .ok (.invokevirtual 100, 3) := by decide +kernel
theorem dAN_17 : decode jdk_68_method_32_code 17 = .ok (.aload_n 0, 1) := by decide +kernel
theorem dAN_18 : decode jdk_68_method_32_code 18 = .ok (.invokevirtual 83, 3) := by decide +kernel
theorem dAN_21 : decode jdk_68_method_32_code 21 = .ok (.ifCond .eq 16, 3) := by decide +kernel
theorem dAN_24 : decode jdk_68_method_32_code 24 = .ok (.iload_n 1, 1) := by decide +kernel
theorem dAN_25 : decode jdk_68_method_32_code 25 = .ok (.iload_n 3, 1) := by decide +kernel
theorem dAN_26 : decode jdk_68_method_32_code 26 = .ok (.aload_n 0, 1) := by decide +kernel
theorem dAN_27 : decode jdk_68_method_32_code 27 = .ok (.getfield 15, 3) := by decide +kernel
theorem dAN_30 : decode jdk_68_method_32_code 30 = .ok (.invokestatic 248, 3) := by decide +kernel
theorem dAN_33 : decode jdk_68_method_32_code 33 = .ok (.pop, 1) := by decide +kernel
theorem dAN_34 : decode jdk_68_method_32_code 34 = .ok (.goto 14, 3) := by decide +kernel
theorem dAN_48 : decode jdk_68_method_32_code 48 = .ok (.aload_n 0, 1) := by decide +kernel
theorem dAN_49 : decode jdk_68_method_32_code 49 = .ok (.iload_n 3, 1) := by decide +kernel
theorem dAN_50 : decode jdk_68_method_32_code 50 = .ok (.putfield 79, 3) := by decide +kernel
theorem dAN_53 : decode jdk_68_method_32_code 53 = .ok (.aload_n 0, 1) := by decide +kernel
theorem dAN_54 : decode jdk_68_method_32_code 54 = .ok (.areturn, 1) := by decide +kernel
set_option maxRecDepth 65536 in
set_option maxHeartbeats 40000000 in
theorem rmAN {l : Launch} {Z : State} {a0 : Array Value} {n0 : Nat} (X : Ctx Z a0) {b tb : Addr} {kb : ClassId} {ds : List Int32} {bs : List Value} (x : Int32) (nx : n0 ≤ b) (nb : n0 ≤ tb) {h : Heap} (hO : Old Z n0 h) (Ex : Exa Z h b "java/lang/StringBuilder") (Fv : Fld Z h b "java/lang/AbstractStringBuilder" "value" "[B" (.ref tb)) (Fk : Fld Z h b "java/lang/AbstractStringBuilder" "coder" "B" (.int (0 : Int32))) (Fs : Fld Z h b "java/lang/AbstractStringBuilder" "count" "I" (.int (Int32.ofNat ds.length))) (Vb : Arv Z h tb kb .byte (16 : Int32) bs (.int (0 : Int32))) (EB : Exa Z h tb "[B") (hpr : bz ds <+: bs) (hbl : bs.length = 16) (hds : ds.length ≤ 14) :
    Ctr l Z EL1 n0 (⟨"java/lang/AbstractStringBuilder", "append", "(I)Ljava/lang/AbstractStringBuilder;"⟩ : MethodName) jdk_68_method_32_code 4 (some (.object "java/lang/AbstractStringBuilder")) ({ frames := 4, cells := 1, slots := 34, locals := 68 } : Room) #[(.ref b), (.int x)] h [tb] (fun v h' => v = some (.ref b) ∧ ∃ (nd : Nat) (u : Addr) (ku : ClassId) (zb : Int32) (bs' : List Value), Nd x.toInt.natAbs nd ∧ Keep h h' [b, tb] ∧ (u = tb ∨ h.size ≤ u) ∧ Exa Z h' b "java/lang/StringBuilder" ∧ Fld Z h' b "java/lang/AbstractStringBuilder" "value" "[B" (.ref u) ∧ Fld Z h' b "java/lang/AbstractStringBuilder" "coder" "B" (.int (0 : Int32)) ∧ Fld Z h' b "java/lang/AbstractStringBuilder" "count" "I" (.int (Int32.ofNat (ds ++ decC x nd).length)) ∧ Arv Z h' u ku .byte zb bs' (.int (0 : Int32)) ∧ zb = Int32.ofNat bs'.length ∧ bs'.length ≤ 34 ∧ bz (ds ++ decC x nd) <+: bs' ∧ Exa Z h' u "[B") := by
  have hw := X.hw
  obtain ⟨z1, hz1, hz2⟩ := X.2.2.1
  refine Ctr.intro (a0 := a0) (plainFor_of_name pn0) hO X.ew ?_
  intro p e s m below meth c T0 V0 S0 hby hml hret hnm hsf
  rw [ef12]
  have nXB : b ≠ tb := Exa.neArv Ex Vb (w61 hw)
  show Go p e below _ (T0.setTop (mkF m 0 #[.val (.ref b), .val (.int x), .unset, .unset] []))
  refine s_aloadN S0 (hb hby dAN_0) rfl rfl (pc' := 1) rfl ?_
  refine g_getF S0 (w98 hw) Via.refl Fs (hb hby dAN_1) ?_
  intro T204 ST204
  show Go p e below _ (T204.setTop (mkF m 4 #[.val (.ref b), .val (.int x), .unset, .unset] [(.int (Int32.ofNat ds.length))]))
  refine s_istoreN ST204 (hb hby dAN_4) (L' := #[.val (.ref b), .val (.int x), .val (.int (Int32.ofNat ds.length)), .unset]) rfl (pc' := 5) rfl ?_
  refine s_iloadN ST204 (hb hby dAN_5) rfl (pc' := 6) rfl ?_
  refine s_iloadN ST204 (hb hby dAN_6) rfl (pc' := 7) rfl ?_
  show Go p e below _ (T204.setTop (mkF m 7 #[.val (.ref b), .val (.int x), .val (.int (Int32.ofNat ds.length)), .unset] [(.int x), (.int (Int32.ofNat ds.length))]))
  refine g_static ST204 (rmZS X x ST204.old) (fun _ q => nomatch q) (w136 hw) (w137 hw) (w138 hw) (w139 hw) (by decide) (hb hby dAN_7) (by rw [hml]; rfl) [(.int x)] (lenOf pd9 rfl) rfl rfl (Nat.le_of_ble_eq_true rfl) (Nat.le_of_ble_eq_true rfl) (Nat.le_of_ble_eq_true rfl) (Nat.le_of_ble_eq_true rfl) ?_
  intro v205 T205 V205 h205 S205 C205 q205
  obtain ⟨nd, hnd, rfl, rfl⟩ := q205
  have sf206 := C205.safe Vb.lt (hsf tb List.mem_cons_self)
  show Go p e below _ (T205.setTop (mkF m 10 #[.val (.ref b), .val (.int x), .val (.int (Int32.ofNat ds.length)), .unset] [(.int (Int32.ofNat (decC x nd).length)), (.int (Int32.ofNat ds.length))]))
  refine s_iadd S205 (hb hby dAN_10) (z := (Int32.ofNat (ds ++ decC x nd).length)) (by rw [o_add, List.length_append]) (pc' := 11) rfl ?_
  refine s_istoreN S205 (hb hby dAN_11) (L' := #[.val (.ref b), .val (.int x), .val (.int (Int32.ofNat ds.length)), .val (.int (Int32.ofNat (ds ++ decC x nd).length))]) rfl (pc' := 12) rfl ?_
  refine s_aloadN S205 (hb hby dAN_12) rfl rfl (pc' := 13) rfl ?_
  refine s_iloadN S205 (hb hby dAN_13) rfl (pc' := 14) rfl ?_
  have ndl := decC_len x nd
  have lle : (decC x nd).length ≤ 11 := by rw [ndl]; have := hnd.2.1; split <;> omega
  have lap : (ds ++ decC x nd).length = ds.length + (decC x nd).length := List.length_append
  rcases Nat.lt_or_ge 16 (ds ++ decC x nd).length with hg | hg
  · skip
    show Go p e below _ (T205.setTop (mkF m 14 #[.val (.ref b), .val (.int x), .val (.int (Int32.ofNat ds.length)), .val (.int (Int32.ofNat (ds ++ decC x nd).length))] [(.int (Int32.ofNat (ds ++ decC x nd).length)), (.ref b)]))
    show Go p e below _ (T205.setTop (mkF m 14 #[.val (.ref b), .val (.int x), .val (.int (Int32.ofNat ds.length)), .val (.int (Int32.ofNat (ds ++ decC x nd).length))] [(.int (Int32.ofNat (ds ++ decC x nd).length)), (.ref b)]))
    refine g_private S205 (rmEW X nx hg (by omega) S205.old Ex Fv Fk Fs Vb hbl) (fun _ q => nomatch q) (w100 hw) (ni_sel (w103 hw) rfl) (w102 hw) (w101 hw) (w70 hw) (w104 hw) (by decide) (hb hby dAN_14) (by rw [hml]; rfl) b Ex [(.int (Int32.ofNat (ds ++ decC x nd).length))] (lenOf pd0 rfl) rfl rfl (Nat.le_of_ble_eq_true rfl) (Nat.le_of_ble_eq_true rfl) (Nat.le_of_ble_eq_true rfl) (Nat.le_of_ble_eq_true rfl) ?_
    intro v207 T207 V207 h207 S207 C207 q207
    obtain ⟨rfl, u, ku, K1, fru, nu, E1, F1, F2, F3, V1, EB1, sf1_⟩ := q207
    have sf208 := C207.safe Vb.lt sf206
    have nBU : b ≠ u := Exa.neArv E1 V1 (w61 hw)
    have ll : (bs ++ List.replicate 18 (.int (0 : Int32) : Value)).length = 34 := by rw [List.length_append, hbl]; rfl
    have hp2 : bz ds <+: bs ++ List.replicate 18 (.int (0 : Int32) : Value) := pre_app hpr
    have VV : Arv Z h207 u ku .byte (Int32.ofNat (bs ++ List.replicate 18 (.int (0 : Int32) : Value)).length) (bs ++ List.replicate 18 (.int (0 : Int32) : Value)) (.int (0 : Int32)) := by rw [ll]; exact V1
    have pc_ := pre_copy (us := bz (decC x nd)) hp2 (by rw [bz_len, bz_len, ll]; omega)
    rw [bz_len, bz_len, ← bz_app, ← lap] at pc_
    show Go p e below _ (T207.setTop (mkF m 17 #[.val (.ref b), .val (.int x), .val (.int (Int32.ofNat ds.length)), .val (.int (Int32.ofNat (ds ++ decC x nd).length))] []))
    refine s_aloadN S207 (hb hby dAN_17) rfl rfl (pc' := 18) rfl ?_
    show Go p e below _ (T207.setTop (mkF m 18 #[.val (.ref b), .val (.int x), .val (.int (Int32.ofNat ds.length)), .val (.int (Int32.ofNat (ds ++ decC x nd).length))] [(.ref b)]))
    refine g_virtual S207 (rmIL X S207.old E1 F1 F2 F3) (fun _ q => nomatch q) (w140 hw) (w141 hw) (w143 hw) (w142 hw) (w70 hw) (w144 hw) (by decide) (fun _ h => notFace_of_selects h) (hb hby dAN_18) (by rw [hml]; rfl) b E1 [] (lenOf pd11 rfl) rfl rfl (Nat.le_of_ble_eq_true rfl) (Nat.le_of_ble_eq_true rfl) (Nat.le_of_ble_eq_true rfl) (Nat.le_of_ble_eq_true rfl) ?_
    intro v209 T209 V209 h209 S209 C209 q209
    obtain ⟨rfl, rfl⟩ := q209
    have sf210 := C209.safe V1.lt sf1_
    show Go p e below _ (T209.setTop (mkF m 21 #[.val (.ref b), .val (.int x), .val (.int (Int32.ofNat ds.length)), .val (.int (Int32.ofNat (ds ++ decC x nd).length))] [(.int (1 : Int32))]))
    refine s_ifN S209 (hb hby dAN_21) (by decide) (pc' := 24) rfl ?_
    refine s_iloadN S209 (hb hby dAN_24) rfl (pc' := 25) rfl ?_
    refine s_iloadN S209 (hb hby dAN_25) rfl (pc' := 26) rfl ?_
    refine s_aloadN S209 (hb hby dAN_26) rfl rfl (pc' := 27) rfl ?_
    refine g_getF S209 (w74 hw) Via.refl F1 (hb hby dAN_27) ?_
    intro T211 ST211
    show Go p e below _ (T211.setTop (mkF m 30 #[.val (.ref b), .val (.int x), .val (.int (Int32.ofNat ds.length)), .val (.int (Int32.ofNat (ds ++ decC x nd).length))] [(.ref u), (.int (Int32.ofNat (ds ++ decC x nd).length)), (.int x)]))
    show Go p e below _ (T211.setTop (mkF m 30 #[.val (.ref b), .val (.int x), .val (.int (Int32.ofNat ds.length)), .val (.int (Int32.ofNat (ds ++ decC x nd).length))] [(.ref u), (.int (Int32.ofNat (ds ++ decC x nd).length)), (.int x)]))
    refine g_static ST211 (rmGC X x (P := ds.length) (nd := nd) (I := (ds ++ decC x nd).length) nu ST211.old VV hnd lap (by rw [ll]; omega) (by rw [ll]; decide)) (sf1 VV.lt sf210) (w145 hw) (w146 hw) (w138 hw) (w147 hw) (by decide) (hb hby dAN_30) (by rw [hml]; rfl) [(.int x), (.int (Int32.ofNat (ds ++ decC x nd).length)), (.ref u)] (lenOf pd12 rfl) rfl rfl (Nat.le_of_ble_eq_true rfl) (Nat.le_of_ble_eq_true rfl) (Nat.le_of_ble_eq_true rfl) (Nat.le_of_ble_eq_true rfl) ?_
    intro v212 T212 V212 h212 S212 C212 q212
    obtain ⟨rfl, K5, V5⟩ := q212
    have sf213 := C212.safe V1.lt sf210
    show Go p e below _ (T212.setTop (mkF m 33 #[.val (.ref b), .val (.int x), .val (.int (Int32.ofNat ds.length)), .val (.int (Int32.ofNat (ds ++ decC x nd).length))] [(.int (Int32.ofNat ds.length))]))
    refine s_pop S212 (hb hby dAN_33) rfl (pc' := 34) rfl ?_
    refine s_goto S212 (hb hby dAN_34) (by decide) (pcT := 48) (by decide) ?_
    refine s_aloadN S212 (hb hby dAN_48) rfl rfl (pc' := 49) rfl ?_
    refine s_iloadN S212 (hb hby dAN_49) rfl (pc' := 50) rfl ?_
    show Go p e below _ (T212.setTop (mkF m 50 #[.val (.ref b), .val (.int x), .val (.int (Int32.ofNat ds.length)), .val (.int (Int32.ofNat (ds ++ decC x nd).length))] [(.int (Int32.ofNat (ds ++ decC x nd).length)), (.ref b)]))
    have F215 := F3.keep K5 (ninS nBU nin0)
    have F216 := E1.keep K5
    have F217 := F1.keep K5 (ninS nBU nin0)
    have F218 := F2.keep K5 (ninS nBU nin0)
    refine g_putF S212 (w98 hw) Via.refl F215 F216 (Or.inl (w99 hw)) (w61 hw) (ty := .int) (v' := (.int (Int32.ofNat (ds ++ decC x nd).length))) (by decide) rfl rfl nx (Safe.exa S212.warm.alike F216 (by decide) (by decide)) (hb hby dAN_50) ?_
    intro T214 h214 S214 K214 W214 A214 F214 sg214
    have sf219 := Safe.keep K214 (sfS (Safe.exa S212.warm.alike F216 (by decide) (by decide)) sf0) S212.chv sf213
    have F220 := F217.other W214 (Or.inr (slot_ne (Or.inl (w75 hw)) (Or.inl (w99 hw)) (by decide) (t := (.array .byte)) (t' := .int) (by decide) (by decide)))
    have F221 := F218.other W214 (Or.inr (slot_ne (Or.inl (w77 hw)) (Or.inl (w99 hw)) (by decide) (t := .byte) (t' := .int) (by decide) (by decide)))
    show Go p e below _ (T214.setTop (mkF m 53 #[.val (.ref b), .val (.int x), .val (.int (Int32.ofNat ds.length)), .val (.int (Int32.ofNat (ds ++ decC x nd).length))] []))
    refine s_aloadN S214 (hb hby dAN_53) rfl rfl (pc' := 54) rfl ?_
    show Go p e below _ (T214.setTop (mkF m 54 #[.val (.ref b), .val (.int x), .val (.int (Int32.ofNat ds.length)), .val (.int (Int32.ofNat (ds ++ decC x nd).length))] [(.ref b)]))
    have KA222 := (Keep.refl h205 [b, tb])
    have KA223 := (KA222.trans K1 (allS (Or.inl (by simp)) all0))
    have KA224 := (KA223.trans K5 (allS (Or.inr fru) all0))
    have KA225 : Keep h205 h214 [b, tb] := (KA224.trans K214 (allS (Or.inl (by simp)) all0))
    have F226 := V5.keep K214 (ninS (Ne.symm nBU) nin0)
    have F227 := EB1.keep K5
    have F228 := F227.keep K214
    exact g_aret S214 (hb hby dAN_54) hret rfl rfl rfl ⟨rfl, nd, u, _, _, _, hnd, KA225, Or.inr fru, A214, F220, F221, F214, F226, by rw [pc_.2], by rw [pc_.2, ll]; decide, pc_.1, F228⟩
  · skip
    show Go p e below _ (T205.setTop (mkF m 14 #[.val (.ref b), .val (.int x), .val (.int (Int32.ofNat ds.length)), .val (.int (Int32.ofNat (ds ++ decC x nd).length))] [(.int (Int32.ofNat (ds ++ decC x nd).length)), (.ref b)]))
    show Go p e below _ (T205.setTop (mkF m 14 #[.val (.ref b), .val (.int x), .val (.int (Int32.ofNat ds.length)), .val (.int (Int32.ofNat (ds ++ decC x nd).length))] [(.int (Int32.ofNat (ds ++ decC x nd).length)), (.ref b)]))
    refine g_private S205 (rmEG X S205.old Ex Fv Fk Fs Vb (by rw [o_int (by omega)]; omega) (by rw [o_int (by omega)]; omega)) (fun _ q => nomatch q) (w100 hw) (ni_sel (w103 hw) rfl) (w102 hw) (w101 hw) (w70 hw) (w104 hw) (by decide) (hb hby dAN_14) (by rw [hml]; rfl) b Ex [(.int (Int32.ofNat (ds ++ decC x nd).length))] (lenOf pd0 rfl) rfl rfl (Nat.le_of_ble_eq_true rfl) (Nat.le_of_ble_eq_true rfl) (Nat.le_of_ble_eq_true rfl) (Nat.le_of_ble_eq_true rfl) ?_
    intro v229 T229 V229 h229 S229 C229 q229
    obtain ⟨rfl, rfl⟩ := q229
    have sf230 := C229.safe Vb.lt sf206
    have ll : bs.length = 16 := hbl
    have VV : Arv Z h229 tb kb .byte (Int32.ofNat bs.length) bs (.int (0 : Int32)) := by rw [ll]; exact Vb
    have pc_ := pre_copy (us := bz (decC x nd)) hpr (by rw [bz_len, bz_len, ll]; omega)
    rw [bz_len, bz_len, ← bz_app, ← lap] at pc_
    show Go p e below _ (T229.setTop (mkF m 17 #[.val (.ref b), .val (.int x), .val (.int (Int32.ofNat ds.length)), .val (.int (Int32.ofNat (ds ++ decC x nd).length))] []))
    refine s_aloadN S229 (hb hby dAN_17) rfl rfl (pc' := 18) rfl ?_
    show Go p e below _ (T229.setTop (mkF m 18 #[.val (.ref b), .val (.int x), .val (.int (Int32.ofNat ds.length)), .val (.int (Int32.ofNat (ds ++ decC x nd).length))] [(.ref b)]))
    refine g_virtual S229 (rmIL X S229.old Ex Fv Fk Fs) (fun _ q => nomatch q) (w140 hw) (w141 hw) (w143 hw) (w142 hw) (w70 hw) (w144 hw) (by decide) (fun _ h => notFace_of_selects h) (hb hby dAN_18) (by rw [hml]; rfl) b Ex [] (lenOf pd11 rfl) rfl rfl (Nat.le_of_ble_eq_true rfl) (Nat.le_of_ble_eq_true rfl) (Nat.le_of_ble_eq_true rfl) (Nat.le_of_ble_eq_true rfl) ?_
    intro v231 T231 V231 h231 S231 C231 q231
    obtain ⟨rfl, rfl⟩ := q231
    have sf232 := C231.safe Vb.lt sf230
    show Go p e below _ (T231.setTop (mkF m 21 #[.val (.ref b), .val (.int x), .val (.int (Int32.ofNat ds.length)), .val (.int (Int32.ofNat (ds ++ decC x nd).length))] [(.int (1 : Int32))]))
    refine s_ifN S231 (hb hby dAN_21) (by decide) (pc' := 24) rfl ?_
    refine s_iloadN S231 (hb hby dAN_24) rfl (pc' := 25) rfl ?_
    refine s_iloadN S231 (hb hby dAN_25) rfl (pc' := 26) rfl ?_
    refine s_aloadN S231 (hb hby dAN_26) rfl rfl (pc' := 27) rfl ?_
    refine g_getF S231 (w74 hw) Via.refl Fv (hb hby dAN_27) ?_
    intro T233 ST233
    show Go p e below _ (T233.setTop (mkF m 30 #[.val (.ref b), .val (.int x), .val (.int (Int32.ofNat ds.length)), .val (.int (Int32.ofNat (ds ++ decC x nd).length))] [(.ref tb), (.int (Int32.ofNat (ds ++ decC x nd).length)), (.int x)]))
    show Go p e below _ (T233.setTop (mkF m 30 #[.val (.ref b), .val (.int x), .val (.int (Int32.ofNat ds.length)), .val (.int (Int32.ofNat (ds ++ decC x nd).length))] [(.ref tb), (.int (Int32.ofNat (ds ++ decC x nd).length)), (.int x)]))
    refine g_static ST233 (rmGC X x (P := ds.length) (nd := nd) (I := (ds ++ decC x nd).length) nb ST233.old VV hnd lap (by rw [ll]; omega) (by rw [ll]; decide)) (sf1 VV.lt sf232) (w145 hw) (w146 hw) (w138 hw) (w147 hw) (by decide) (hb hby dAN_30) (by rw [hml]; rfl) [(.int x), (.int (Int32.ofNat (ds ++ decC x nd).length)), (.ref tb)] (lenOf pd12 rfl) rfl rfl (Nat.le_of_ble_eq_true rfl) (Nat.le_of_ble_eq_true rfl) (Nat.le_of_ble_eq_true rfl) (Nat.le_of_ble_eq_true rfl) ?_
    intro v234 T234 V234 h234 S234 C234 q234
    obtain ⟨rfl, K5, V5⟩ := q234
    have sf235 := C234.safe Vb.lt sf232
    show Go p e below _ (T234.setTop (mkF m 33 #[.val (.ref b), .val (.int x), .val (.int (Int32.ofNat ds.length)), .val (.int (Int32.ofNat (ds ++ decC x nd).length))] [(.int (Int32.ofNat ds.length))]))
    refine s_pop S234 (hb hby dAN_33) rfl (pc' := 34) rfl ?_
    refine s_goto S234 (hb hby dAN_34) (by decide) (pcT := 48) (by decide) ?_
    refine s_aloadN S234 (hb hby dAN_48) rfl rfl (pc' := 49) rfl ?_
    refine s_iloadN S234 (hb hby dAN_49) rfl (pc' := 50) rfl ?_
    show Go p e below _ (T234.setTop (mkF m 50 #[.val (.ref b), .val (.int x), .val (.int (Int32.ofNat ds.length)), .val (.int (Int32.ofNat (ds ++ decC x nd).length))] [(.int (Int32.ofNat (ds ++ decC x nd).length)), (.ref b)]))
    have F237 := Fs.keep K5 (ninS nXB nin0)
    have F238 := Ex.keep K5
    have F239 := Fv.keep K5 (ninS nXB nin0)
    have F240 := Fk.keep K5 (ninS nXB nin0)
    refine g_putF S234 (w98 hw) Via.refl F237 F238 (Or.inl (w99 hw)) (w61 hw) (ty := .int) (v' := (.int (Int32.ofNat (ds ++ decC x nd).length))) (by decide) rfl rfl nx (Safe.exa S234.warm.alike F238 (by decide) (by decide)) (hb hby dAN_50) ?_
    intro T236 h236 S236 K236 W236 A236 F236 sg236
    have sf241 := Safe.keep K236 (sfS (Safe.exa S234.warm.alike F238 (by decide) (by decide)) sf0) S234.chv sf235
    have F242 := F239.other W236 (Or.inr (slot_ne (Or.inl (w75 hw)) (Or.inl (w99 hw)) (by decide) (t := (.array .byte)) (t' := .int) (by decide) (by decide)))
    have F243 := F240.other W236 (Or.inr (slot_ne (Or.inl (w77 hw)) (Or.inl (w99 hw)) (by decide) (t := .byte) (t' := .int) (by decide) (by decide)))
    show Go p e below _ (T236.setTop (mkF m 53 #[.val (.ref b), .val (.int x), .val (.int (Int32.ofNat ds.length)), .val (.int (Int32.ofNat (ds ++ decC x nd).length))] []))
    refine s_aloadN S236 (hb hby dAN_53) rfl rfl (pc' := 54) rfl ?_
    show Go p e below _ (T236.setTop (mkF m 54 #[.val (.ref b), .val (.int x), .val (.int (Int32.ofNat ds.length)), .val (.int (Int32.ofNat (ds ++ decC x nd).length))] [(.ref b)]))
    have KA244 := (Keep.refl h231 [b, tb])
    have KA245 := (KA244.trans K5 (allS (Or.inl (by simp)) all0))
    have KA246 : Keep h231 h236 [b, tb] := (KA245.trans K236 (allS (Or.inl (by simp)) all0))
    have F247 := V5.keep K236 (ninS (Ne.symm nXB) nin0)
    have F248 := EB.keep K5
    have F249 := F248.keep K236
    exact g_aret S236 (hb hby dAN_54) hret rfl rfl rfl ⟨rfl, nd, tb, _, _, _, hnd, KA246, Or.inl rfl, A236, F242, F243, F236, F247, by rw [pc_.2], by rw [pc_.2, ll]; decide, pc_.1, F249⟩
theorem dSX_0 : decode jdk_67_method_15_code 0 = .ok (.aload_n 0, 1) := by decide +kernel
theorem dSX_1 : decode jdk_67_method_15_code 1 = .ok (.iload_n 1, 1) := by decide +kernel
theorem dSX_2 : decode jdk_67_method_15_code 2 = .ok (.invokespecial 53, 3) := by decide +kernel
theorem dSX_5 : decode jdk_67_method_15_code 5 = .ok (.pop, 1) := by decide +kernel
theorem dSX_6 : decode jdk_67_method_15_code 6 = .ok (.aload_n 0, 1) := by decide +kernel
theorem dSX_7 : decode jdk_67_method_15_code 7 = .ok (.areturn, 1) := by decide +kernel
set_option maxRecDepth 65536 in
set_option maxHeartbeats 40000000 in
theorem rmSX {l : Launch} {Z : State} {a0 : Array Value} {n0 : Nat} (X : Ctx Z a0) {b tb : Addr} {kb : ClassId} {ds : List Int32} {bs : List Value} (x : Int32) (nx : n0 ≤ b) (nb : n0 ≤ tb) {h : Heap} (hO : Old Z n0 h) (Ex : Exa Z h b "java/lang/StringBuilder") (Fv : Fld Z h b "java/lang/AbstractStringBuilder" "value" "[B" (.ref tb)) (Fk : Fld Z h b "java/lang/AbstractStringBuilder" "coder" "B" (.int (0 : Int32))) (Fs : Fld Z h b "java/lang/AbstractStringBuilder" "count" "I" (.int (Int32.ofNat ds.length))) (Vb : Arv Z h tb kb .byte (16 : Int32) bs (.int (0 : Int32))) (EB : Exa Z h tb "[B") (hpr : bz ds <+: bs) (hbl : bs.length = 16) (hds : ds.length ≤ 14) :
    Ctr l Z EL1 n0 (⟨"java/lang/StringBuilder", "append", "(I)Ljava/lang/StringBuilder;"⟩ : MethodName) jdk_67_method_15_code 2 (some (.object "java/lang/StringBuilder")) ({ frames := 5, cells := 1, slots := 34, locals := 83 } : Room) #[(.ref b), (.int x)] h [tb] (fun v h' => v = some (.ref b) ∧ ∃ (nd : Nat) (u : Addr) (ku : ClassId) (zb : Int32) (bs' : List Value), Nd x.toInt.natAbs nd ∧ Keep h h' [b, tb] ∧ (u = tb ∨ h.size ≤ u) ∧ Exa Z h' b "java/lang/StringBuilder" ∧ Fld Z h' b "java/lang/AbstractStringBuilder" "value" "[B" (.ref u) ∧ Fld Z h' b "java/lang/AbstractStringBuilder" "coder" "B" (.int (0 : Int32)) ∧ Fld Z h' b "java/lang/AbstractStringBuilder" "count" "I" (.int (Int32.ofNat (ds ++ decC x nd).length)) ∧ Arv Z h' u ku .byte zb bs' (.int (0 : Int32)) ∧ zb = Int32.ofNat bs'.length ∧ bs'.length ≤ 34 ∧ bz (ds ++ decC x nd) <+: bs' ∧ Exa Z h' u "[B") := by
  have hw := X.hw
  obtain ⟨z1, hz1, hz2⟩ := X.2.2.1
  refine Ctr.intro (a0 := a0) (plainFor_of_name pn1) hO X.ew ?_
  intro p e s m below meth c T0 V0 S0 hby hml hret hnm hsf
  rw [ef1]
  refine s_aloadN S0 (hb hby dSX_0) rfl rfl (pc' := 1) rfl ?_
  refine s_iloadN S0 (hb hby dSX_1) rfl (pc' := 2) rfl ?_
  show Go p e below _ (T0.setTop (mkF m 2 #[.val (.ref b), .val (.int x)] [(.int x), (.ref b)]))
  refine g_super S0 (rmAN X x nx nb S0.old Ex Fv Fk Fs Vb EB hpr hbl hds) (sf1 Vb.lt (hsf tb List.mem_cons_self)) (by decide) (w132 hw) (ni_sel (w103 hw) rfl) (w133 hw) (w85 hw) (w70 hw) (w135 hw) (by decide) (hb hby dSX_2) (by rw [hml]; rfl) b Ex [(.int x)] (lenOf pd13 rfl) rfl rfl (Nat.le_of_ble_eq_true rfl) (Nat.le_of_ble_eq_true rfl) (Nat.le_of_ble_eq_true rfl) (Nat.le_of_ble_eq_true rfl) ?_
  intro v250 T250 V250 h250 S250 C250 q250
  obtain ⟨rfl, q1⟩ := q250
  have sf251 := C250.safe Vb.lt (hsf tb List.mem_cons_self)
  show Go p e below _ (T250.setTop (mkF m 5 #[.val (.ref b), .val (.int x)] [(.ref b)]))
  refine s_pop S250 (hb hby dSX_5) rfl (pc' := 6) rfl ?_
  refine s_aloadN S250 (hb hby dSX_6) rfl rfl (pc' := 7) rfl ?_
  exact g_aret S250 (hb hby dSX_7) hret rfl rfl rfl ⟨rfl, q1⟩
theorem dCK_0 : decode jdk_65_method_131_code 0 = .ok (.iload_n 1, 1) := by decide +kernel
theorem dCK_1 : decode jdk_65_method_131_code 1 = .ok (.iload_n 0, 1) := by decide +kernel
theorem dCK_2 : decode jdk_65_method_131_code 2 = .ok (.if_icmp .ge 35, 3) := by decide +kernel
theorem dCK_37 : decode jdk_65_method_131_code 37 = .ok (.return_, 1) := by decide +kernel
set_option maxRecDepth 65536 in
set_option maxHeartbeats 40000000 in
theorem rmCK {l : Launch} {Z : State} {a0 : Array Value} {n0 : Nat} (X : Ctx Z a0) {n : Nat} (hn : n ≤ 100000) {h : Heap} (hO : Old Z n0 h)  :
    Ctr l Z EL1 n0 (⟨"java/util/Arrays", "checkLength", "(II)V"⟩ : MethodName) jdk_65_method_131_code 2 none ({ frames := 0, cells := 0, slots := 0, locals := 0 } : Room) #[(.int (0 : Int32)), (.int (Int32.ofNat n))] h [] (fun v h' => v = none ∧ h' = h) := by
  have hw := X.hw
  obtain ⟨z1, hz1, hz2⟩ := X.2.2.1
  refine Ctr.intro (a0 := a0) (plainFor_of_name pn4) hO X.ew ?_
  intro p e s m below meth c T0 V0 S0 hby hml hret hnm hsf
  rw [ef0]
  refine s_iloadN S0 (hb hby dCK_0) rfl (pc' := 1) rfl ?_
  refine s_iloadN S0 (hb hby dCK_1) rfl (pc' := 2) rfl ?_
  refine s_icmpY S0 (hb hby dCK_2) ((flt (o_nn hn)).2.1) (by decide) (pcT := 37) (by decide) ?_
  exact g_ret S0 (hb hby dCK_37) hret ⟨rfl, rfl⟩
theorem dCR_0 : decode jdk_65_method_133_code 0 = .ok (.iload_n 1, 1) := by decide +kernel
theorem dCR_1 : decode jdk_65_method_133_code 1 = .ok (.iload_n 2, 1) := by decide +kernel
theorem dCR_2 : decode jdk_65_method_133_code 2 = .ok (.invokestatic 343, 3) := by decide +kernel
theorem dCR_5 : decode jdk_65_method_133_code 5 = .ok (.iload_n 2, 1) := by decide +kernel
theorem dCR_6 : decode jdk_65_method_133_code 6 = .ok (.iload_n 1, 1) := by decide +kernel
theorem dCR_7 : decode jdk_65_method_133_code 7 = .ok (.isub, 1) := by decide +kernel
theorem dCR_8 : decode jdk_65_method_133_code 8 = .ok (.istore_n 3, 1) := by decide +kernel
theorem dCR_9 : decode jdk_65_method_133_code 9 = .ok (.iload_n 3, 1) := by decide +kernel
theorem dCR_10 : decode jdk_65_method_133_code 10 = .ok (.newarray .byte, 2) := by decide +kernel
theorem dCR_12 : decode jdk_65_method_133_code 12 = .ok (.astore 4, 2) := by decide +kernel
theorem dCR_14 : decode jdk_65_method_133_code 14 = .ok (.aload_n 0, 1) := by decide +kernel
theorem dCR_15 : decode jdk_65_method_133_code 15 = .ok (.iload_n 1, 1) := by decide +kernel
theorem dCR_16 : decode jdk_65_method_133_code 16 = .ok (.aload 4, 2) := by decide +kernel
theorem dCR_18 : decode jdk_65_method_133_code 18 = .ok (.iconst 0, 1) := by decide +kernel
theorem dCR_19 : decode jdk_65_method_133_code 19 = .ok (.aload_n 0, 1) := by decide +kernel
theorem dCR_20 : decode jdk_65_method_133_code 20 = .ok (.arraylength, 1) := by decide +kernel
theorem dCR_21 : decode jdk_65_method_133_code 21 = .ok (.iload_n 1, 1) := by decide +kernel
theorem dCR_22 : decode jdk_65_method_133_code 22 = .ok (.isub, 1) := by decide +kernel
theorem dCR_23 : decode jdk_65_method_133_code 23 = .ok (.iload_n 3, 1) := by decide +kernel
theorem dCR_24 : decode jdk_65_method_133_code 24 = .ok (.invokestatic 304, 3) := by decide +kernel
theorem dCR_27 : decode jdk_65_method_133_code 27 = .ok (.invokestatic 150, 3) := by decide +kernel
theorem dCR_30 : decode jdk_65_method_133_code 30 = .ok (.aload 4, 2) := by decide +kernel
theorem dCR_32 : decode jdk_65_method_133_code 32 = .ok (.areturn, 1) := by decide +kernel
set_option maxRecDepth 65536 in
set_option maxHeartbeats 40000000 in
theorem rmCR {l : Launch} {Z : State} {a0 : Array Value} {n0 : Nat} (X : Ctx Z a0) {tb : Addr} {kb : ClassId} {bs : List Value} {n : Nat} {h : Heap} (hO : Old Z n0 h) (Vb : Arv Z h tb kb .byte (Int32.ofNat bs.length) bs (.int (0 : Int32))) (hn : n ≤ bs.length) (hbs : bs.length ≤ 34) :
    Ctr l Z EL1 n0 (⟨"java/util/Arrays", "copyOfRangeByte", "([BII)[B"⟩ : MethodName) jdk_65_method_133_code 5 (some (.array .byte)) ({ frames := 1, cells := 1, slots := 34, locals := 19 } : Room) #[(.ref tb), (.int (0 : Int32)), (.int (Int32.ofNat n))] h [] (fun v h' => ∃ u ku, v = some (.ref u) ∧ Ext h h' ∧ h.size ≤ u ∧ Arv Z h' u ku .byte (Int32.ofNat n) (bs.take n) (.int (0 : Int32))) := by
  have hw := X.hw
  obtain ⟨z1, hz1, hz2⟩ := X.2.2.1
  refine Ctr.intro (a0 := a0) (plainFor_of_name pn4) hO X.ew ?_
  intro p e s m below meth c T0 V0 S0 hby hml hret hnm hsf
  rw [ef13]
  have ln_ : n ≤ 100000 := by omega
  have lb_ : bs.length ≤ 100000 := by omega
  show Go p e below _ (T0.setTop (mkF m 0 #[.val (.ref tb), .val (.int (0 : Int32)), .val (.int (Int32.ofNat n)), .unset, .unset] []))
  refine s_iloadN S0 (hb hby dCR_0) rfl (pc' := 1) rfl ?_
  refine s_iloadN S0 (hb hby dCR_1) rfl (pc' := 2) rfl ?_
  show Go p e below _ (T0.setTop (mkF m 2 #[.val (.ref tb), .val (.int (0 : Int32)), .val (.int (Int32.ofNat n)), .unset, .unset] [(.int (Int32.ofNat n)), (.int (0 : Int32))]))
  refine g_static S0 (rmCK X ln_ S0.old) (fun _ q => nomatch q) (w182 hw) (w183 hw) (w177 hw) (w184 hw) (by decide) (hb hby dCR_2) (by rw [hml]; rfl) [(.int (0 : Int32)), (.int (Int32.ofNat n))] (lenOf pd14 rfl) rfl rfl (Nat.le_of_ble_eq_true rfl) (Nat.le_of_ble_eq_true rfl) (Nat.le_of_ble_eq_true rfl) (Nat.le_of_ble_eq_true rfl) ?_
  intro v252 T252 V252 h252 S252 C252 q252
  obtain ⟨rfl, rfl⟩ := q252
  show Go p e below _ (T252.setTop (mkF m 5 #[.val (.ref tb), .val (.int (0 : Int32)), .val (.int (Int32.ofNat n)), .unset, .unset] []))
  refine s_iloadN S252 (hb hby dCR_5) rfl (pc' := 6) rfl ?_
  refine s_iloadN S252 (hb hby dCR_6) rfl (pc' := 7) rfl ?_
  refine s_isub S252 (hb hby dCR_7) (z := (Int32.ofNat n)) (o_sub (b := 0) (by omega) ln_) (pc' := 8) rfl ?_
  refine s_istoreN S252 (hb hby dCR_8) (L' := #[.val (.ref tb), .val (.int (0 : Int32)), .val (.int (Int32.ofNat n)), .val (.int (Int32.ofNat n)), .unset]) rfl (pc' := 9) rfl ?_
  refine s_iloadN S252 (hb hby dCR_9) rfl (pc' := 10) rfl ?_
  show Go p e below _ (T252.setTop (mkF m 10 #[.val (.ref tb), .val (.int (0 : Int32)), .val (.int (Int32.ofNat n)), .val (.int (Int32.ofNat n)), .unset] [(.int (Int32.ofNat n))]))
  refine g_newarr (aty := .byte) S252 (w20 hw) (hb hby dCR_10) (o_nn ln_) (cap := 34) (by rw [o_nat ln_]; omega) (by decide) (Nat.le_of_ble_eq_true rfl) (Nat.le_of_ble_eq_true rfl) ?_
  intro T5 h5 u ku S5 E5 fr5 lt5 na5 sf5 A5
  have V5 := A5 n
  show Go p e below _ (T5.setTop (mkF m 12 #[.val (.ref tb), .val (.int (0 : Int32)), .val (.int (Int32.ofNat n)), .val (.int (Int32.ofNat n)), .unset] [(.ref u)]))
  refine s_astore S5 (hb hby dCR_12) rfl (L' := #[.val (.ref tb), .val (.int (0 : Int32)), .val (.int (Int32.ofNat n)), .val (.int (Int32.ofNat n)), .val (.ref u)]) rfl (pc' := 14) rfl ?_
  refine s_aloadN S5 (hb hby dCR_14) rfl rfl (pc' := 15) rfl ?_
  refine s_iloadN S5 (hb hby dCR_15) rfl (pc' := 16) rfl ?_
  refine s_aload S5 (hb hby dCR_16) rfl rfl (pc' := 18) rfl ?_
  refine s_iconst S5 (hb hby dCR_18) (v := (0 : Int32)) rfl (pc' := 19) rfl ?_
  refine s_aloadN S5 (hb hby dCR_19) rfl rfl (pc' := 20) rfl ?_
  have Vb253 := Vb.ext E5
  refine g_len S5 Vb253 (hb hby dCR_20) ?_
  show Go p e below _ (T5.setTop (mkF m 21 #[.val (.ref tb), .val (.int (0 : Int32)), .val (.int (Int32.ofNat n)), .val (.int (Int32.ofNat n)), .val (.ref u)] [(.int (Int32.ofNat bs.length)), (.int (0 : Int32)), (.ref u), (.int (0 : Int32)), (.ref tb)]))
  refine s_iloadN S5 (hb hby dCR_21) rfl (pc' := 22) rfl ?_
  refine s_isub S5 (hb hby dCR_22) (z := (Int32.ofNat bs.length)) (o_sub (b := 0) (by omega) lb_) (pc' := 23) rfl ?_
  refine s_iloadN S5 (hb hby dCR_23) rfl (pc' := 24) rfl ?_
  show Go p e below _ (T5.setTop (mkF m 24 #[.val (.ref tb), .val (.int (0 : Int32)), .val (.int (Int32.ofNat n)), .val (.int (Int32.ofNat n)), .val (.ref u)] [(.int (Int32.ofNat n)), (.int (Int32.ofNat bs.length)), (.int (0 : Int32)), (.ref u), (.int (0 : Int32)), (.ref tb)]))
  refine g_static S5 (rmMN X (z := (Int32.ofNat n)) (by rcases Nat.lt_or_ge n bs.length with q | q; exact if_pos (o_lt ln_ lb_ q); rw [Nat.le_antisymm hn q]; exact ite_self _) S5.old) (fun _ q => nomatch q) (w185 hw) (w186 hw) (w187 hw) (w188 hw) (by decide) (hb hby dCR_24) (by rw [hml]; rfl) [(.int (Int32.ofNat bs.length)), (.int (Int32.ofNat n))] (lenOf pd7 rfl) rfl rfl (Nat.le_of_ble_eq_true rfl) (Nat.le_of_ble_eq_true rfl) (Nat.le_of_ble_eq_true rfl) (Nat.le_of_ble_eq_true rfl) ?_
  intro v254 T254 V254 h254 S254 C254 q254
  obtain ⟨rfl, rfl⟩ := q254
  have sf255 := C254.safe lt5 sf5
  show Go p e below _ (T254.setTop (mkF m 27 #[.val (.ref tb), .val (.int (0 : Int32)), .val (.int (Int32.ofNat n)), .val (.int (Int32.ofNat n)), .val (.ref u)] [(.int (Int32.ofNat n)), (.int (0 : Int32)), (.ref u), (.int (0 : Int32)), (.ref tb)]))
  show Go p e below _ (T254.setTop (mkF m 27 #[.val (.ref tb), .val (.int (0 : Int32)), .val (.int (Int32.ofNat n)), .val (.int (Int32.ofNat n)), .val (.ref u)] [(.int (Int32.ofNat n)), (.int (0 : Int32)), (.ref u), (.int (0 : Int32)), (.ref tb)]))
  refine g_copy S254 (w189 hw) (w124 hw) (w122 hw) (w123 hw) Vb253 V5 rfl (by decide) (by decide) (o_nn ln_) (by rw [o_nat ln_, o_nat lb_]; show 0 + _ ≤ _; omega) (by show 0 + _ ≤ _; omega) (us := bs.take n) (cp_tk hn ln_) (by rw [o_nat ln_, List.length_replicate]; show 0 + _ ≤ _; omega) na5 sf255 (hb hby dCR_27) (by rw [hml]; rfl) (Nat.le_of_ble_eq_true rfl) (by decide) ?_
  intro T9 h9 S9 K9 V9 sg9
  have q : List.take (0 : Int32).toNatClampNeg (List.replicate n (.int (0 : Int32) : Value)) ++ bs.take n ++ List.drop ((0 : Int32).toNatClampNeg + n) (List.replicate n (.int (0 : Int32) : Value)) = bs.take n := by show List.take 0 _ ++ bs.take n ++ List.drop (0 + n) _ = _; simp
  replace V9 : Arv Z h9 u ku .byte (Int32.ofNat n) (bs.take n) (.int (0 : Int32)) := by rw [o_nat ln_] at V9; rw [← q]; exact V9
  refine s_aload S9 (hb hby dCR_30) rfl rfl (pc' := 32) rfl ?_
  show Go p e below _ (T9.setTop (mkF m 32 #[.val (.ref tb), .val (.int (0 : Int32)), .val (.int (Int32.ofNat n)), .val (.int (Int32.ofNat n)), .val (.ref u)] [(.ref u)]))
  have X256 : Ext h252 h9 := ext_keep1 E5 K9 fr5
  exact g_aret S9 (hb hby dCR_32) hret rfl rfl rfl ⟨u, ku, rfl, X256, fr5, V9⟩
theorem dCO_0 : decode jdk_65_method_132_code 0 = .ok (.iload_n 1, 1) := by decide +kernel
theorem dCO_1 : decode jdk_65_method_132_code 1 = .ok (.ifCond .ne 9, 3) := by decide +kernel
theorem dCO_4 : decode jdk_65_method_132_code 4 = .ok (.iload_n 2, 1) := by decide +kernel
theorem dCO_5 : decode jdk_65_method_132_code 5 = .ok (.aload_n 0, 1) := by decide +kernel
theorem dCO_6 : decode jdk_65_method_132_code 6 = .ok (.arraylength, 1) := by decide +kernel
theorem dCO_7 : decode jdk_65_method_132_code 7 = .ok (.if_icmp .eq 10, 3) := by decide +kernel
theorem dCO_10 : decode jdk_65_method_132_code 10 = .ok (.aload_n 0, 1) := by decide +kernel
theorem dCO_11 : decode jdk_65_method_132_code 11 = .ok (.iload_n 1, 1) := by decide +kernel
theorem dCO_12 : decode jdk_65_method_132_code 12 = .ok (.iload_n 2, 1) := by decide +kernel
theorem dCO_13 : decode jdk_65_method_132_code 13 = .ok (.invokestatic 339, 3) := by decide +kernel
theorem dCO_16 : decode jdk_65_method_132_code 16 = .ok (.areturn, 1) := by decide +kernel
theorem dCO_17 : decode jdk_65_method_132_code 17 = .ok (.aload_n 0, 1) := by decide +kernel
theorem dCO_18 : decode jdk_65_method_132_code 18 = .ok (.invokevirtual 310, 3) := by decide +kernel
theorem dCO_21 : decode jdk_65_method_132_code 21 = .ok (.checkcast 311, 3) := by decide +kernel
theorem dCO_24 : decode jdk_65_method_132_code 24 = .ok (.areturn, 1) := by decide +kernel
set_option maxRecDepth 65536 in
set_option maxHeartbeats 40000000 in
theorem rmCO {l : Launch} {Z : State} {a0 : Array Value} {n0 : Nat} (X : Ctx Z a0) {tb : Addr} {kb : ClassId} {bs : List Value} {n : Nat} {h : Heap} (hO : Old Z n0 h) (Vb : Arv Z h tb kb .byte (Int32.ofNat bs.length) bs (.int (0 : Int32))) (hn : n ≤ bs.length) (hbs : bs.length ≤ 34) (EB : Exa Z h tb "[B") :
    Ctr l Z EL1 n0 (⟨"java/util/Arrays", "copyOfRange", "([BII)[B"⟩ : MethodName) jdk_65_method_132_code 3 (some (.array .byte)) ({ frames := 2, cells := 1, slots := 34, locals := 35 } : Room) #[(.ref tb), (.int (0 : Int32)), (.int (Int32.ofNat n))] h [] (fun v h' => ∃ u ku, v = some (.ref u) ∧ Ext h h' ∧ h.size ≤ u ∧ Arv Z h' u ku .byte (Int32.ofNat n) (bs.take n) (.int (0 : Int32))) := by
  have hw := X.hw
  obtain ⟨z1, hz1, hz2⟩ := X.2.2.1
  refine Ctr.intro (a0 := a0) (plainFor_of_name pn4) hO X.ew ?_
  intro p e s m below meth c T0 V0 S0 hby hml hret hnm hsf
  rw [ef14]
  have ln_ : n ≤ 100000 := by omega
  have lb_ : bs.length ≤ 100000 := by omega
  show Go p e below _ (T0.setTop (mkF m 0 #[.val (.ref tb), .val (.int (0 : Int32)), .val (.int (Int32.ofNat n))] []))
  refine s_iloadN S0 (hb hby dCO_0) rfl (pc' := 1) rfl ?_
  refine s_ifN S0 (hb hby dCO_1) (by decide) (pc' := 4) rfl ?_
  refine s_iloadN S0 (hb hby dCO_4) rfl (pc' := 5) rfl ?_
  refine s_aloadN S0 (hb hby dCO_5) rfl rfl (pc' := 6) rfl ?_
  refine g_len S0 Vb (hb hby dCO_6) ?_
  show Go p e below _ (T0.setTop (mkF m 7 #[.val (.ref tb), .val (.int (0 : Int32)), .val (.int (Int32.ofNat n))] [(.int (Int32.ofNat bs.length)), (.int (Int32.ofNat n))]))
  refine g_icmp S0 (hb hby dCO_7) (by decide) (pcT := 17) (by decide) (fun q => ?_) (fun q => ?_)
  · have hc7_257 : (Int32.ofNat n) = (Int32.ofNat bs.length) := icT_eq q
    have nb_ : n = bs.length := o_inj ln_ lb_ hc7_257
    show Go p e below _ (T0.setTop (mkF m 17 #[.val (.ref tb), .val (.int (0 : Int32)), .val (.int (Int32.ofNat n))] []))
    refine s_aloadN S0 (hb hby dCO_17) rfl rfl (pc' := 18) rfl ?_
    show Go p e below _ (T0.setTop (mkF m 18 #[.val (.ref tb), .val (.int (0 : Int32)), .val (.int (Int32.ofNat n))] [(.ref tb)]))
    refine g_clone (ad := "[B") S0 (w248 hw) (w249 hw) (w253 hw) (w251 hw) (w252 hw) (w254 hw) Vb EB (by rw [hml]; rfl) (hb hby dCO_18) (Nat.le_of_ble_eq_true rfl) (Nat.le_of_ble_eq_true rfl) (cap := 34) (by rw [o_nat lb_]; omega) (Nat.le_of_ble_eq_true rfl) (Nat.le_of_ble_eq_true rfl) ?_
    intro T5 h5 u S5 Eu fru na5 V5 EA5
    have Vu : Arv Z h5 u kb .byte (Int32.ofNat n) (bs.take n) (.int (0 : Int32)) := by rw [nb_, List.take_length]; exact V5
    obtain ⟨ku, rfl⟩ : ∃ ku, ku = kb := ⟨_, rfl⟩
    show Go p e below _ (T5.setTop (mkF m 21 #[.val (.ref tb), .val (.int (0 : Int32)), .val (.int (Int32.ofNat n))] [(.ref u)]))
    show Go p e below _ (T5.setTop (mkF m 21 #[.val (.ref tb), .val (.int (0 : Int32)), .val (.int (Int32.ofNat n))] [(.ref u)]))
    refine g_cast S5 (w255 hw) (Ins.of_exa EA5 (w256 hw)) (hb hby dCO_21) ?_
    intro T6 S6
    show Go p e below _ (T6.setTop (mkF m 24 #[.val (.ref tb), .val (.int (0 : Int32)), .val (.int (Int32.ofNat n))] [(.ref u)]))
    exact g_aret S6 (hb hby dCO_24) hret rfl rfl rfl ⟨u, ku, rfl, Eu, fru, Vu⟩
  · have hc7_257 : ¬ (Int32.ofNat n) = (Int32.ofNat bs.length) := icF_eq q
    show Go p e below _ (T0.setTop (mkF m 10 #[.val (.ref tb), .val (.int (0 : Int32)), .val (.int (Int32.ofNat n))] []))
    refine s_aloadN S0 (hb hby dCO_10) rfl rfl (pc' := 11) rfl ?_
    refine s_iloadN S0 (hb hby dCO_11) rfl (pc' := 12) rfl ?_
    refine s_iloadN S0 (hb hby dCO_12) rfl (pc' := 13) rfl ?_
    show Go p e below _ (T0.setTop (mkF m 13 #[.val (.ref tb), .val (.int (0 : Int32)), .val (.int (Int32.ofNat n))] [(.int (Int32.ofNat n)), (.int (0 : Int32)), (.ref tb)]))
    refine g_static S0 (rmCR X S0.old Vb hn hbs) (fun _ q => nomatch q) (w179 hw) (w180 hw) (w177 hw) (w181 hw) (by decide) (hb hby dCO_13) (by rw [hml]; rfl) [(.ref tb), (.int (0 : Int32)), (.int (Int32.ofNat n))] (lenOf pd15 rfl) rfl rfl (Nat.le_of_ble_eq_true rfl) (Nat.le_of_ble_eq_true rfl) (Nat.le_of_ble_eq_true rfl) (Nat.le_of_ble_eq_true rfl) ?_
    intro v258 T258 V258 h258 S258 C258 q258
    obtain ⟨u, ku, rfl, Eu, fru, Vu⟩ := q258
    show Go p e below _ (T258.setTop (mkF m 16 #[.val (.ref tb), .val (.int (0 : Int32)), .val (.int (Int32.ofNat n))] [(.ref u)]))
    exact g_aret S258 (hb hby dCO_16) hret rfl rfl rfl ⟨u, ku, rfl, Eu, fru, Vu⟩
theorem dSV_0 : decode jdk_42_method_150_code 0 = .ok (.aload_n 0, 1) := by decide +kernel
theorem dSV_1 : decode jdk_42_method_150_code 1 = .ok (.invokespecial 1, 3) := by decide +kernel
theorem dSV_4 : decode jdk_42_method_150_code 4 = .ok (.aload_n 1, 1) := by decide +kernel
theorem dSV_5 : decode jdk_42_method_150_code 5 = .ok (.invokevirtual 552, 3) := by decide +kernel
theorem dSV_8 : decode jdk_42_method_150_code 8 = .ok (.astore_n 3, 1) := by decide +kernel
theorem dSV_9 : decode jdk_42_method_150_code 9 = .ok (.aload_n 1, 1) := by decide +kernel
theorem dSV_10 : decode jdk_42_method_150_code 10 = .ok (.invokevirtual 549, 3) := by decide +kernel
theorem dSV_13 : decode jdk_42_method_150_code 13 = .ok (.istore 4, 2) := by decide +kernel
theorem dSV_15 : decode jdk_42_method_150_code 15 = .ok (.aload_n 1, 1) := by decide +kernel
theorem dSV_16 : decode jdk_42_method_150_code 16 = .ok (.invokevirtual 1047, 3) := by decide +kernel
theorem dSV_19 : decode jdk_42_method_150_code 19 = .ok (.ifCond .eq 22, 3) := by decide +kernel
theorem dSV_22 : decode jdk_42_method_150_code 22 = .ok (.aload_n 0, 1) := by decide +kernel
theorem dSV_23 : decode jdk_42_method_150_code 23 = .ok (.iconst 0, 1) := by decide +kernel
theorem dSV_24 : decode jdk_42_method_150_code 24 = .ok (.putfield 15, 3) := by decide +kernel
theorem dSV_27 : decode jdk_42_method_150_code 27 = .ok (.aload_n 0, 1) := by decide +kernel
theorem dSV_28 : decode jdk_42_method_150_code 28 = .ok (.aload_n 3, 1) := by decide +kernel
theorem dSV_29 : decode jdk_42_method_150_code 29 = .ok (.iconst 0, 1) := by decide +kernel
theorem dSV_30 : decode jdk_42_method_150_code 30 = .ok (.iload 4, 2) := by decide +kernel
theorem dSV_32 : decode jdk_42_method_150_code 32 = .ok (.invokestatic 54, 3) := by decide +kernel
theorem dSV_35 : decode jdk_42_method_150_code 35 = .ok (.putfield 9, 3) := by decide +kernel
theorem dSV_38 : decode jdk_42_method_150_code 38 = .ok (.goto 59, 3) := by decide +kernel
theorem dSV_97 : decode jdk_42_method_150_code 97 = .ok (.return_, 1) := by decide +kernel
set_option maxRecDepth 65536 in
set_option maxHeartbeats 40000000 in
theorem rmSV {l : Launch} {Z : State} {a0 : Array Value} {n0 : Nat} (X : Ctx Z a0) {a b tb : Addr} {kb : ClassId} {ds : List Int32} {bs : List Value} {v0 c0 : Value} (na : n0 ≤ a) {h : Heap} (hO : Old Z n0 h) (Ea : Exa Z h a "java/lang/String") (Fa : Fld Z h a "java/lang/String" "value" "[B" v0) (Fb : Fld Z h a "java/lang/String" "coder" "B" c0) (Ex : Exa Z h b "java/lang/StringBuilder") (Fv : Fld Z h b "java/lang/AbstractStringBuilder" "value" "[B" (.ref tb)) (Fk : Fld Z h b "java/lang/AbstractStringBuilder" "coder" "B" (.int (0 : Int32))) (Fs : Fld Z h b "java/lang/AbstractStringBuilder" "count" "I" (.int (Int32.ofNat ds.length))) (Vb : Arv Z h tb kb .byte (Int32.ofNat bs.length) bs (.int (0 : Int32))) (EB : Exa Z h tb "[B") (hpr : bz ds <+: bs) (hbs : bs.length ≤ 34) :
    Ctr l Z EL1 n0 (⟨"java/lang/String", "<init>", "(Ljava/lang/AbstractStringBuilder;Ljava/lang/Void;)V"⟩ : MethodName) jdk_42_method_150_code 5 none ({ frames := 3, cells := 1, slots := 34, locals := 50 } : Room) #[(.ref a), (.ref b), .null] h [a] (fun v h' => v = none ∧ Keep h h' [a] ∧ ∃ t kt, LC Z h' a t kt ds) := by
  have hw := X.hw
  obtain ⟨z1, hz1, hz2⟩ := X.2.2.1
  refine Ctr.intro (a0 := a0) (plainFor_of_name pn2) hO X.ew ?_
  intro p e s m below meth c T0 V0 S0 hby hml hret hnm hsf
  rw [ef15]
  have ldb : ds.length ≤ bs.length := by have := hpr.length_le; rwa [bz_len] at this
  have nAB : a ≠ b := ne_exa Ea Ex (by decide)
  have nAT : a ≠ tb := Exa.neArv Ea Vb (w2 hw)
  show Go p e below _ (T0.setTop (mkF m 0 #[.val (.ref a), .val (.ref b), .val .null, .unset, .unset] []))
  refine s_aloadN S0 (hb hby dSV_0) rfl rfl (pc' := 1) rfl ?_
  refine g_initO S0 (w12 hw) (w13 hw) (w14 hw) (by rw [hml]; rfl) (hb hby dSV_1) (Nat.le_of_ble_eq_true rfl) (Nat.le_of_ble_eq_true rfl) ?_
  intro T259 ST259
  show Go p e below _ (T259.setTop (mkF m 4 #[.val (.ref a), .val (.ref b), .val .null, .unset, .unset] []))
  refine s_aloadN ST259 (hb hby dSV_4) rfl rfl (pc' := 5) rfl ?_
  show Go p e below _ (T259.setTop (mkF m 5 #[.val (.ref a), .val (.ref b), .val .null, .unset, .unset] [(.ref b)]))
  refine g_virtual ST259 (rmGV X ST259.old Ex Fv Fk Fs) (fun _ q => nomatch q) (w161 hw) (w162 hw) (w164 hw) (w163 hw) (w70 hw) (w165 hw) (by decide) (fun _ h => notFace_of_selects h) (hb hby dSV_5) (by rw [hml]; rfl) b Ex [] (lenOf pd16 rfl) rfl rfl (Nat.le_of_ble_eq_true rfl) (Nat.le_of_ble_eq_true rfl) (Nat.le_of_ble_eq_true rfl) (Nat.le_of_ble_eq_true rfl) ?_
  intro v260 T260 V260 h260 S260 C260 q260
  obtain ⟨rfl, rfl⟩ := q260
  have sf261 := C260.safe Ea.lt (hsf a List.mem_cons_self)
  show Go p e below _ (T260.setTop (mkF m 8 #[.val (.ref a), .val (.ref b), .val .null, .unset, .unset] [(.ref tb)]))
  refine s_astoreN S260 (hb hby dSV_8) rfl (L' := #[.val (.ref a), .val (.ref b), .val .null, .val (.ref tb), .unset]) rfl (pc' := 9) rfl ?_
  refine s_aloadN S260 (hb hby dSV_9) rfl rfl (pc' := 10) rfl ?_
  show Go p e below _ (T260.setTop (mkF m 10 #[.val (.ref a), .val (.ref b), .val .null, .val (.ref tb), .unset] [(.ref b)]))
  refine g_virtualN S260 (rmSL X S260.old Ex Fv Fk Fs) (fun _ q => nomatch q) (w166 hw) (w167 hw) (w169 hw) (w170 hw) (w62 hw) (w171 hw) (by decide) (ni_sel (w103 hw) rfl) (hb hby dSV_10) (by rw [hml]; rfl) b Ex [] (lenOf pd1 rfl) rfl rfl (Nat.le_of_ble_eq_true rfl) (Nat.le_of_ble_eq_true rfl) (Nat.le_of_ble_eq_true rfl) (Nat.le_of_ble_eq_true rfl) ?_
  intro v262 T262 V262 h262 S262 C262 q262
  obtain ⟨rfl, rfl⟩ := q262
  have sf263 := C262.safe Ea.lt sf261
  show Go p e below _ (T262.setTop (mkF m 13 #[.val (.ref a), .val (.ref b), .val .null, .val (.ref tb), .unset] [(.int (Int32.ofNat ds.length))]))
  refine s_istore S262 (hb hby dSV_13) (L' := #[.val (.ref a), .val (.ref b), .val .null, .val (.ref tb), .val (.int (Int32.ofNat ds.length))]) rfl (pc' := 15) rfl ?_
  refine s_aloadN S262 (hb hby dSV_15) rfl rfl (pc' := 16) rfl ?_
  show Go p e below _ (T262.setTop (mkF m 16 #[.val (.ref a), .val (.ref b), .val .null, .val (.ref tb), .val (.int (Int32.ofNat ds.length))] [(.ref b)]))
  refine g_virtual S262 (rmIL X S262.old Ex Fv Fk Fs) (fun _ q => nomatch q) (w174 hw) (w141 hw) (w143 hw) (w142 hw) (w70 hw) (w144 hw) (by decide) (fun _ h => notFace_of_selects h) (hb hby dSV_16) (by rw [hml]; rfl) b Ex [] (lenOf pd11 rfl) rfl rfl (Nat.le_of_ble_eq_true rfl) (Nat.le_of_ble_eq_true rfl) (Nat.le_of_ble_eq_true rfl) (Nat.le_of_ble_eq_true rfl) ?_
  intro v264 T264 V264 h264 S264 C264 q264
  obtain ⟨rfl, rfl⟩ := q264
  have sf265 := C264.safe Ea.lt sf263
  show Go p e below _ (T264.setTop (mkF m 19 #[.val (.ref a), .val (.ref b), .val .null, .val (.ref tb), .val (.int (Int32.ofNat ds.length))] [(.int (1 : Int32))]))
  refine s_ifN S264 (hb hby dSV_19) (by decide) (pc' := 22) rfl ?_
  refine s_aloadN S264 (hb hby dSV_22) rfl rfl (pc' := 23) rfl ?_
  refine s_iconst S264 (hb hby dSV_23) (v := (0 : Int32)) rfl (pc' := 24) rfl ?_
  show Go p e below _ (T264.setTop (mkF m 24 #[.val (.ref a), .val (.ref b), .val .null, .val (.ref tb), .val (.int (Int32.ofNat ds.length))] [(.int (0 : Int32)), (.ref a)]))
  refine g_putF S264 (w27 hw) Via.refl Fb Ea (Or.inr ⟨(w28 hw), rfl, hnm⟩) (w2 hw) (ty := .byte) (v' := (.int (0 : Int32))) (by decide) rfl rfl na sf265 (hb hby dSV_24) ?_
  intro T266 h266 S266 K266 W266 A266 F266 sg266
  have sf267 := Safe.keep K266 (sfS sf265 sf0) S264.chv sf265
  have F268 := Fa.other W266 (Or.inr (slot_ne (Or.inr (w30 hw)) (Or.inr (w28 hw)) (by decide) (t := (.array .byte)) (t' := .byte) (by decide) (by decide)))
  show Go p e below _ (T266.setTop (mkF m 27 #[.val (.ref a), .val (.ref b), .val .null, .val (.ref tb), .val (.int (Int32.ofNat ds.length))] []))
  refine s_aloadN S266 (hb hby dSV_27) rfl rfl (pc' := 28) rfl ?_
  refine s_aloadN S266 (hb hby dSV_28) rfl rfl (pc' := 29) rfl ?_
  refine s_iconst S266 (hb hby dSV_29) (v := (0 : Int32)) rfl (pc' := 30) rfl ?_
  refine s_iload S266 (hb hby dSV_30) rfl (pc' := 32) rfl ?_
  have F269 := Vb.keep K266 (ninS (Ne.symm nAT) nin0)
  have F270 := EB.keep K266
  show Go p e below _ (T266.setTop (mkF m 32 #[.val (.ref a), .val (.ref b), .val .null, .val (.ref tb), .val (.int (Int32.ofNat ds.length))] [(.int (Int32.ofNat ds.length)), (.int (0 : Int32)), (.ref tb), (.ref a)]))
  refine g_static S266 (rmCO X S266.old F269 ldb hbs F270) (fun _ q => nomatch q) (w175 hw) (w176 hw) (w177 hw) (w178 hw) (by decide) (hb hby dSV_32) (by rw [hml]; rfl) [(.ref tb), (.int (0 : Int32)), (.int (Int32.ofNat ds.length))] (lenOf pd15 rfl) rfl rfl (Nat.le_of_ble_eq_true rfl) (Nat.le_of_ble_eq_true rfl) (Nat.le_of_ble_eq_true rfl) (Nat.le_of_ble_eq_true rfl) ?_
  intro v271 T271 V271 h271 S271 C271 q271
  obtain ⟨u, ku, rfl, Eu, fru, Vu⟩ := q271
  have sf272 := C271.safe (Nat.lt_of_lt_of_le Ea.lt (Nat.le_trans (Nat.le_refl _) K266.1)) sg266
  have A273 := A266.ext Eu
  have nAU : a ≠ u := Exa.neArv A273 Vu (w2 hw)
  show Go p e below _ (T271.setTop (mkF m 35 #[.val (.ref a), .val (.ref b), .val .null, .val (.ref tb), .val (.int (Int32.ofNat ds.length))] [(.ref u), (.ref a)]))
  show Go p e below _ (T271.setTop (mkF m 35 #[.val (.ref a), .val (.ref b), .val .null, .val (.ref tb), .val (.int (Int32.ofNat ds.length))] [(.ref u), (.ref a)]))
  have F275 := F268.ext Eu
  have F276 := F266.ext Eu
  refine g_putF S271 (w29 hw) Via.refl F275 A273 (Or.inr ⟨(w30 hw), rfl, hnm⟩) (w2 hw) (ty := (.array .byte)) (v' := (.ref u)) (by decide) rfl rfl na sf272 (hb hby dSV_35) ?_
  intro T274 h274 S274 K274 W274 A274 F274 sg274
  have sf277 := Safe.keep K274 (sfS sf272 sf0) S271.chv sf272
  have F278 := F276.other W274 (Or.inr (slot_ne (Or.inr (w28 hw)) (Or.inr (w30 hw)) (by decide) (t := .byte) (t' := (.array .byte)) (by decide) (by decide)))
  show Go p e below _ (T274.setTop (mkF m 38 #[.val (.ref a), .val (.ref b), .val .null, .val (.ref tb), .val (.int (Int32.ofNat ds.length))] []))
  refine s_goto S274 (hb hby dSV_38) (by decide) (pcT := 97) (by decide) ?_
  show Go p e below _ (T274.setTop (mkF m 97 #[.val (.ref a), .val (.ref b), .val .null, .val (.ref tb), .val (.int (Int32.ofNat ds.length))] []))
  have KA279 : Keep h264 h274 [a] := ((((Keep.refl h264 [a]).trans K266 (fun y hy => Or.inl hy)).ext Eu).trans K274 (fun y hy => Or.inl hy))
  have F280 := Vu.keep K274 (ninS (Ne.symm nAU) nin0)
  have tk := pre_take hpr
  rw [bz_len] at tk
  rw [tk] at F280
  exact g_ret S274 (hb hby dSV_97) hret ⟨rfl, KA279, u, ku, A274, F274, F278, F280⟩
theorem dSW_0 : decode jdk_42_method_53_code 0 = .ok (.aload_n 0, 1) := by decide +kernel
theorem dSW_1 : decode jdk_42_method_53_code 1 = .ok (.aload_n 1, 1) := by decide +kernel
theorem dSW_2 : decode jdk_42_method_53_code 2 = .ok (.aconst_null, 1) := by decide +kernel
theorem dSW_3 : decode jdk_42_method_53_code 3 = .ok (.invokespecial 489, 3) := by decide +kernel
theorem dSW_6 : decode jdk_42_method_53_code 6 = .ok (.return_, 1) := by decide +kernel
set_option maxRecDepth 65536 in
set_option maxHeartbeats 40000000 in
theorem rmSW {l : Launch} {Z : State} {a0 : Array Value} {n0 : Nat} (X : Ctx Z a0) {a b tb : Addr} {kb : ClassId} {ds : List Int32} {bs : List Value} {v0 c0 : Value} (na : n0 ≤ a) {h : Heap} (hO : Old Z n0 h) (Ea : Exa Z h a "java/lang/String") (Fa : Fld Z h a "java/lang/String" "value" "[B" v0) (Fb : Fld Z h a "java/lang/String" "coder" "B" c0) (Ex : Exa Z h b "java/lang/StringBuilder") (Fv : Fld Z h b "java/lang/AbstractStringBuilder" "value" "[B" (.ref tb)) (Fk : Fld Z h b "java/lang/AbstractStringBuilder" "coder" "B" (.int (0 : Int32))) (Fs : Fld Z h b "java/lang/AbstractStringBuilder" "count" "I" (.int (Int32.ofNat ds.length))) (Vb : Arv Z h tb kb .byte (Int32.ofNat bs.length) bs (.int (0 : Int32))) (EB : Exa Z h tb "[B") (hpr : bz ds <+: bs) (hbs : bs.length ≤ 34) :
    Ctr l Z EL1 n0 (⟨"java/lang/String", "<init>", "(Ljava/lang/StringBuilder;)V"⟩ : MethodName) jdk_42_method_53_code 2 none ({ frames := 4, cells := 1, slots := 34, locals := 66 } : Room) #[(.ref a), (.ref b)] h [a] (fun v h' => v = none ∧ Keep h h' [a] ∧ ∃ t kt, LC Z h' a t kt ds) := by
  have hw := X.hw
  obtain ⟨z1, hz1, hz2⟩ := X.2.2.1
  refine Ctr.intro (a0 := a0) (plainFor_of_name pn2) hO X.ew ?_
  intro p e s m below meth c T0 V0 S0 hby hml hret hnm hsf
  rw [ef3]
  refine s_aloadN S0 (hb hby dSW_0) rfl rfl (pc' := 1) rfl ?_
  refine s_aloadN S0 (hb hby dSW_1) rfl rfl (pc' := 2) rfl ?_
  refine s_null S0 (hb hby dSW_2) (pc' := 3) rfl ?_
  show Go p e below _ (T0.setTop (mkF m 3 #[.val (.ref a), .val (.ref b)] [.null, (.ref b), (.ref a)]))
  refine g_special S0 (rmSV X na S0.old Ea Fa Fb Ex Fv Fk Fs Vb EB hpr hbs) (sf1 Ea.lt (hsf a List.mem_cons_self)) rfl (w158 hw) (w159 hw) (w3 hw) (w160 hw) (by decide) (hb hby dSW_3) (by rw [hml]; rfl) a [(.ref b), .null] (lenOf pd17 rfl) rfl rfl (Nat.le_of_ble_eq_true rfl) (Nat.le_of_ble_eq_true rfl) (Nat.le_of_ble_eq_true rfl) (Nat.le_of_ble_eq_true rfl) ?_
  intro v281 T281 V281 h281 S281 C281 q281
  obtain ⟨rfl, K1, q1⟩ := q281
  have sf282 := C281.safe Ea.lt (hsf a List.mem_cons_self)
  show Go p e below _ (T281.setTop (mkF m 6 #[.val (.ref a), .val (.ref b)] []))
  exact g_ret S281 (hb hby dSW_6) hret ⟨rfl, K1, q1⟩
theorem dTO_0 : decode jdk_67_method_42_code 0 = .ok (.new 18, 3) := by decide +kernel
theorem dTO_3 : decode jdk_67_method_42_code 3 = .ok (.dup, 1) := by decide +kernel
theorem dTO_4 : decode jdk_67_method_42_code 4 = .ok (.aload_n 0, 1) := by decide +kernel
theorem dTO_5 : decode jdk_67_method_42_code 5 = .ok (.invokespecial 137, 3) := by decide +kernel
theorem dTO_8 : decode jdk_67_method_42_code 8 = .ok (.areturn, 1) := by decide +kernel
set_option maxRecDepth 65536 in
set_option maxHeartbeats 40000000 in
theorem rmTO {l : Launch} {Z : State} {a0 : Array Value} {n0 : Nat} (X : Ctx Z a0) {b tb : Addr} {kb : ClassId} {ds : List Int32} {bs : List Value} {h : Heap} (hO : Old Z n0 h) (Ex : Exa Z h b "java/lang/StringBuilder") (Fv : Fld Z h b "java/lang/AbstractStringBuilder" "value" "[B" (.ref tb)) (Fk : Fld Z h b "java/lang/AbstractStringBuilder" "coder" "B" (.int (0 : Int32))) (Fs : Fld Z h b "java/lang/AbstractStringBuilder" "count" "I" (.int (Int32.ofNat ds.length))) (Vb : Arv Z h tb kb .byte (Int32.ofNat bs.length) bs (.int (0 : Int32))) (EB : Exa Z h tb "[B") (hpr : bz ds <+: bs) (hbs : bs.length ≤ 34) (hlt : ∀ c ∈ ds, ¬ c < 0 ∧ ¬ (255 : Int32) < c) :
    Ctr l Z EL1 n0 (⟨"java/lang/StringBuilder", "toString", "()Ljava/lang/String;"⟩ : MethodName) jdk_67_method_42_code 1 (some (.object "java/lang/String")) ({ frames := 5, cells := 2, slots := 38, locals := 80 } : Room) #[(.ref b)] h [] (fun v h' => ∃ r : Addr, v = some (.ref r) ∧ Ext h h' ∧ StrF Z h' r ds) := by
  have hw := X.hw
  obtain ⟨z1, hz1, hz2⟩ := X.2.2.1
  refine Ctr.intro (a0 := a0) (plainFor_of_name pn1) hO X.ew ?_
  intro p e s m below meth c T0 V0 S0 hby hml hret hnm hsf
  rw [ef2]
  refine g_new S0 (w154 hw) (w2 hw) (w3 hw) (hb hby dTO_0) (Nat.le_of_ble_eq_true rfl) (Nat.le_of_ble_eq_true rfl) ?_
  intro T283 h283 b283 S283 E283 fr283 lt283 na283 sf283 A283 D283
  have F284 : Fld Z h283 b283 "java/lang/String" "coder" "B" (.int (0 : Int32)) := D283 (Or.inr (w28 hw)) (ty := .byte) (by decide)
  have F285 : Fld Z h283 b283 "java/lang/String" "value" "[B" .null := D283 (Or.inr (w30 hw)) (ty := (.array .byte)) (by decide)
  show Go p e below _ (T283.setTop (mkF m 3 #[.val (.ref b)] [(.ref b283)]))
  refine s_dup S283 (hb hby dTO_3) rfl (pc' := 4) rfl ?_
  refine s_aloadN S283 (hb hby dTO_4) rfl rfl (pc' := 5) rfl ?_
  have Ex286 := Ex.ext E283
  have Fv287 := Fv.ext E283
  have Fk288 := Fk.ext E283
  have Fs289 := Fs.ext E283
  have Vb290 := Vb.ext E283
  have EB291 := EB.ext E283
  show Go p e below _ (T283.setTop (mkF m 5 #[.val (.ref b)] [(.ref b), (.ref b283), (.ref b283)]))
  refine g_special S283 (rmSW X na283 S283.old A283 F285 F284 Ex286 Fv287 Fk288 Fs289 Vb290 EB291 hpr hbs) (sf1 (A283).lt sf283) rfl (w155 hw) (w156 hw) (w3 hw) (w157 hw) (by decide) (hb hby dTO_5) (by rw [hml]; rfl) b283 [(.ref b)] (lenOf pd18 rfl) rfl rfl (Nat.le_of_ble_eq_true rfl) (Nat.le_of_ble_eq_true rfl) (Nat.le_of_ble_eq_true rfl) (Nat.le_of_ble_eq_true rfl) ?_
  intro v292 T292 V292 h292 S292 C292 q292
  obtain ⟨rfl, K1, t1, kt1, F1⟩ := q292
  show Go p e below _ (T292.setTop (mkF m 8 #[.val (.ref b)] [(.ref b283)]))
  show Go p e below _ (T292.setTop (mkF m 8 #[.val (.ref b)] [(.ref b283)]))
  have X293 : Ext h h292 := ext_keep1 E283 K1 fr283
  exact g_aret S292 (hb hby dTO_8) hret rfl rfl rfl ⟨_, rfl, X293, strF_of F1 hlt (by have := hpr.length_le; rw [bz_len] at this; omega)⟩
theorem dDI_0 : decode prog_13_method_1_code 0 = .ok (.aload_n 0, 1) := by decide +kernel
theorem dDI_1 : decode prog_13_method_1_code 1 = .ok (.invokespecial 1, 3) := by decide +kernel
theorem dDI_4 : decode prog_13_method_1_code 4 = .ok (.aload_n 0, 1) := by decide +kernel
theorem dDI_5 : decode prog_13_method_1_code 5 = .ok (.iload_n 1, 1) := by decide +kernel
theorem dDI_6 : decode prog_13_method_1_code 6 = .ok (.putfield 7, 3) := by decide +kernel
theorem dDI_9 : decode prog_13_method_1_code 9 = .ok (.aload_n 0, 1) := by decide +kernel
theorem dDI_10 : decode prog_13_method_1_code 10 = .ok (.aload_n 2, 1) := by decide +kernel
theorem dDI_11 : decode prog_13_method_1_code 11 = .ok (.putfield 13, 3) := by decide +kernel
theorem dDI_14 : decode prog_13_method_1_code 14 = .ok (.aload_n 0, 1) := by decide +kernel
theorem dDI_15 : decode prog_13_method_1_code 15 = .ok (.iload_n 3, 1) := by decide +kernel
theorem dDI_16 : decode prog_13_method_1_code 16 = .ok (.putfield 17, 3) := by decide +kernel
theorem dDI_19 : decode prog_13_method_1_code 19 = .ok (.return_, 1) := by decide +kernel
set_option maxRecDepth 65536 in
set_option maxHeartbeats 40000000 in
theorem rmDI {l : Launch} {Z : State} {a0 : Array Value} {n0 : Nat} (X : Ctx Z a0) {x ra : Addr} {ln : Int32} {o0 o1 o2 : Value} (na : n0 ≤ x) {h : Heap} (hO : Old Z n0 h) (Ex : Exa Z h x "com/example/wachter/wachter/policy/Decision") (F0 : Fld Z h x "com/example/wachter/wachter/policy/Decision" "allowed" "Z" o0) (F1 : Fld Z h x "com/example/wachter/wachter/policy/Decision" "reason" "Ljava/lang/String;" o1) (F2 : Fld Z h x "com/example/wachter/wachter/policy/Decision" "line" "I" o2) :
    Ctr l Z EL1 n0 (⟨"com/example/wachter/wachter/policy/Decision", "<init>", "(ZLjava/lang/String;I)V"⟩ : MethodName) prog_13_method_1_code 4 none ({ frames := 1, cells := 0, slots := 0, locals := 12 } : Room) #[(.ref x), (.int (1 : Int32)), (.ref ra), (.int ln)] h [] (fun v h' => v = none ∧ Keep h h' [x] ∧ Exa Z h' x "com/example/wachter/wachter/policy/Decision" ∧ Fld Z h' x "com/example/wachter/wachter/policy/Decision" "allowed" "Z" (.int (1 : Int32)) ∧ Fld Z h' x "com/example/wachter/wachter/policy/Decision" "reason" "Ljava/lang/String;" (.ref ra) ∧ Fld Z h' x "com/example/wachter/wachter/policy/Decision" "line" "I" (.int ln)) := by
  have hw := X.hw
  obtain ⟨z1, hz1, hz2⟩ := X.2.2.1
  refine Ctr.intro (a0 := a0) (plainFor_of_name pn6) hO X.ew ?_
  intro p e s m below meth c T0 V0 S0 hby hml hret hnm hsf
  rw [ef16]
  refine s_aloadN S0 (hb hby dDI_0) rfl rfl (pc' := 1) rfl ?_
  refine g_initO S0 (w43 hw) (w13 hw) (w14 hw) (by rw [hml]; rfl) (hb hby dDI_1) (Nat.le_of_ble_eq_true rfl) (Nat.le_of_ble_eq_true rfl) ?_
  intro T294 ST294
  show Go p e below _ (T294.setTop (mkF m 4 #[.val (.ref x), .val (.int (1 : Int32)), .val (.ref ra), .val (.int ln)] []))
  refine s_aloadN ST294 (hb hby dDI_4) rfl rfl (pc' := 5) rfl ?_
  refine s_iloadN ST294 (hb hby dDI_5) rfl (pc' := 6) rfl ?_
  show Go p e below _ (T294.setTop (mkF m 6 #[.val (.ref x), .val (.int (1 : Int32)), .val (.ref ra), .val (.int ln)] [(.int (1 : Int32)), (.ref x)]))
  refine g_putF ST294 (w44 hw) Via.refl F0 Ex (Or.inr ⟨(w45 hw), rfl, hnm⟩) (w36 hw) (ty := .boolean) (v' := (.int (1 : Int32))) (by decide) rfl rfl na (Safe.exa ST294.warm.alike Ex (by decide) (by decide)) (hb hby dDI_6) ?_
  intro T295 h295 S295 K295 W295 A295 F295 sg295
  have F296 := F1.other W295 (Or.inr (slot_ne (Or.inr (w47 hw)) (Or.inr (w45 hw)) (by decide) (t := (.object "java/lang/String")) (t' := .boolean) (by decide) (by decide)))
  have F297 := F2.other W295 (Or.inr (slot_ne (Or.inr (w49 hw)) (Or.inr (w45 hw)) (by decide) (t := .int) (t' := .boolean) (by decide) (by decide)))
  show Go p e below _ (T295.setTop (mkF m 9 #[.val (.ref x), .val (.int (1 : Int32)), .val (.ref ra), .val (.int ln)] []))
  refine s_aloadN S295 (hb hby dDI_9) rfl rfl (pc' := 10) rfl ?_
  refine s_aloadN S295 (hb hby dDI_10) rfl rfl (pc' := 11) rfl ?_
  show Go p e below _ (T295.setTop (mkF m 11 #[.val (.ref x), .val (.int (1 : Int32)), .val (.ref ra), .val (.int ln)] [(.ref ra), (.ref x)]))
  refine g_putF S295 (w46 hw) Via.refl F296 A295 (Or.inr ⟨(w47 hw), rfl, hnm⟩) (w36 hw) (ty := (.object "java/lang/String")) (v' := (.ref ra)) (by decide) rfl rfl na (Safe.exa S295.warm.alike A295 (by decide) (by decide)) (hb hby dDI_11) ?_
  intro T298 h298 S298 K298 W298 A298 F298 sg298
  have F299 := F295.other W298 (Or.inr (slot_ne (Or.inr (w45 hw)) (Or.inr (w47 hw)) (by decide) (t := .boolean) (t' := (.object "java/lang/String")) (by decide) (by decide)))
  have F300 := F297.other W298 (Or.inr (slot_ne (Or.inr (w49 hw)) (Or.inr (w47 hw)) (by decide) (t := .int) (t' := (.object "java/lang/String")) (by decide) (by decide)))
  show Go p e below _ (T298.setTop (mkF m 14 #[.val (.ref x), .val (.int (1 : Int32)), .val (.ref ra), .val (.int ln)] []))
  refine s_aloadN S298 (hb hby dDI_14) rfl rfl (pc' := 15) rfl ?_
  refine s_iloadN S298 (hb hby dDI_15) rfl (pc' := 16) rfl ?_
  show Go p e below _ (T298.setTop (mkF m 16 #[.val (.ref x), .val (.int (1 : Int32)), .val (.ref ra), .val (.int ln)] [(.int ln), (.ref x)]))
  refine g_putF S298 (w48 hw) Via.refl F300 A298 (Or.inr ⟨(w49 hw), rfl, hnm⟩) (w36 hw) (ty := .int) (v' := (.int ln)) (by decide) rfl rfl na (Safe.exa S298.warm.alike A298 (by decide) (by decide)) (hb hby dDI_16) ?_
  intro T301 h301 S301 K301 W301 A301 F301 sg301
  have F302 := F299.other W301 (Or.inr (slot_ne (Or.inr (w45 hw)) (Or.inr (w49 hw)) (by decide) (t := .boolean) (t' := .int) (by decide) (by decide)))
  have F303 := F298.other W301 (Or.inr (slot_ne (Or.inr (w47 hw)) (Or.inr (w49 hw)) (by decide) (t := (.object "java/lang/String")) (t' := .int) (by decide) (by decide)))
  show Go p e below _ (T301.setTop (mkF m 19 #[.val (.ref x), .val (.int (1 : Int32)), .val (.ref ra), .val (.int ln)] []))
  show Go p e below _ (T301.setTop (mkF m 19 #[.val (.ref x), .val (.int (1 : Int32)), .val (.ref ra), .val (.int ln)] []))
  have KA304 : Keep h h301 [x] := ((((Keep.refl h [x]).trans K295 (fun y hy => Or.inl hy)).trans K298 (fun y hy => Or.inl hy)).trans K301 (fun y hy => Or.inl hy))
  exact g_ret S301 (hb hby dDI_19) hret ⟨rfl, KA304, A301, F302, F303, F301⟩
theorem dFA_0 : decode prog_13_method_2_code 0 = .ok (.new 8, 3) := by decide +kernel
theorem dFA_3 : decode prog_13_method_2_code 3 = .ok (.dup, 1) := by decide +kernel
theorem dFA_4 : decode prog_13_method_2_code 4 = .ok (.iconst 1, 1) := by decide +kernel
theorem dFA_5 : decode prog_13_method_2_code 5 = .ok (.ldc 21, 2) := by decide +kernel
theorem dFA_7 : decode prog_13_method_2_code 7 = .ok (.iload_n 0, 1) := by decide +kernel
theorem dFA_8 : decode prog_13_method_2_code 8 = .ok (.invokespecial 23, 3) := by decide +kernel
theorem dFA_11 : decode prog_13_method_2_code 11 = .ok (.areturn, 1) := by decide +kernel
set_option maxRecDepth 65536 in
set_option maxHeartbeats 40000000 in
theorem rmFA {l : Launch} {Z : State} {a0 : Array Value} {n0 : Nat} (X : Ctx Z a0) (ln : Int32) {h : Heap} (hO : Old Z n0 h)  :
    Ctr l Z EL1 n0 (⟨"com/example/wachter/wachter/policy/Decision", "allowedBy", "(I)Lcom/example/wachter/wachter/policy/Decision;"⟩ : MethodName) prog_13_method_2_code 1 (some (.object "com/example/wachter/wachter/policy/Decision")) ({ frames := 2, cells := 3, slots := 47, locals := 32 } : Room) #[(.int ln)] h [] (fun v h' => ∃ (d ra : Addr), v = some (.ref d) ∧ Ext h h' ∧ Exa Z h' d "com/example/wachter/wachter/policy/Decision" ∧ Fld Z h' d "com/example/wachter/wachter/policy/Decision" "allowed" "Z" (.int (1 : Int32)) ∧ Fld Z h' d "com/example/wachter/wachter/policy/Decision" "reason" "Ljava/lang/String;" (.ref ra) ∧ Fld Z h' d "com/example/wachter/wachter/policy/Decision" "line" "I" (.int ln) ∧ StrF Z h' ra [(97 : Int32), (108 : Int32), (108 : Int32), (111 : Int32), (119 : Int32), (101 : Int32), (100 : Int32), (32 : Int32), (98 : Int32), (121 : Int32)]) := by
  have hw := X.hw
  obtain ⟨z1, hz1, hz2⟩ := X.2.2.1
  refine Ctr.intro (a0 := a0) (plainFor_of_name pn6) hO X.ew ?_
  intro p e s m below meth c T0 V0 S0 hby hml hret hnm hsf
  rw [ef17]
  refine g_new S0 (w35 hw) (w36 hw) (w33 hw) (hb hby dFA_0) (Nat.le_of_ble_eq_true rfl) (Nat.le_of_ble_eq_true rfl) ?_
  intro T305 h305 b305 S305 E305 fr305 lt305 na305 sf305 A305 D305
  have F306 : Fld Z h305 b305 "com/example/wachter/wachter/policy/Decision" "allowed" "Z" (.int (0 : Int32)) := D305 (Or.inr (w45 hw)) (ty := .boolean) (by decide)
  have F307 : Fld Z h305 b305 "com/example/wachter/wachter/policy/Decision" "reason" "Ljava/lang/String;" .null := D305 (Or.inr (w47 hw)) (ty := (.object "java/lang/String")) (by decide)
  have F308 : Fld Z h305 b305 "com/example/wachter/wachter/policy/Decision" "line" "I" (.int (0 : Int32)) := D305 (Or.inr (w49 hw)) (ty := .int) (by decide)
  show Go p e below _ (T305.setTop (mkF m 3 #[.val (.int ln)] [(.ref b305)]))
  refine s_dup S305 (hb hby dFA_3) rfl (pc' := 4) rfl ?_
  refine s_iconst S305 (hb hby dFA_4) (v := (1 : Int32)) rfl (pc' := 5) rfl ?_
  show Go p e below _ (T305.setTop (mkF m 5 #[.val (.int ln)] [(.int (1 : Int32)), (.ref b305), (.ref b305)]))
  refine g_ldcS S305 (hw _ (List.mem_of_getElem? (i := 37) rfl)) (sAtoms hw) (by decide) (vs := [(.int (97 : Int32)), (.int (108 : Int32)), (.int (108 : Int32)), (.int (111 : Int32)), (.int (119 : Int32)), (.int (101 : Int32)), (.int (100 : Int32)), (.int (32 : Int32)), (.int (98 : Int32)), (.int (121 : Int32))]) (z := (10 : Int32)) ⟨by decide +kernel, by decide +kernel⟩ (by decide) rfl (hb hby dFA_5) (b := 40) (by decide +kernel) (by decide) (Nat.le_of_ble_eq_true rfl) (Nat.le_of_ble_eq_true rfl) ?_
  intro b309 T309 V309 h309 t309 kt309 S309 E309 C309 f309a f309b f309c f309d f309e
  have F309 : StrF Z h309 b309 [(97 : Int32), (108 : Int32), (108 : Int32), (111 : Int32), (119 : Int32), (101 : Int32), (100 : Int32), (32 : Int32), (98 : Int32), (121 : Int32)] := StrF.lit f309a f309b f309c f309d rfl rfl (by decide) (by decide)
  show Go p e below _ (T309.setTop (mkF m 7 #[.val (.int ln)] [(.ref b309), (.int (1 : Int32)), (.ref b305), (.ref b305)]))
  refine s_iloadN S309 (hb hby dFA_7) rfl (pc' := 8) rfl ?_
  have A310 := A305.ext E309
  have F311 := F306.ext E309
  have F312 := F307.ext E309
  have F313 := F308.ext E309
  show Go p e below _ (T309.setTop (mkF m 8 #[.val (.int ln)] [(.int ln), (.ref b309), (.int (1 : Int32)), (.ref b305), (.ref b305)]))
  refine g_special S309 (rmDI X na305 S309.old A310 F311 F312 F313) (fun _ q => nomatch q) rfl (w40 hw) (w41 hw) (w33 hw) (w42 hw) (by decide) (hb hby dFA_8) (by rw [hml]; rfl) b305 [(.int (1 : Int32)), (.ref b309), (.int ln)] (lenOf pd19 rfl) rfl rfl (Nat.le_of_ble_eq_true rfl) (Nat.le_of_ble_eq_true rfl) (Nat.le_of_ble_eq_true rfl) (Nat.le_of_ble_eq_true rfl) ?_
  intro v314 T314 V314 h314 S314 C314 q314
  obtain ⟨rfl, K1, E1, F1, F2, F3⟩ := q314
  show Go p e below _ (T314.setTop (mkF m 11 #[.val (.int ln)] [(.ref b305)]))
  show Go p e below _ (T314.setTop (mkF m 11 #[.val (.int ln)] [(.ref b305)]))
  have X315 : Ext h h309 := ext_trans E305 E309
  have X316 : Ext h h314 := ext_keep1 X315 K1 fr305
  have F317 := F309.keep K1 A310 (by decide) (w36 hw)
  exact g_aret S314 (hb hby dFA_11) hret rfl rfl rfl ⟨_, _, rfl, X316, E1, F1, F2, F3, F317⟩
theorem dAL_0 : decode prog_13_method_4_code 0 = .ok (.aload_n 0, 1) := by decide +kernel
theorem dAL_1 : decode prog_13_method_4_code 1 = .ok (.getfield 7, 3) := by decide +kernel
theorem dAL_4 : decode prog_13_method_4_code 4 = .ok (.ireturn, 1) := by decide +kernel
set_option maxRecDepth 65536 in
set_option maxHeartbeats 40000000 in
theorem rmAL {l : Launch} {Z : State} {a0 : Array Value} {n0 : Nat} (X : Ctx Z a0) {d ra : Addr} {x : Int32} {h : Heap} (hO : Old Z n0 h) (Ed : Exa Z h d "com/example/wachter/wachter/policy/Decision") (D1 : Fld Z h d "com/example/wachter/wachter/policy/Decision" "allowed" "Z" (.int (1 : Int32))) (D2 : Fld Z h d "com/example/wachter/wachter/policy/Decision" "reason" "Ljava/lang/String;" (.ref ra)) (D3 : Fld Z h d "com/example/wachter/wachter/policy/Decision" "line" "I" (.int x)) :
    Ctr l Z EL1 n0 (⟨"com/example/wachter/wachter/policy/Decision", "allowed", "()Z"⟩ : MethodName) prog_13_method_4_code 1 (some .boolean) ({ frames := 0, cells := 0, slots := 0, locals := 0 } : Room) #[(.ref d)] h [] (fun v h' => v = some (.int (1 : Int32)) ∧ h' = h) := by
  have hw := X.hw
  obtain ⟨z1, hz1, hz2⟩ := X.2.2.1
  refine Ctr.intro (a0 := a0) (plainFor_of_name pn6) hO X.ew ?_
  intro p e s m below meth c T0 V0 S0 hby hml hret hnm hsf
  rw [ef2]
  refine s_aloadN S0 (hb hby dAL_0) rfl rfl (pc' := 1) rfl ?_
  refine g_getF S0 (w44 hw) Via.refl D1 (hb hby dAL_1) ?_
  intro T318 ST318
  show Go p e below _ (T318.setTop (mkF m 4 #[.val (.ref d)] [(.int (1 : Int32))]))
  exact g_iretN ST318 (hb hby dAL_4) hret (by simp) ⟨rfl, rfl⟩
theorem dBE_0 : decode prog_13_method_5_code 0 = .ok (.aload_n 0, 1) := by decide +kernel
theorem dBE_1 : decode prog_13_method_5_code 1 = .ok (.getfield 17, 3) := by decide +kernel
theorem dBE_4 : decode prog_13_method_5_code 4 = .ok (.ifCond .ne 10, 3) := by decide +kernel
theorem dBE_14 : decode prog_13_method_5_code 14 = .ok (.new 28, 3) := by decide +kernel
theorem dBE_17 : decode prog_13_method_5_code 17 = .ok (.dup, 1) := by decide +kernel
theorem dBE_18 : decode prog_13_method_5_code 18 = .ok (.invokespecial 30, 3) := by decide +kernel
theorem dBE_21 : decode prog_13_method_5_code 21 = .ok (.aload_n 0, 1) := by decide +kernel
theorem dBE_22 : decode prog_13_method_5_code 22 = .ok (.getfield 13, 3) := by decide +kernel
theorem dBE_25 : decode prog_13_method_5_code 25 = .ok (.invokevirtual 31, 3) := by decide +kernel
theorem dBE_28 : decode prog_13_method_5_code 28 = .ok (.ldc 35, 2) := by decide +kernel
theorem dBE_30 : decode prog_13_method_5_code 30 = .ok (.invokevirtual 31, 3) := by decide +kernel
theorem dBE_33 : decode prog_13_method_5_code 33 = .ok (.aload_n 1, 1) := by decide +kernel
theorem dBE_34 : decode prog_13_method_5_code 34 = .ok (.invokevirtual 31, 3) := by decide +kernel
theorem dBE_37 : decode prog_13_method_5_code 37 = .ok (.ldc 37, 2) := by decide +kernel
theorem dBE_39 : decode prog_13_method_5_code 39 = .ok (.invokevirtual 31, 3) := by decide +kernel
theorem dBE_42 : decode prog_13_method_5_code 42 = .ok (.aload_n 0, 1) := by decide +kernel
theorem dBE_43 : decode prog_13_method_5_code 43 = .ok (.getfield 17, 3) := by decide +kernel
theorem dBE_46 : decode prog_13_method_5_code 46 = .ok (.invokevirtual 39, 3) := by decide +kernel
theorem dBE_49 : decode prog_13_method_5_code 49 = .ok (.invokevirtual 42, 3) := by decide +kernel
theorem dBE_52 : decode prog_13_method_5_code 52 = .ok (.areturn, 1) := by decide +kernel
set_option maxRecDepth 65536 in
set_option maxHeartbeats 40000000 in
theorem rmBE {l : Launch} {Z : State} {a0 : Array Value} {n0 : Nat} (X : Ctx Z a0) {d ra f : Addr} {x : Int32} {cs : List Int32} {h : Heap} (hO : Old Z n0 h) (Ed : Exa Z h d "com/example/wachter/wachter/policy/Decision") (D1 : Fld Z h d "com/example/wachter/wachter/policy/Decision" "allowed" "Z" (.int (1 : Int32))) (D2 : Fld Z h d "com/example/wachter/wachter/policy/Decision" "reason" "Ljava/lang/String;" (.ref ra)) (D3 : Fld Z h d "com/example/wachter/wachter/policy/Decision" "line" "I" (.int x)) (hx : ¬ x = 0) (T1 : StrF Z h ra [(97 : Int32), (108 : Int32), (108 : Int32), (111 : Int32), (119 : Int32), (101 : Int32), (100 : Int32), (32 : Int32), (98 : Int32), (121 : Int32)]) (T2 : StrF Z h f cs) (T2lat : ∀ c ∈ cs, ¬ c < 0 ∧ ¬ (255 : Int32) < c) (T2len : cs.length ≤ 2) :
    Ctr l Z EL1 n0 (⟨"com/example/wachter/wachter/policy/Decision", "because", "(Ljava/lang/String;)Ljava/lang/String;"⟩ : MethodName) prog_13_method_5_code 2 (some (.object "java/lang/String")) ({ frames := 6, cells := 9, slots := 108, locals := 98 } : Room) #[(.ref d), (.ref f)] h [] (fun v h' => ∃ (r : Addr) (nd : Nat), v = some (.ref r) ∧ Nd x.toInt.natAbs nd ∧ Ext h h' ∧ StrF Z h' r ((((([] : List Int32) ++ [(97 : Int32), (108 : Int32), (108 : Int32), (111 : Int32), (119 : Int32), (101 : Int32), (100 : Int32), (32 : Int32), (98 : Int32), (121 : Int32)]) ++ [(32 : Int32)]) ++ cs) ++ [(58 : Int32)] ++ decC x nd)) := by
  have hw := X.hw
  obtain ⟨z1, hz1, hz2⟩ := X.2.2.1
  refine Ctr.intro (a0 := a0) (plainFor_of_name pn6) hO X.ew ?_
  intro p e s m below meth c T0 V0 S0 hby hml hret hnm hsf
  rw [ef3]
  have T1lat : ∀ c ∈ ([(97 : Int32), (108 : Int32), (108 : Int32), (111 : Int32), (119 : Int32), (101 : Int32), (100 : Int32), (32 : Int32), (98 : Int32), (121 : Int32)] : List Int32), ¬ c < 0 ∧ ¬ (255 : Int32) < c := by decide
  show Go p e below _ (T0.setTop (mkF m 0 #[.val (.ref d), .val (.ref f)] []))
  refine s_aloadN S0 (hb hby dBE_0) rfl rfl (pc' := 1) rfl ?_
  refine g_getF S0 (w48 hw) Via.refl D3 (hb hby dBE_1) ?_
  intro T319 ST319
  show Go p e below _ (T319.setTop (mkF m 4 #[.val (.ref d), .val (.ref f)] [(.int x)]))
  refine g_if ST319 (hb hby dBE_4) (by decide) (pcT := 14) (by decide) (fun q => ?_) (fun q => ?_)
  · have hc4_320 : ¬ x = (0 : Int32) := icT_ne q
    show Go p e below _ (T319.setTop (mkF m 14 #[.val (.ref d), .val (.ref f)] []))
    refine g_new ST319 (w60 hw) (w61 hw) (w62 hw) (hb hby dBE_14) (Nat.le_of_ble_eq_true rfl) (Nat.le_of_ble_eq_true rfl) ?_
    intro T321 h321 b321 S321 E321 fr321 lt321 na321 sf321 A321 D321
    have F322 : Fld Z h321 b321 "java/lang/AbstractStringBuilder" "value" "[B" .null := D321 (Or.inl (w75 hw)) (ty := (.array .byte)) (by decide)
    have F323 : Fld Z h321 b321 "java/lang/AbstractStringBuilder" "coder" "B" (.int (0 : Int32)) := D321 (Or.inl (w77 hw)) (ty := .byte) (by decide)
    have F324 : Fld Z h321 b321 "java/lang/AbstractStringBuilder" "count" "I" (.int (0 : Int32)) := D321 (Or.inl (w99 hw)) (ty := .int) (by decide)
    show Go p e below _ (T321.setTop (mkF m 17 #[.val (.ref d), .val (.ref f)] [(.ref b321)]))
    refine s_dup S321 (hb hby dBE_17) rfl (pc' := 18) rfl ?_
    show Go p e below _ (T321.setTop (mkF m 18 #[.val (.ref d), .val (.ref f)] [(.ref b321), (.ref b321)]))
    refine g_special S321 (rmSI X na321 S321.old A321 F322 F323 F324) (fun _ q => nomatch q) rfl (w63 hw) (w64 hw) (w62 hw) (w65 hw) (by decide) (hb hby dBE_18) (by rw [hml]; rfl) b321 [] (lenOf pd20 rfl) rfl rfl (Nat.le_of_ble_eq_true rfl) (Nat.le_of_ble_eq_true rfl) (Nat.le_of_ble_eq_true rfl) (Nat.le_of_ble_eq_true rfl) ?_
    intro v325 T325 V325 h325 S325 C325 q325
    obtain ⟨rfl, tb, kb, K1, ntb, frb, E1, F1, F2, F3, V1, EB1, sf1_⟩ := q325
    show Go p e below _ (T325.setTop (mkF m 21 #[.val (.ref d), .val (.ref f)] [(.ref b321)]))
    refine s_aloadN S325 (hb hby dBE_21) rfl rfl (pc' := 22) rfl ?_
    have X326 : Ext h h325 := ext_keep1 E321 K1 fr321
    have D327 := D2.ext X326
    refine g_getF S325 (w46 hw) Via.refl D327 (hb hby dBE_22) ?_
    intro T328 ST328
    show Go p e below _ (T328.setTop (mkF m 25 #[.val (.ref d), .val (.ref f)] [(.ref ra), (.ref b321)]))
    have T330 := T1.ext X326
    obtain ⟨ta329, ka329, L329⟩ := lc_of T330 (fun c q => (T1lat c q).2)
    show Go p e below _ (T328.setTop (mkF m 25 #[.val (.ref d), .val (.ref f)] [(.ref ra), (.ref b321)]))
    refine g_virtual ST328 (rmSS X (ds := ([] : List Int32)) (cs := [(97 : Int32), (108 : Int32), (108 : Int32), (111 : Int32), (119 : Int32), (101 : Int32), (100 : Int32), (32 : Int32), (98 : Int32), (121 : Int32)]) na321 ntb ST328.old E1 F1 F2 F3 L329 V1 (by rw [List.length_replicate]) List.nil_prefix (by simp <;> omega)) (sf1 V1.lt sf1_) (w78 hw) (w79 hw) (w81 hw) (w80 hw) (w62 hw) (w82 hw) (by decide) (fun _ h => notFace_of_selects h) (hb hby dBE_25) (by rw [hml]; rfl) b321 E1 [(.ref ra)] (lenOf pd21 rfl) rfl rfl (Nat.le_of_ble_eq_true rfl) (Nat.le_of_ble_eq_true rfl) (Nat.le_of_ble_eq_true rfl) (Nat.le_of_ble_eq_true rfl) ?_
    intro v331 T331 V331 h331 S331 C331 q331
    obtain ⟨rfl, bs329, K329, E329, Fa329, Fb329, Fc329, V329, hl329, hp329⟩ := q331
    have sf332 := C331.safe V1.lt sf1_
    show Go p e below _ (T331.setTop (mkF m 28 #[.val (.ref d), .val (.ref f)] [(.ref b321)]))
    show Go p e below _ (T331.setTop (mkF m 28 #[.val (.ref d), .val (.ref f)] [(.ref b321)]))
    refine g_ldcS S331 (hw _ (List.mem_of_getElem? (i := 125) rfl)) (sAtoms hw) (by decide) (vs := [(.int (32 : Int32))]) (z := (1 : Int32)) ⟨by decide +kernel, by decide +kernel⟩ (by decide) rfl (hb hby dBE_28) (b := 4) (by decide +kernel) (by decide) (Nat.le_of_ble_eq_true rfl) (Nat.le_of_ble_eq_true rfl) ?_
    intro b333 T333 V333 h333 t333 kt333 S333 E333 C333 f333a f333b f333c f333d f333e
    have sf334 := C333.safe (Nat.lt_of_lt_of_le V1.lt (Nat.le_trans (Nat.le_refl _) K329.1)) sf332
    have F333 : StrF Z h333 b333 [(32 : Int32)] := StrF.lit f333a f333b f333c f333d rfl rfl (by decide) (by decide)
    show Go p e below _ (T333.setTop (mkF m 30 #[.val (.ref d), .val (.ref f)] [(.ref b333), (.ref b321)]))
    obtain ⟨ta335, ka335, L335⟩ := lc_of F333 (fun c q => ((by decide : ∀ c ∈ ([(32 : Int32)] : List Int32), ¬ c < 0 ∧ ¬ (255 : Int32) < c) c q).2)
    have V336 := V329.ext E333
    have E337 := E329.ext E333
    have Fa338 := Fa329.ext E333
    have Fb339 := Fb329.ext E333
    have Fc340 := Fc329.ext E333
    show Go p e below _ (T333.setTop (mkF m 30 #[.val (.ref d), .val (.ref f)] [(.ref b333), (.ref b321)]))
    refine g_virtual S333 (rmSS X (ds := (([] : List Int32) ++ [(97 : Int32), (108 : Int32), (108 : Int32), (111 : Int32), (119 : Int32), (101 : Int32), (100 : Int32), (32 : Int32), (98 : Int32), (121 : Int32)])) (cs := [(32 : Int32)]) na321 ntb S333.old E337 Fa338 Fb339 Fc340 L335 V336 hl329 hp329 (by simp <;> omega)) (sf1 V336.lt sf334) (w78 hw) (w79 hw) (w81 hw) (w80 hw) (w62 hw) (w82 hw) (by decide) (fun _ h => notFace_of_selects h) (hb hby dBE_30) (by rw [hml]; rfl) b321 E337 [(.ref b333)] (lenOf pd21 rfl) rfl rfl (Nat.le_of_ble_eq_true rfl) (Nat.le_of_ble_eq_true rfl) (Nat.le_of_ble_eq_true rfl) (Nat.le_of_ble_eq_true rfl) ?_
    intro v341 T341 V341 h341 S341 C341 q341
    obtain ⟨rfl, bs335, K335, E335, Fa335, Fb335, Fc335, V335, hl335, hp335⟩ := q341
    have sf342 := C341.safe (Nat.lt_of_lt_of_le V1.lt (Nat.le_trans (Nat.le_trans (Nat.le_refl _) K329.1) E333.1)) sf334
    show Go p e below _ (T341.setTop (mkF m 33 #[.val (.ref d), .val (.ref f)] [(.ref b321)]))
    refine s_aloadN S341 (hb hby dBE_33) rfl rfl (pc' := 34) rfl ?_
    have X344 : Ext h h331 := ext_keep X326 K329 (allS fr321 (allS (Nat.le_trans E321.1 frb) all0))
    have X345 : Ext h h333 := ext_trans X344 E333
    have X346 : Ext h h341 := ext_keep X345 K335 (allS fr321 (allS (Nat.le_trans E321.1 frb) all0))
    have T347 := T2.ext X346
    obtain ⟨ta343, ka343, L343⟩ := lc_of T347 (fun c q => (T2lat c q).2)
    show Go p e below _ (T341.setTop (mkF m 34 #[.val (.ref d), .val (.ref f)] [(.ref f), (.ref b321)]))
    refine g_virtual S341 (rmSS X (ds := ((([] : List Int32) ++ [(97 : Int32), (108 : Int32), (108 : Int32), (111 : Int32), (119 : Int32), (101 : Int32), (100 : Int32), (32 : Int32), (98 : Int32), (121 : Int32)]) ++ [(32 : Int32)])) (cs := cs) na321 ntb S341.old E335 Fa335 Fb335 Fc335 L343 V335 hl335 hp335 (by simp <;> omega)) (sf1 V335.lt sf342) (w78 hw) (w79 hw) (w81 hw) (w80 hw) (w62 hw) (w82 hw) (by decide) (fun _ h => notFace_of_selects h) (hb hby dBE_34) (by rw [hml]; rfl) b321 E335 [(.ref f)] (lenOf pd21 rfl) rfl rfl (Nat.le_of_ble_eq_true rfl) (Nat.le_of_ble_eq_true rfl) (Nat.le_of_ble_eq_true rfl) (Nat.le_of_ble_eq_true rfl) ?_
    intro v348 T348 V348 h348 S348 C348 q348
    obtain ⟨rfl, bs343, K343, E343, Fa343, Fb343, Fc343, V343, hl343, hp343⟩ := q348
    have sf349 := C348.safe (Nat.lt_of_lt_of_le V1.lt (Nat.le_trans (Nat.le_trans (Nat.le_trans (Nat.le_refl _) K329.1) E333.1) K335.1)) sf342
    show Go p e below _ (T348.setTop (mkF m 37 #[.val (.ref d), .val (.ref f)] [(.ref b321)]))
    show Go p e below _ (T348.setTop (mkF m 37 #[.val (.ref d), .val (.ref f)] [(.ref b321)]))
    refine g_ldcS S348 (hw _ (List.mem_of_getElem? (i := 126) rfl)) (sAtoms hw) (by decide) (vs := [(.int (58 : Int32))]) (z := (1 : Int32)) ⟨by decide +kernel, by decide +kernel⟩ (by decide) rfl (hb hby dBE_37) (b := 4) (by decide +kernel) (by decide) (Nat.le_of_ble_eq_true rfl) (Nat.le_of_ble_eq_true rfl) ?_
    intro b350 T350 V350 h350 t350 kt350 S350 E350 C350 f350a f350b f350c f350d f350e
    have sf351 := C350.safe (Nat.lt_of_lt_of_le V1.lt (Nat.le_trans (Nat.le_trans (Nat.le_trans (Nat.le_trans (Nat.le_refl _) K329.1) E333.1) K335.1) K343.1)) sf349
    have F350 : StrF Z h350 b350 [(58 : Int32)] := StrF.lit f350a f350b f350c f350d rfl rfl (by decide) (by decide)
    show Go p e below _ (T350.setTop (mkF m 39 #[.val (.ref d), .val (.ref f)] [(.ref b350), (.ref b321)]))
    obtain ⟨ta352, ka352, L352⟩ := lc_of F350 (fun c q => ((by decide : ∀ c ∈ ([(58 : Int32)] : List Int32), ¬ c < 0 ∧ ¬ (255 : Int32) < c) c q).2)
    have V353 := V343.ext E350
    have E354 := E343.ext E350
    have Fa355 := Fa343.ext E350
    have Fb356 := Fb343.ext E350
    have Fc357 := Fc343.ext E350
    show Go p e below _ (T350.setTop (mkF m 39 #[.val (.ref d), .val (.ref f)] [(.ref b350), (.ref b321)]))
    refine g_virtual S350 (rmSS X (ds := (((([] : List Int32) ++ [(97 : Int32), (108 : Int32), (108 : Int32), (111 : Int32), (119 : Int32), (101 : Int32), (100 : Int32), (32 : Int32), (98 : Int32), (121 : Int32)]) ++ [(32 : Int32)]) ++ cs)) (cs := [(58 : Int32)]) na321 ntb S350.old E354 Fa355 Fb356 Fc357 L352 V353 hl343 hp343 (by simp <;> omega)) (sf1 V353.lt sf351) (w78 hw) (w79 hw) (w81 hw) (w80 hw) (w62 hw) (w82 hw) (by decide) (fun _ h => notFace_of_selects h) (hb hby dBE_39) (by rw [hml]; rfl) b321 E354 [(.ref b350)] (lenOf pd21 rfl) rfl rfl (Nat.le_of_ble_eq_true rfl) (Nat.le_of_ble_eq_true rfl) (Nat.le_of_ble_eq_true rfl) (Nat.le_of_ble_eq_true rfl) ?_
    intro v358 T358 V358 h358 S358 C358 q358
    obtain ⟨rfl, bs352, K352, E352, Fa352, Fb352, Fc352, V352, hl352, hp352⟩ := q358
    have sf359 := C358.safe (Nat.lt_of_lt_of_le V1.lt (Nat.le_trans (Nat.le_trans (Nat.le_trans (Nat.le_trans (Nat.le_trans (Nat.le_refl _) K329.1) E333.1) K335.1) K343.1) E350.1)) sf351
    show Go p e below _ (T358.setTop (mkF m 42 #[.val (.ref d), .val (.ref f)] [(.ref b321)]))
    refine s_aloadN S358 (hb hby dBE_42) rfl rfl (pc' := 43) rfl ?_
    have X360 : Ext h h348 := ext_keep X346 K343 (allS fr321 (allS (Nat.le_trans E321.1 frb) all0))
    have X361 : Ext h h350 := ext_trans X360 E350
    have X362 : Ext h h358 := ext_keep X361 K352 (allS fr321 (allS (Nat.le_trans E321.1 frb) all0))
    have D363 := D3.ext X362
    refine g_getF S358 (w48 hw) Via.refl D363 (hb hby dBE_43) ?_
    intro T364 ST364
    show Go p e below _ (T364.setTop (mkF m 46 #[.val (.ref d), .val (.ref f)] [(.int x), (.ref b321)]))
    have F365 := EB1.keep K329
    have F366 := F365.ext E333
    have F367 := F366.keep K335
    have F368 := F367.keep K343
    have F369 := F368.ext E350
    have F370 := F369.keep K352
    show Go p e below _ (T364.setTop (mkF m 46 #[.val (.ref d), .val (.ref f)] [(.int x), (.ref b321)]))
    refine g_virtual ST364 (rmSX X (ds := ((((([] : List Int32) ++ [(97 : Int32), (108 : Int32), (108 : Int32), (111 : Int32), (119 : Int32), (101 : Int32), (100 : Int32), (32 : Int32), (98 : Int32), (121 : Int32)]) ++ [(32 : Int32)]) ++ cs) ++ [(58 : Int32)])) x na321 ntb ST364.old E352 Fa352 Fb352 Fc352 V352 F370 hp352 hl352 (by simp <;> omega)) (sf1 V352.lt sf359) (w127 hw) (w128 hw) (w130 hw) (w129 hw) (w62 hw) (w131 hw) (by decide) (fun _ h => notFace_of_selects h) (hb hby dBE_46) (by rw [hml]; rfl) b321 E352 [(.int x)] (lenOf pd22 rfl) rfl rfl (Nat.le_of_ble_eq_true rfl) (Nat.le_of_ble_eq_true rfl) (Nat.le_of_ble_eq_true rfl) (Nat.le_of_ble_eq_true rfl) ?_
    intro v371 T371 V371 h371 S371 C371 q371
    obtain ⟨rfl, nd, u9, ku9, zb9, bs9, hnd, K9, -, E9, Fa9, Fb9, Fc9, V9, rfl, hl9, hp9, EB9⟩ := q371
    have sf372 := C371.safe (Nat.lt_of_lt_of_le V1.lt (Nat.le_trans (Nat.le_trans (Nat.le_trans (Nat.le_trans (Nat.le_trans (Nat.le_trans (Nat.le_refl _) K329.1) E333.1) K335.1) K343.1) E350.1) K352.1)) sf359
    show Go p e below _ (T371.setTop (mkF m 49 #[.val (.ref d), .val (.ref f)] [(.ref b321)]))
    show Go p e below _ (T371.setTop (mkF m 49 #[.val (.ref d), .val (.ref f)] [(.ref b321)]))
    refine g_virtual S371 (rmTO X S371.old E9 Fa9 Fb9 Fc9 V9 EB9 hp9 hl9 (all_app (all_app (all_app (all_app (all_app (fun c q => nomatch q) T1lat) (by decide : ∀ c ∈ ([(32 : Int32)] : List Int32), ¬ c < 0 ∧ ¬ (255 : Int32) < c)) T2lat) (by decide : ∀ c ∈ ([(58 : Int32)] : List Int32), ¬ c < 0 ∧ ¬ (255 : Int32) < c)) (decC_lat x nd))) (fun _ q => nomatch q) (w149 hw) (w150 hw) (w152 hw) (w151 hw) (w62 hw) (w153 hw) (by decide) (fun _ h => notFace_of_selects h) (hb hby dBE_49) (by rw [hml]; rfl) b321 E9 [] (lenOf pd23 rfl) rfl rfl (Nat.le_of_ble_eq_true rfl) (Nat.le_of_ble_eq_true rfl) (Nat.le_of_ble_eq_true rfl) (Nat.le_of_ble_eq_true rfl) ?_
    intro v373 T373 V373 h373 S373 C373 q373
    obtain ⟨r9, rfl, Er9, F9⟩ := q373
    show Go p e below _ (T373.setTop (mkF m 52 #[.val (.ref d), .val (.ref f)] [(.ref r9)]))
    show Go p e below _ (T373.setTop (mkF m 52 #[.val (.ref d), .val (.ref f)] [(.ref r9)]))
    have X374 : Ext h h371 := ext_keep X362 K9 (allS fr321 (allS (Nat.le_trans E321.1 frb) all0))
    have X375 : Ext h h373 := ext_trans X374 Er9
    exact g_aret S373 (hb hby dBE_52) hret rfl rfl rfl ⟨r9, nd, rfl, hnd, X375, F9⟩
  · have hc4_320 : x = (0 : Int32) := icF_ne q
    exact absurd hc4_320 hx
theorem dND_0 : decode method_4_code 0 = .ok (.iload_n 0, 1) := by decide +kernel
theorem dND_1 : decode method_4_code 1 = .ok (.ldc 51, 2) := by decide +kernel
theorem dND_3 : decode method_4_code 3 = .ok (.if_icmp .lt 6, 3) := by decide +kernel
theorem dND_6 : decode method_4_code 6 = .ok (.bipush 10, 2) := by decide +kernel
theorem dND_8 : decode method_4_code 8 = .ok (.ireturn, 1) := by decide +kernel
theorem dND_9 : decode method_4_code 9 = .ok (.iload_n 0, 1) := by decide +kernel
theorem dND_10 : decode method_4_code 10 = .ok (.ldc 52, 2) := by decide +kernel
theorem dND_12 : decode method_4_code 12 = .ok (.if_icmp .lt 6, 3) := by decide +kernel
theorem dND_15 : decode method_4_code 15 = .ok (.bipush 9, 2) := by decide +kernel
theorem dND_17 : decode method_4_code 17 = .ok (.ireturn, 1) := by decide +kernel
theorem dND_18 : decode method_4_code 18 = .ok (.iload_n 0, 1) := by decide +kernel
theorem dND_19 : decode method_4_code 19 = .ok (.ldc 53, 2) := by decide +kernel
theorem dND_21 : decode method_4_code 21 = .ok (.if_icmp .lt 6, 3) := by decide +kernel
theorem dND_24 : decode method_4_code 24 = .ok (.bipush 8, 2) := by decide +kernel
theorem dND_26 : decode method_4_code 26 = .ok (.ireturn, 1) := by decide +kernel
theorem dND_27 : decode method_4_code 27 = .ok (.iload_n 0, 1) := by decide +kernel
theorem dND_28 : decode method_4_code 28 = .ok (.ldc 54, 2) := by decide +kernel
theorem dND_30 : decode method_4_code 30 = .ok (.if_icmp .lt 6, 3) := by decide +kernel
theorem dND_33 : decode method_4_code 33 = .ok (.bipush 7, 2) := by decide +kernel
theorem dND_35 : decode method_4_code 35 = .ok (.ireturn, 1) := by decide +kernel
theorem dND_36 : decode method_4_code 36 = .ok (.iload_n 0, 1) := by decide +kernel
theorem dND_37 : decode method_4_code 37 = .ok (.ldc 55, 2) := by decide +kernel
theorem dND_39 : decode method_4_code 39 = .ok (.if_icmp .lt 6, 3) := by decide +kernel
theorem dND_42 : decode method_4_code 42 = .ok (.bipush 6, 2) := by decide +kernel
theorem dND_44 : decode method_4_code 44 = .ok (.ireturn, 1) := by decide +kernel
theorem dND_45 : decode method_4_code 45 = .ok (.iload_n 0, 1) := by decide +kernel
theorem dND_46 : decode method_4_code 46 = .ok (.sipush 10000, 3) := by decide +kernel
theorem dND_49 : decode method_4_code 49 = .ok (.if_icmp .lt 5, 3) := by decide +kernel
theorem dND_52 : decode method_4_code 52 = .ok (.iconst 5, 1) := by decide +kernel
theorem dND_53 : decode method_4_code 53 = .ok (.ireturn, 1) := by decide +kernel
theorem dND_54 : decode method_4_code 54 = .ok (.iload_n 0, 1) := by decide +kernel
theorem dND_55 : decode method_4_code 55 = .ok (.sipush 1000, 3) := by decide +kernel
theorem dND_58 : decode method_4_code 58 = .ok (.if_icmp .lt 5, 3) := by decide +kernel
theorem dND_61 : decode method_4_code 61 = .ok (.iconst 4, 1) := by decide +kernel
theorem dND_62 : decode method_4_code 62 = .ok (.ireturn, 1) := by decide +kernel
theorem dND_63 : decode method_4_code 63 = .ok (.iload_n 0, 1) := by decide +kernel
theorem dND_64 : decode method_4_code 64 = .ok (.bipush 100, 2) := by decide +kernel
theorem dND_66 : decode method_4_code 66 = .ok (.if_icmp .lt 5, 3) := by decide +kernel
theorem dND_69 : decode method_4_code 69 = .ok (.iconst 3, 1) := by decide +kernel
theorem dND_70 : decode method_4_code 70 = .ok (.ireturn, 1) := by decide +kernel
theorem dND_71 : decode method_4_code 71 = .ok (.iload_n 0, 1) := by decide +kernel
theorem dND_72 : decode method_4_code 72 = .ok (.bipush 10, 2) := by decide +kernel
theorem dND_74 : decode method_4_code 74 = .ok (.if_icmp .lt 5, 3) := by decide +kernel
theorem dND_77 : decode method_4_code 77 = .ok (.iconst 2, 1) := by decide +kernel
theorem dND_78 : decode method_4_code 78 = .ok (.ireturn, 1) := by decide +kernel
theorem dND_79 : decode method_4_code 79 = .ok (.iconst 1, 1) := by decide +kernel
theorem dND_80 : decode method_4_code 80 = .ok (.ireturn, 1) := by decide +kernel
set_option maxRecDepth 65536 in
set_option maxHeartbeats 40000000 in
theorem rmND {l : Launch} {Z : State} {a0 : Array Value} {n0 : Nat} (X : Ctx Z a0) {x : Int32} {h : Heap} (hO : Old Z n0 h) (hx : ¬ x < 0) :
    Ctr l Z EL1 n0 (⟨"com/example/wachter/wachter/policy/DecisionAllowedByPinLaw", "numDigits", "(I)I"⟩ : MethodName) method_4_code 1 (some .int) ({ frames := 0, cells := 0, slots := 0, locals := 0 } : Room) #[(.int x)] h [] (fun v h' => ∃ n : Nat, Nd x.toInt.natAbs n ∧ v = some (.int (Int32.ofNat n)) ∧ h' = h) := by
  have hw := X.hw
  obtain ⟨z1, hz1, hz2⟩ := X.2.2.1
  refine Ctr.intro (a0 := a0) (plainFor_of_name pn7) hO X.ew ?_
  intro p e s m below meth c T0 V0 S0 hby hml hret hnm hsf
  rw [ef17]
  refine s_iloadN S0 (hb hby dND_0) rfl (pc' := 1) rfl ?_
  refine g_ldcI S0 (w194 hw) (hb hby dND_1) ?_
  show Go p e below _ (T0.setTop (mkF m 3 #[.val (.int x)] [(.int (1000000000 : Int32)), (.int x)]))
  refine g_icmp S0 (hb hby dND_3) (by decide) (pcT := 9) (by decide) (fun q => ?_) (fun q => ?_)
  · have hc3_376 : x < (1000000000 : Int32) := icT_lt q
    show Go p e below _ (T0.setTop (mkF m 9 #[.val (.int x)] []))
    refine s_iloadN S0 (hb hby dND_9) rfl (pc' := 10) rfl ?_
    refine g_ldcI S0 (w195 hw) (hb hby dND_10) ?_
    show Go p e below _ (T0.setTop (mkF m 12 #[.val (.int x)] [(.int (100000000 : Int32)), (.int x)]))
    refine g_icmp S0 (hb hby dND_12) (by decide) (pcT := 18) (by decide) (fun q => ?_) (fun q => ?_)
    · have hc12_377 : x < (100000000 : Int32) := icT_lt q
      show Go p e below _ (T0.setTop (mkF m 18 #[.val (.int x)] []))
      refine s_iloadN S0 (hb hby dND_18) rfl (pc' := 19) rfl ?_
      refine g_ldcI S0 (w196 hw) (hb hby dND_19) ?_
      show Go p e below _ (T0.setTop (mkF m 21 #[.val (.int x)] [(.int (10000000 : Int32)), (.int x)]))
      refine g_icmp S0 (hb hby dND_21) (by decide) (pcT := 27) (by decide) (fun q => ?_) (fun q => ?_)
      · have hc21_378 : x < (10000000 : Int32) := icT_lt q
        show Go p e below _ (T0.setTop (mkF m 27 #[.val (.int x)] []))
        refine s_iloadN S0 (hb hby dND_27) rfl (pc' := 28) rfl ?_
        refine g_ldcI S0 (w197 hw) (hb hby dND_28) ?_
        show Go p e below _ (T0.setTop (mkF m 30 #[.val (.int x)] [(.int (1000000 : Int32)), (.int x)]))
        refine g_icmp S0 (hb hby dND_30) (by decide) (pcT := 36) (by decide) (fun q => ?_) (fun q => ?_)
        · have hc30_379 : x < (1000000 : Int32) := icT_lt q
          show Go p e below _ (T0.setTop (mkF m 36 #[.val (.int x)] []))
          refine s_iloadN S0 (hb hby dND_36) rfl (pc' := 37) rfl ?_
          refine g_ldcI S0 (w198 hw) (hb hby dND_37) ?_
          show Go p e below _ (T0.setTop (mkF m 39 #[.val (.int x)] [(.int (100000 : Int32)), (.int x)]))
          refine g_icmp S0 (hb hby dND_39) (by decide) (pcT := 45) (by decide) (fun q => ?_) (fun q => ?_)
          · have hc39_380 : x < (100000 : Int32) := icT_lt q
            show Go p e below _ (T0.setTop (mkF m 45 #[.val (.int x)] []))
            refine s_iloadN S0 (hb hby dND_45) rfl (pc' := 46) rfl ?_
            refine s_sipush S0 (hb hby dND_46) (v := (10000 : Int32)) rfl (pc' := 49) rfl ?_
            refine g_icmp S0 (hb hby dND_49) (by decide) (pcT := 54) (by decide) (fun q => ?_) (fun q => ?_)
            · have hc49_381 : x < (10000 : Int32) := icT_lt q
              show Go p e below _ (T0.setTop (mkF m 54 #[.val (.int x)] []))
              refine s_iloadN S0 (hb hby dND_54) rfl (pc' := 55) rfl ?_
              refine s_sipush S0 (hb hby dND_55) (v := (1000 : Int32)) rfl (pc' := 58) rfl ?_
              refine g_icmp S0 (hb hby dND_58) (by decide) (pcT := 63) (by decide) (fun q => ?_) (fun q => ?_)
              · have hc58_382 : x < (1000 : Int32) := icT_lt q
                show Go p e below _ (T0.setTop (mkF m 63 #[.val (.int x)] []))
                refine s_iloadN S0 (hb hby dND_63) rfl (pc' := 64) rfl ?_
                refine s_bipush S0 (hb hby dND_64) (v := (100 : Int32)) rfl (pc' := 66) rfl ?_
                refine g_icmp S0 (hb hby dND_66) (by decide) (pcT := 71) (by decide) (fun q => ?_) (fun q => ?_)
                · have hc66_383 : x < (100 : Int32) := icT_lt q
                  show Go p e below _ (T0.setTop (mkF m 71 #[.val (.int x)] []))
                  refine s_iloadN S0 (hb hby dND_71) rfl (pc' := 72) rfl ?_
                  refine s_bipush S0 (hb hby dND_72) (v := (10 : Int32)) rfl (pc' := 74) rfl ?_
                  refine g_icmp S0 (hb hby dND_74) (by decide) (pcT := 79) (by decide) (fun q => ?_) (fun q => ?_)
                  · have hc74_384 : x < (10 : Int32) := icT_lt q
                    show Go p e below _ (T0.setTop (mkF m 79 #[.val (.int x)] []))
                    refine s_iconst S0 (hb hby dND_79) (v := (1 : Int32)) rfl (pc' := 80) rfl ?_
                    show Go p e below _ (T0.setTop (mkF m 80 #[.val (.int x)] [(.int (1 : Int32))]))
                    have rx := rng32 x
                    have e0 : (0 : Int32).toInt = 0 := rfl
                    rw [Int32.lt_iff_toInt_lt] at hx
                    rw [Int32.lt_iff_toInt_lt] at hc3_376
                    rw [Int32.lt_iff_toInt_lt] at hc12_377
                    rw [Int32.lt_iff_toInt_lt] at hc21_378
                    rw [Int32.lt_iff_toInt_lt] at hc30_379
                    rw [Int32.lt_iff_toInt_lt] at hc39_380
                    rw [Int32.lt_iff_toInt_lt] at hc49_381
                    rw [Int32.lt_iff_toInt_lt] at hc58_382
                    rw [Int32.lt_iff_toInt_lt] at hc66_383
                    rw [Int32.lt_iff_toInt_lt] at hc74_384
                    have q0 : ((10 : Int32) : Int32).toInt = 10 := rfl
                    have q1 : ((100 : Int32) : Int32).toInt = 100 := rfl
                    have q2 : ((1000 : Int32) : Int32).toInt = 1000 := rfl
                    have q3 : ((10000 : Int32) : Int32).toInt = 10000 := rfl
                    have q4 : ((100000 : Int32) : Int32).toInt = 100000 := rfl
                    have q5 : ((1000000 : Int32) : Int32).toInt = 1000000 := rfl
                    have q6 : ((10000000 : Int32) : Int32).toInt = 10000000 := rfl
                    have q7 : ((100000000 : Int32) : Int32).toInt = 100000000 := rfl
                    have q8 : ((1000000000 : Int32) : Int32).toInt = 1000000000 := rfl
                    exact g_iret S0 (hb hby dND_80) hret ⟨1, ⟨by decide, by decide, by show x.toInt.natAbs < 10; omega, Or.inl rfl⟩, rfl, rfl⟩
                  · have hc74_384 : ¬ x < (10 : Int32) := icF_lt q
                    show Go p e below _ (T0.setTop (mkF m 77 #[.val (.int x)] []))
                    refine s_iconst S0 (hb hby dND_77) (v := (2 : Int32)) rfl (pc' := 78) rfl ?_
                    show Go p e below _ (T0.setTop (mkF m 78 #[.val (.int x)] [(.int (2 : Int32))]))
                    have rx := rng32 x
                    have e0 : (0 : Int32).toInt = 0 := rfl
                    rw [Int32.lt_iff_toInt_lt] at hx
                    rw [Int32.lt_iff_toInt_lt] at hc3_376
                    rw [Int32.lt_iff_toInt_lt] at hc12_377
                    rw [Int32.lt_iff_toInt_lt] at hc21_378
                    rw [Int32.lt_iff_toInt_lt] at hc30_379
                    rw [Int32.lt_iff_toInt_lt] at hc39_380
                    rw [Int32.lt_iff_toInt_lt] at hc49_381
                    rw [Int32.lt_iff_toInt_lt] at hc58_382
                    rw [Int32.lt_iff_toInt_lt] at hc66_383
                    rw [Int32.lt_iff_toInt_lt] at hc74_384
                    have q0 : ((10 : Int32) : Int32).toInt = 10 := rfl
                    have q1 : ((100 : Int32) : Int32).toInt = 100 := rfl
                    have q2 : ((1000 : Int32) : Int32).toInt = 1000 := rfl
                    have q3 : ((10000 : Int32) : Int32).toInt = 10000 := rfl
                    have q4 : ((100000 : Int32) : Int32).toInt = 100000 := rfl
                    have q5 : ((1000000 : Int32) : Int32).toInt = 1000000 := rfl
                    have q6 : ((10000000 : Int32) : Int32).toInt = 10000000 := rfl
                    have q7 : ((100000000 : Int32) : Int32).toInt = 100000000 := rfl
                    have q8 : ((1000000000 : Int32) : Int32).toInt = 1000000000 := rfl
                    exact g_iret S0 (hb hby dND_78) hret ⟨2, ⟨by decide, by decide, by show x.toInt.natAbs < 100; omega, Or.inr (by show 10 ≤ x.toInt.natAbs; omega)⟩, rfl, rfl⟩
                · have hc66_383 : ¬ x < (100 : Int32) := icF_lt q
                  show Go p e below _ (T0.setTop (mkF m 69 #[.val (.int x)] []))
                  refine s_iconst S0 (hb hby dND_69) (v := (3 : Int32)) rfl (pc' := 70) rfl ?_
                  show Go p e below _ (T0.setTop (mkF m 70 #[.val (.int x)] [(.int (3 : Int32))]))
                  have rx := rng32 x
                  have e0 : (0 : Int32).toInt = 0 := rfl
                  rw [Int32.lt_iff_toInt_lt] at hx
                  rw [Int32.lt_iff_toInt_lt] at hc3_376
                  rw [Int32.lt_iff_toInt_lt] at hc12_377
                  rw [Int32.lt_iff_toInt_lt] at hc21_378
                  rw [Int32.lt_iff_toInt_lt] at hc30_379
                  rw [Int32.lt_iff_toInt_lt] at hc39_380
                  rw [Int32.lt_iff_toInt_lt] at hc49_381
                  rw [Int32.lt_iff_toInt_lt] at hc58_382
                  rw [Int32.lt_iff_toInt_lt] at hc66_383
                  have q0 : ((100 : Int32) : Int32).toInt = 100 := rfl
                  have q1 : ((1000 : Int32) : Int32).toInt = 1000 := rfl
                  have q2 : ((10000 : Int32) : Int32).toInt = 10000 := rfl
                  have q3 : ((100000 : Int32) : Int32).toInt = 100000 := rfl
                  have q4 : ((1000000 : Int32) : Int32).toInt = 1000000 := rfl
                  have q5 : ((10000000 : Int32) : Int32).toInt = 10000000 := rfl
                  have q6 : ((100000000 : Int32) : Int32).toInt = 100000000 := rfl
                  have q7 : ((1000000000 : Int32) : Int32).toInt = 1000000000 := rfl
                  exact g_iret S0 (hb hby dND_70) hret ⟨3, ⟨by decide, by decide, by show x.toInt.natAbs < 1000; omega, Or.inr (by show 100 ≤ x.toInt.natAbs; omega)⟩, rfl, rfl⟩
              · have hc58_382 : ¬ x < (1000 : Int32) := icF_lt q
                show Go p e below _ (T0.setTop (mkF m 61 #[.val (.int x)] []))
                refine s_iconst S0 (hb hby dND_61) (v := (4 : Int32)) rfl (pc' := 62) rfl ?_
                show Go p e below _ (T0.setTop (mkF m 62 #[.val (.int x)] [(.int (4 : Int32))]))
                have rx := rng32 x
                have e0 : (0 : Int32).toInt = 0 := rfl
                rw [Int32.lt_iff_toInt_lt] at hx
                rw [Int32.lt_iff_toInt_lt] at hc3_376
                rw [Int32.lt_iff_toInt_lt] at hc12_377
                rw [Int32.lt_iff_toInt_lt] at hc21_378
                rw [Int32.lt_iff_toInt_lt] at hc30_379
                rw [Int32.lt_iff_toInt_lt] at hc39_380
                rw [Int32.lt_iff_toInt_lt] at hc49_381
                rw [Int32.lt_iff_toInt_lt] at hc58_382
                have q0 : ((1000 : Int32) : Int32).toInt = 1000 := rfl
                have q1 : ((10000 : Int32) : Int32).toInt = 10000 := rfl
                have q2 : ((100000 : Int32) : Int32).toInt = 100000 := rfl
                have q3 : ((1000000 : Int32) : Int32).toInt = 1000000 := rfl
                have q4 : ((10000000 : Int32) : Int32).toInt = 10000000 := rfl
                have q5 : ((100000000 : Int32) : Int32).toInt = 100000000 := rfl
                have q6 : ((1000000000 : Int32) : Int32).toInt = 1000000000 := rfl
                exact g_iret S0 (hb hby dND_62) hret ⟨4, ⟨by decide, by decide, by show x.toInt.natAbs < 10000; omega, Or.inr (by show 1000 ≤ x.toInt.natAbs; omega)⟩, rfl, rfl⟩
            · have hc49_381 : ¬ x < (10000 : Int32) := icF_lt q
              show Go p e below _ (T0.setTop (mkF m 52 #[.val (.int x)] []))
              refine s_iconst S0 (hb hby dND_52) (v := (5 : Int32)) rfl (pc' := 53) rfl ?_
              show Go p e below _ (T0.setTop (mkF m 53 #[.val (.int x)] [(.int (5 : Int32))]))
              have rx := rng32 x
              have e0 : (0 : Int32).toInt = 0 := rfl
              rw [Int32.lt_iff_toInt_lt] at hx
              rw [Int32.lt_iff_toInt_lt] at hc3_376
              rw [Int32.lt_iff_toInt_lt] at hc12_377
              rw [Int32.lt_iff_toInt_lt] at hc21_378
              rw [Int32.lt_iff_toInt_lt] at hc30_379
              rw [Int32.lt_iff_toInt_lt] at hc39_380
              rw [Int32.lt_iff_toInt_lt] at hc49_381
              have q0 : ((10000 : Int32) : Int32).toInt = 10000 := rfl
              have q1 : ((100000 : Int32) : Int32).toInt = 100000 := rfl
              have q2 : ((1000000 : Int32) : Int32).toInt = 1000000 := rfl
              have q3 : ((10000000 : Int32) : Int32).toInt = 10000000 := rfl
              have q4 : ((100000000 : Int32) : Int32).toInt = 100000000 := rfl
              have q5 : ((1000000000 : Int32) : Int32).toInt = 1000000000 := rfl
              exact g_iret S0 (hb hby dND_53) hret ⟨5, ⟨by decide, by decide, by show x.toInt.natAbs < 100000; omega, Or.inr (by show 10000 ≤ x.toInt.natAbs; omega)⟩, rfl, rfl⟩
          · have hc39_380 : ¬ x < (100000 : Int32) := icF_lt q
            show Go p e below _ (T0.setTop (mkF m 42 #[.val (.int x)] []))
            refine s_bipush S0 (hb hby dND_42) (v := (6 : Int32)) rfl (pc' := 44) rfl ?_
            show Go p e below _ (T0.setTop (mkF m 44 #[.val (.int x)] [(.int (6 : Int32))]))
            have rx := rng32 x
            have e0 : (0 : Int32).toInt = 0 := rfl
            rw [Int32.lt_iff_toInt_lt] at hx
            rw [Int32.lt_iff_toInt_lt] at hc3_376
            rw [Int32.lt_iff_toInt_lt] at hc12_377
            rw [Int32.lt_iff_toInt_lt] at hc21_378
            rw [Int32.lt_iff_toInt_lt] at hc30_379
            rw [Int32.lt_iff_toInt_lt] at hc39_380
            have q0 : ((100000 : Int32) : Int32).toInt = 100000 := rfl
            have q1 : ((1000000 : Int32) : Int32).toInt = 1000000 := rfl
            have q2 : ((10000000 : Int32) : Int32).toInt = 10000000 := rfl
            have q3 : ((100000000 : Int32) : Int32).toInt = 100000000 := rfl
            have q4 : ((1000000000 : Int32) : Int32).toInt = 1000000000 := rfl
            exact g_iret S0 (hb hby dND_44) hret ⟨6, ⟨by decide, by decide, by show x.toInt.natAbs < 1000000; omega, Or.inr (by show 100000 ≤ x.toInt.natAbs; omega)⟩, rfl, rfl⟩
        · have hc30_379 : ¬ x < (1000000 : Int32) := icF_lt q
          show Go p e below _ (T0.setTop (mkF m 33 #[.val (.int x)] []))
          refine s_bipush S0 (hb hby dND_33) (v := (7 : Int32)) rfl (pc' := 35) rfl ?_
          show Go p e below _ (T0.setTop (mkF m 35 #[.val (.int x)] [(.int (7 : Int32))]))
          have rx := rng32 x
          have e0 : (0 : Int32).toInt = 0 := rfl
          rw [Int32.lt_iff_toInt_lt] at hx
          rw [Int32.lt_iff_toInt_lt] at hc3_376
          rw [Int32.lt_iff_toInt_lt] at hc12_377
          rw [Int32.lt_iff_toInt_lt] at hc21_378
          rw [Int32.lt_iff_toInt_lt] at hc30_379
          have q0 : ((1000000 : Int32) : Int32).toInt = 1000000 := rfl
          have q1 : ((10000000 : Int32) : Int32).toInt = 10000000 := rfl
          have q2 : ((100000000 : Int32) : Int32).toInt = 100000000 := rfl
          have q3 : ((1000000000 : Int32) : Int32).toInt = 1000000000 := rfl
          exact g_iret S0 (hb hby dND_35) hret ⟨7, ⟨by decide, by decide, by show x.toInt.natAbs < 10000000; omega, Or.inr (by show 1000000 ≤ x.toInt.natAbs; omega)⟩, rfl, rfl⟩
      · have hc21_378 : ¬ x < (10000000 : Int32) := icF_lt q
        show Go p e below _ (T0.setTop (mkF m 24 #[.val (.int x)] []))
        refine s_bipush S0 (hb hby dND_24) (v := (8 : Int32)) rfl (pc' := 26) rfl ?_
        show Go p e below _ (T0.setTop (mkF m 26 #[.val (.int x)] [(.int (8 : Int32))]))
        have rx := rng32 x
        have e0 : (0 : Int32).toInt = 0 := rfl
        rw [Int32.lt_iff_toInt_lt] at hx
        rw [Int32.lt_iff_toInt_lt] at hc3_376
        rw [Int32.lt_iff_toInt_lt] at hc12_377
        rw [Int32.lt_iff_toInt_lt] at hc21_378
        have q0 : ((10000000 : Int32) : Int32).toInt = 10000000 := rfl
        have q1 : ((100000000 : Int32) : Int32).toInt = 100000000 := rfl
        have q2 : ((1000000000 : Int32) : Int32).toInt = 1000000000 := rfl
        exact g_iret S0 (hb hby dND_26) hret ⟨8, ⟨by decide, by decide, by show x.toInt.natAbs < 100000000; omega, Or.inr (by show 10000000 ≤ x.toInt.natAbs; omega)⟩, rfl, rfl⟩
    · have hc12_377 : ¬ x < (100000000 : Int32) := icF_lt q
      show Go p e below _ (T0.setTop (mkF m 15 #[.val (.int x)] []))
      refine s_bipush S0 (hb hby dND_15) (v := (9 : Int32)) rfl (pc' := 17) rfl ?_
      show Go p e below _ (T0.setTop (mkF m 17 #[.val (.int x)] [(.int (9 : Int32))]))
      have rx := rng32 x
      have e0 : (0 : Int32).toInt = 0 := rfl
      rw [Int32.lt_iff_toInt_lt] at hx
      rw [Int32.lt_iff_toInt_lt] at hc3_376
      rw [Int32.lt_iff_toInt_lt] at hc12_377
      have q0 : ((100000000 : Int32) : Int32).toInt = 100000000 := rfl
      have q1 : ((1000000000 : Int32) : Int32).toInt = 1000000000 := rfl
      exact g_iret S0 (hb hby dND_17) hret ⟨9, ⟨by decide, by decide, by show x.toInt.natAbs < 1000000000; omega, Or.inr (by show 100000000 ≤ x.toInt.natAbs; omega)⟩, rfl, rfl⟩
  · have hc3_376 : ¬ x < (1000000000 : Int32) := icF_lt q
    show Go p e below _ (T0.setTop (mkF m 6 #[.val (.int x)] []))
    refine s_bipush S0 (hb hby dND_6) (v := (10 : Int32)) rfl (pc' := 8) rfl ?_
    show Go p e below _ (T0.setTop (mkF m 8 #[.val (.int x)] [(.int (10 : Int32))]))
    have rx := rng32 x
    have e0 : (0 : Int32).toInt = 0 := rfl
    rw [Int32.lt_iff_toInt_lt] at hx
    rw [Int32.lt_iff_toInt_lt] at hc3_376
    have q0 : ((1000000000 : Int32) : Int32).toInt = 1000000000 := rfl
    exact g_iret S0 (hb hby dND_8) hret ⟨10, ⟨by decide, by decide, by show x.toInt.natAbs < 10000000000; omega, Or.inr (by show 1000000000 ≤ x.toInt.natAbs; omega)⟩, rfl, rfl⟩
theorem dSM_0 : decode method_3_code 0 = .ok (.aload_n 0, 1) := by decide +kernel
theorem dSM_1 : decode method_3_code 1 = .ok (.iload_n 2, 1) := by decide +kernel
theorem dSM_2 : decode method_3_code 2 = .ok (.invokevirtual 43, 3) := by decide +kernel
theorem dSM_5 : decode method_3_code 5 = .ok (.aload_n 1, 1) := by decide +kernel
theorem dSM_6 : decode method_3_code 6 = .ok (.iload_n 2, 1) := by decide +kernel
theorem dSM_7 : decode method_3_code 7 = .ok (.invokevirtual 43, 3) := by decide +kernel
theorem dSM_10 : decode method_3_code 10 = .ok (.if_icmp .ne 7, 3) := by decide +kernel
theorem dSM_13 : decode method_3_code 13 = .ok (.iconst 1, 1) := by decide +kernel
theorem dSM_14 : decode method_3_code 14 = .ok (.goto 4, 3) := by decide +kernel
theorem dSM_18 : decode method_3_code 18 = .ok (.ireturn, 1) := by decide +kernel
set_option maxRecDepth 65536 in
set_option maxHeartbeats 40000000 in
theorem rmSM {l : Launch} {Z : State} {a0 : Array Value} {n0 : Nat} (X : Ctx Z a0) {a b : Addr} {cs ds : List Int32} {i : Nat} {h : Heap} (hO : Old Z n0 h) (F : StrF Z h a cs) (G : StrF Z h b ds) (hl1 : ∀ c ∈ cs, ¬ (255 : Int32) < c) (hl2 : ∀ c ∈ ds, ¬ (255 : Int32) < c) (hi1 : i < cs.length) (hi2 : i < ds.length) (heq : cs.getD i 0 = ds.getD i 0) :
    Ctr l Z EL1 n0 (⟨"com/example/wachter/wachter/policy/DecisionAllowedByPinLaw", "same", "(Ljava/lang/String;Ljava/lang/String;I)Z"⟩ : MethodName) method_3_code 3 (some .boolean) ({ frames := 4, cells := 0, slots := 0, locals := 55 } : Room) #[(.ref a), (.ref b), (.int (Int32.ofNat i))] h [] (fun v h' => v = some (.int 1) ∧ h' = h) := by
  have hw := X.hw
  obtain ⟨z1, hz1, hz2⟩ := X.2.2.1
  refine Ctr.intro (a0 := a0) (plainFor_of_name pn7) hO X.ew ?_
  intro p e s m below meth c T0 V0 S0 hby hml hret hnm hsf
  rw [ef18]
  refine s_aloadN S0 (hb hby dSM_0) rfl rfl (pc' := 1) rfl ?_
  refine s_iloadN S0 (hb hby dSM_1) rfl (pc' := 2) rfl ?_
  show Go p e below _ (T0.setTop (mkF m 2 #[.val (.ref a), .val (.ref b), .val (.int (Int32.ofNat i))] [(.int (Int32.ofNat i)), (.ref a)]))
  refine g_strChar S0 X (i := i) F hl1 hi1 rfl (w204 hw) (hb hby dSM_2) (by rw [hml]; rfl) (Nat.le_of_ble_eq_true rfl) (Nat.le_of_ble_eq_true rfl) (Nat.le_of_ble_eq_true rfl) (Nat.le_of_ble_eq_true rfl) ?_
  intro T385 S385
  show Go p e below _ (T385.setTop (mkF m 5 #[.val (.ref a), .val (.ref b), .val (.int (Int32.ofNat i))] [(.int (cs.getD i 0))]))
  refine s_aloadN S385 (hb hby dSM_5) rfl rfl (pc' := 6) rfl ?_
  refine s_iloadN S385 (hb hby dSM_6) rfl (pc' := 7) rfl ?_
  show Go p e below _ (T385.setTop (mkF m 7 #[.val (.ref a), .val (.ref b), .val (.int (Int32.ofNat i))] [(.int (Int32.ofNat i)), (.ref b), (.int (cs.getD i 0))]))
  refine g_strChar S385 X (i := i) G hl2 hi2 rfl (w204 hw) (hb hby dSM_7) (by rw [hml]; rfl) (Nat.le_of_ble_eq_true rfl) (Nat.le_of_ble_eq_true rfl) (Nat.le_of_ble_eq_true rfl) (Nat.le_of_ble_eq_true rfl) ?_
  intro T386 S386
  show Go p e below _ (T386.setTop (mkF m 10 #[.val (.ref a), .val (.ref b), .val (.int (Int32.ofNat i))] [(.int (ds.getD i 0)), (.int (cs.getD i 0))]))
  refine s_icmpN S386 (hb hby dSM_10) ((teq heq).2) (pc' := 13) rfl ?_
  refine s_iconst S386 (hb hby dSM_13) (v := (1 : Int32)) rfl (pc' := 14) rfl ?_
  refine s_goto S386 (hb hby dSM_14) (by decide) (pcT := 18) (by decide) ?_
  exact g_iretN S386 (hb hby dSM_18) hret (by simp) ⟨rfl, rfl⟩
theorem dDK_0 : decode method_5_code 0 = .ok (.iload_n 3, 1) := by decide +kernel
theorem dDK_1 : decode method_5_code 1 = .ok (.iload_n 2, 1) := by decide +kernel
theorem dDK_2 : decode method_5_code 2 = .ok (.if_icmp .lt 5, 3) := by decide +kernel
theorem dDK_5 : decode method_5_code 5 = .ok (.iconst 1, 1) := by decide +kernel
theorem dDK_6 : decode method_5_code 6 = .ok (.ireturn, 1) := by decide +kernel
theorem dDK_7 : decode method_5_code 7 = .ok (.bipush 10, 2) := by decide +kernel
theorem dDK_9 : decode method_5_code 9 = .ok (.newarray .int, 2) := by decide +kernel
theorem dDK_11 : decode method_5_code 11 = .ok (.dup, 1) := by decide +kernel
theorem dDK_12 : decode method_5_code 12 = .ok (.iconst 0, 1) := by decide +kernel
theorem dDK_13 : decode method_5_code 13 = .ok (.ldc 51, 2) := by decide +kernel
theorem dDK_15 : decode method_5_code 15 = .ok (.iastore, 1) := by decide +kernel
theorem dDK_16 : decode method_5_code 16 = .ok (.dup, 1) := by decide +kernel
theorem dDK_17 : decode method_5_code 17 = .ok (.iconst 1, 1) := by decide +kernel
theorem dDK_18 : decode method_5_code 18 = .ok (.ldc 52, 2) := by decide +kernel
theorem dDK_20 : decode method_5_code 20 = .ok (.iastore, 1) := by decide +kernel
theorem dDK_21 : decode method_5_code 21 = .ok (.dup, 1) := by decide +kernel
theorem dDK_22 : decode method_5_code 22 = .ok (.iconst 2, 1) := by decide +kernel
theorem dDK_23 : decode method_5_code 23 = .ok (.ldc 53, 2) := by decide +kernel
theorem dDK_25 : decode method_5_code 25 = .ok (.iastore, 1) := by decide +kernel
theorem dDK_26 : decode method_5_code 26 = .ok (.dup, 1) := by decide +kernel
theorem dDK_27 : decode method_5_code 27 = .ok (.iconst 3, 1) := by decide +kernel
theorem dDK_28 : decode method_5_code 28 = .ok (.ldc 54, 2) := by decide +kernel
theorem dDK_30 : decode method_5_code 30 = .ok (.iastore, 1) := by decide +kernel
theorem dDK_31 : decode method_5_code 31 = .ok (.dup, 1) := by decide +kernel
theorem dDK_32 : decode method_5_code 32 = .ok (.iconst 4, 1) := by decide +kernel
theorem dDK_33 : decode method_5_code 33 = .ok (.ldc 55, 2) := by decide +kernel
theorem dDK_35 : decode method_5_code 35 = .ok (.iastore, 1) := by decide +kernel
theorem dDK_36 : decode method_5_code 36 = .ok (.dup, 1) := by decide +kernel
theorem dDK_37 : decode method_5_code 37 = .ok (.iconst 5, 1) := by decide +kernel
theorem dDK_38 : decode method_5_code 38 = .ok (.sipush 10000, 3) := by decide +kernel
theorem dDK_41 : decode method_5_code 41 = .ok (.iastore, 1) := by decide +kernel
theorem dDK_42 : decode method_5_code 42 = .ok (.dup, 1) := by decide +kernel
theorem dDK_43 : decode method_5_code 43 = .ok (.bipush 6, 2) := by decide +kernel
theorem dDK_45 : decode method_5_code 45 = .ok (.sipush 1000, 3) := by decide +kernel
theorem dDK_48 : decode method_5_code 48 = .ok (.iastore, 1) := by decide +kernel
theorem dDK_49 : decode method_5_code 49 = .ok (.dup, 1) := by decide +kernel
theorem dDK_50 : decode method_5_code 50 = .ok (.bipush 7, 2) := by decide +kernel
theorem dDK_52 : decode method_5_code 52 = .ok (.bipush 100, 2) := by decide +kernel
theorem dDK_54 : decode method_5_code 54 = .ok (.iastore, 1) := by decide +kernel
theorem dDK_55 : decode method_5_code 55 = .ok (.dup, 1) := by decide +kernel
theorem dDK_56 : decode method_5_code 56 = .ok (.bipush 8, 2) := by decide +kernel
theorem dDK_58 : decode method_5_code 58 = .ok (.bipush 10, 2) := by decide +kernel
theorem dDK_60 : decode method_5_code 60 = .ok (.iastore, 1) := by decide +kernel
theorem dDK_61 : decode method_5_code 61 = .ok (.dup, 1) := by decide +kernel
theorem dDK_62 : decode method_5_code 62 = .ok (.bipush 9, 2) := by decide +kernel
theorem dDK_64 : decode method_5_code 64 = .ok (.iconst 1, 1) := by decide +kernel
theorem dDK_65 : decode method_5_code 65 = .ok (.iastore, 1) := by decide +kernel
theorem dDK_66 : decode method_5_code 66 = .ok (.astore 4, 2) := by decide +kernel
theorem dDK_68 : decode method_5_code 68 = .ok (.bipush 10, 2) := by decide +kernel
theorem dDK_70 : decode method_5_code 70 = .ok (.iload_n 2, 1) := by decide +kernel
theorem dDK_71 : decode method_5_code 71 = .ok (.isub, 1) := by decide +kernel
theorem dDK_72 : decode method_5_code 72 = .ok (.iload_n 3, 1) := by decide +kernel
theorem dDK_73 : decode method_5_code 73 = .ok (.iadd, 1) := by decide +kernel
theorem dDK_74 : decode method_5_code 74 = .ok (.istore 5, 2) := by decide +kernel
theorem dDK_76 : decode method_5_code 76 = .ok (.iload_n 1, 1) := by decide +kernel
theorem dDK_77 : decode method_5_code 77 = .ok (.aload 4, 2) := by decide +kernel
theorem dDK_79 : decode method_5_code 79 = .ok (.iload 5, 2) := by decide +kernel
theorem dDK_81 : decode method_5_code 81 = .ok (.iaload, 1) := by decide +kernel
theorem dDK_82 : decode method_5_code 82 = .ok (.idiv, 1) := by decide +kernel
theorem dDK_83 : decode method_5_code 83 = .ok (.bipush 10, 2) := by decide +kernel
theorem dDK_85 : decode method_5_code 85 = .ok (.irem, 1) := by decide +kernel
theorem dDK_86 : decode method_5_code 86 = .ok (.istore 6, 2) := by decide +kernel
theorem dDK_88 : decode method_5_code 88 = .ok (.aload_n 0, 1) := by decide +kernel
theorem dDK_89 : decode method_5_code 89 = .ok (.bipush 14, 2) := by decide +kernel
theorem dDK_91 : decode method_5_code 91 = .ok (.iload_n 3, 1) := by decide +kernel
theorem dDK_92 : decode method_5_code 92 = .ok (.iadd, 1) := by decide +kernel
theorem dDK_93 : decode method_5_code 93 = .ok (.invokevirtual 43, 3) := by decide +kernel
theorem dDK_96 : decode method_5_code 96 = .ok (.bipush 48, 2) := by decide +kernel
theorem dDK_98 : decode method_5_code 98 = .ok (.iload 6, 2) := by decide +kernel
theorem dDK_100 : decode method_5_code 100 = .ok (.iadd, 1) := by decide +kernel
theorem dDK_101 : decode method_5_code 101 = .ok (.i2c, 1) := by decide +kernel
theorem dDK_102 : decode method_5_code 102 = .ok (.if_icmp .ne 7, 3) := by decide +kernel
theorem dDK_105 : decode method_5_code 105 = .ok (.iconst 1, 1) := by decide +kernel
theorem dDK_106 : decode method_5_code 106 = .ok (.goto 4, 3) := by decide +kernel
theorem dDK_110 : decode method_5_code 110 = .ok (.ireturn, 1) := by decide +kernel
set_option maxRecDepth 65536 in
set_option maxHeartbeats 40000000 in
theorem rmDK {l : Launch} {Z : State} {a0 : Array Value} {n0 : Nat} (X : Ctx Z a0) {a : Addr} {x : Int32} {cs : List Int32} {nd k : Nat} {h : Heap} (hO : Old Z n0 h) (F : StrF Z h a cs) (hl1 : ∀ c ∈ cs, ¬ (255 : Int32) < c) (hx : ¬ x < 0) (hnd : Nd x.toInt.natAbs nd) (hk : k ≤ 9) (hlen : k < nd → 14 + k < cs.length) (hdig : k < nd → cs.getD (14 + k) 0 = (Int32.ofNat (48 + x.toInt.natAbs / 10 ^ (nd - 1 - k) % 10))) :
    Ctr l Z EL1 n0 (⟨"com/example/wachter/wachter/policy/DecisionAllowedByPinLaw", "digitOk", "(Ljava/lang/String;III)Z"⟩ : MethodName) method_5_code 7 (some .boolean) ({ frames := 4, cells := 1, slots := 10, locals := 55 } : Room) #[(.ref a), (.int x), (.int (Int32.ofNat nd)), (.int (Int32.ofNat k))] h [] (fun v h' => v = some (.int 1) ∧ Ext h h') := by
  have hw := X.hw
  obtain ⟨z1, hz1, hz2⟩ := X.2.2.1
  refine Ctr.intro (a0 := a0) (plainFor_of_name pn7) hO X.ew ?_
  intro p e s m below meth c T0 V0 S0 hby hml hret hnm hsf
  rw [ef19]
  have hn10 := hnd.2.1
  have hn01 := hnd.1
  show Go p e below _ (T0.setTop (mkF m 0 #[.val (.ref a), .val (.int x), .val (.int (Int32.ofNat nd)), .val (.int (Int32.ofNat k)), .unset, .unset, .unset] []))
  refine s_iloadN S0 (hb hby dDK_0) rfl (pc' := 1) rfl ?_
  refine s_iloadN S0 (hb hby dDK_1) rfl (pc' := 2) rfl ?_
  refine g_icmp S0 (hb hby dDK_2) (by decide) (pcT := 7) (by decide) (fun q => ?_) (fun q => ?_)
  · have hc2_387 : (Int32.ofNat k) < (Int32.ofNat nd) := icT_lt q
    have hkn : k < nd := by rw [Int32.lt_iff_toInt_lt, o_int (by omega), o_int (by omega)] at hc2_387; omega
    have hdg := hdig hkn
    have hln := hlen hkn
    show Go p e below _ (T0.setTop (mkF m 7 #[.val (.ref a), .val (.int x), .val (.int (Int32.ofNat nd)), .val (.int (Int32.ofNat k)), .unset, .unset, .unset] []))
    refine s_bipush S0 (hb hby dDK_7) (v := (10 : Int32)) rfl (pc' := 9) rfl ?_
    refine g_newarr (aty := .int) S0 (w229 hw) (hb hby dDK_9) (by decide) (cap := 10) (by decide) (by decide) (Nat.le_of_ble_eq_true rfl) (Nat.le_of_ble_eq_true rfl) ?_
    intro T388 h388 b388 kc388 S388 E388 fr388 lt388 na388 sf388 A388
    have V388 : Arv Z h388 b388 kc388 .int (10 : Int32) [(.int (0 : Int32)), (.int (0 : Int32)), (.int (0 : Int32)), (.int (0 : Int32)), (.int (0 : Int32)), (.int (0 : Int32)), (.int (0 : Int32)), (.int (0 : Int32)), (.int (0 : Int32)), (.int (0 : Int32))] (.int (0 : Int32)) := A388 10
    show Go p e below _ (T388.setTop (mkF m 11 #[.val (.ref a), .val (.int x), .val (.int (Int32.ofNat nd)), .val (.int (Int32.ofNat k)), .unset, .unset, .unset] [(.ref b388)]))
    refine s_dup S388 (hb hby dDK_11) rfl (pc' := 12) rfl ?_
    refine s_iconst S388 (hb hby dDK_12) (v := (0 : Int32)) rfl (pc' := 13) rfl ?_
    refine g_ldcI S388 (w194 hw) (hb hby dDK_13) ?_
    show Go p e below _ (T388.setTop (mkF m 15 #[.val (.ref a), .val (.int x), .val (.int (Int32.ofNat nd)), .val (.int (Int32.ofNat k)), .unset, .unset, .unset] [(.int (1000000000 : Int32)), (.int (0 : Int32)), (.ref b388), (.ref b388)]))
    show Go p e below _ (T388.setTop (mkF m 15 #[.val (.ref a), .val (.int x), .val (.int (Int32.ofNat nd)), .val (.int (Int32.ofNat k)), .unset, .unset, .unset] [(.int (1000000000 : Int32)), (.int (0 : Int32)), (.ref b388), (.ref b388)]))
    refine g_iastore S388 V388 ⟨by decide, by decide⟩ 0 rfl (Nat.le_of_ble_eq_true rfl) na388 (hb hby dDK_15) ?_
    intro T389 h389 S389 K389 V389 sg389
    have V389 : Arv Z h389 b388 kc388 .int (10 : Int32) [(.int (1000000000 : Int32)), (.int (0 : Int32)), (.int (0 : Int32)), (.int (0 : Int32)), (.int (0 : Int32)), (.int (0 : Int32)), (.int (0 : Int32)), (.int (0 : Int32)), (.int (0 : Int32)), (.int (0 : Int32))] (.int (0 : Int32)) := V389
    show Go p e below _ (T389.setTop (mkF m 16 #[.val (.ref a), .val (.int x), .val (.int (Int32.ofNat nd)), .val (.int (Int32.ofNat k)), .unset, .unset, .unset] [(.ref b388)]))
    refine s_dup S389 (hb hby dDK_16) rfl (pc' := 17) rfl ?_
    refine s_iconst S389 (hb hby dDK_17) (v := (1 : Int32)) rfl (pc' := 18) rfl ?_
    refine g_ldcI S389 (w195 hw) (hb hby dDK_18) ?_
    show Go p e below _ (T389.setTop (mkF m 20 #[.val (.ref a), .val (.int x), .val (.int (Int32.ofNat nd)), .val (.int (Int32.ofNat k)), .unset, .unset, .unset] [(.int (100000000 : Int32)), (.int (1 : Int32)), (.ref b388), (.ref b388)]))
    show Go p e below _ (T389.setTop (mkF m 20 #[.val (.ref a), .val (.int x), .val (.int (Int32.ofNat nd)), .val (.int (Int32.ofNat k)), .unset, .unset, .unset] [(.int (100000000 : Int32)), (.int (1 : Int32)), (.ref b388), (.ref b388)]))
    refine g_iastore S389 V389 ⟨by decide, by decide⟩ 1 rfl (Nat.le_of_ble_eq_true rfl) na388 (hb hby dDK_20) ?_
    intro T390 h390 S390 K390 V390 sg390
    have V390 : Arv Z h390 b388 kc388 .int (10 : Int32) [(.int (1000000000 : Int32)), (.int (100000000 : Int32)), (.int (0 : Int32)), (.int (0 : Int32)), (.int (0 : Int32)), (.int (0 : Int32)), (.int (0 : Int32)), (.int (0 : Int32)), (.int (0 : Int32)), (.int (0 : Int32))] (.int (0 : Int32)) := V390
    show Go p e below _ (T390.setTop (mkF m 21 #[.val (.ref a), .val (.int x), .val (.int (Int32.ofNat nd)), .val (.int (Int32.ofNat k)), .unset, .unset, .unset] [(.ref b388)]))
    refine s_dup S390 (hb hby dDK_21) rfl (pc' := 22) rfl ?_
    refine s_iconst S390 (hb hby dDK_22) (v := (2 : Int32)) rfl (pc' := 23) rfl ?_
    refine g_ldcI S390 (w196 hw) (hb hby dDK_23) ?_
    show Go p e below _ (T390.setTop (mkF m 25 #[.val (.ref a), .val (.int x), .val (.int (Int32.ofNat nd)), .val (.int (Int32.ofNat k)), .unset, .unset, .unset] [(.int (10000000 : Int32)), (.int (2 : Int32)), (.ref b388), (.ref b388)]))
    show Go p e below _ (T390.setTop (mkF m 25 #[.val (.ref a), .val (.int x), .val (.int (Int32.ofNat nd)), .val (.int (Int32.ofNat k)), .unset, .unset, .unset] [(.int (10000000 : Int32)), (.int (2 : Int32)), (.ref b388), (.ref b388)]))
    refine g_iastore S390 V390 ⟨by decide, by decide⟩ 2 rfl (Nat.le_of_ble_eq_true rfl) na388 (hb hby dDK_25) ?_
    intro T391 h391 S391 K391 V391 sg391
    have V391 : Arv Z h391 b388 kc388 .int (10 : Int32) [(.int (1000000000 : Int32)), (.int (100000000 : Int32)), (.int (10000000 : Int32)), (.int (0 : Int32)), (.int (0 : Int32)), (.int (0 : Int32)), (.int (0 : Int32)), (.int (0 : Int32)), (.int (0 : Int32)), (.int (0 : Int32))] (.int (0 : Int32)) := V391
    show Go p e below _ (T391.setTop (mkF m 26 #[.val (.ref a), .val (.int x), .val (.int (Int32.ofNat nd)), .val (.int (Int32.ofNat k)), .unset, .unset, .unset] [(.ref b388)]))
    refine s_dup S391 (hb hby dDK_26) rfl (pc' := 27) rfl ?_
    refine s_iconst S391 (hb hby dDK_27) (v := (3 : Int32)) rfl (pc' := 28) rfl ?_
    refine g_ldcI S391 (w197 hw) (hb hby dDK_28) ?_
    show Go p e below _ (T391.setTop (mkF m 30 #[.val (.ref a), .val (.int x), .val (.int (Int32.ofNat nd)), .val (.int (Int32.ofNat k)), .unset, .unset, .unset] [(.int (1000000 : Int32)), (.int (3 : Int32)), (.ref b388), (.ref b388)]))
    show Go p e below _ (T391.setTop (mkF m 30 #[.val (.ref a), .val (.int x), .val (.int (Int32.ofNat nd)), .val (.int (Int32.ofNat k)), .unset, .unset, .unset] [(.int (1000000 : Int32)), (.int (3 : Int32)), (.ref b388), (.ref b388)]))
    refine g_iastore S391 V391 ⟨by decide, by decide⟩ 3 rfl (Nat.le_of_ble_eq_true rfl) na388 (hb hby dDK_30) ?_
    intro T392 h392 S392 K392 V392 sg392
    have V392 : Arv Z h392 b388 kc388 .int (10 : Int32) [(.int (1000000000 : Int32)), (.int (100000000 : Int32)), (.int (10000000 : Int32)), (.int (1000000 : Int32)), (.int (0 : Int32)), (.int (0 : Int32)), (.int (0 : Int32)), (.int (0 : Int32)), (.int (0 : Int32)), (.int (0 : Int32))] (.int (0 : Int32)) := V392
    show Go p e below _ (T392.setTop (mkF m 31 #[.val (.ref a), .val (.int x), .val (.int (Int32.ofNat nd)), .val (.int (Int32.ofNat k)), .unset, .unset, .unset] [(.ref b388)]))
    refine s_dup S392 (hb hby dDK_31) rfl (pc' := 32) rfl ?_
    refine s_iconst S392 (hb hby dDK_32) (v := (4 : Int32)) rfl (pc' := 33) rfl ?_
    refine g_ldcI S392 (w198 hw) (hb hby dDK_33) ?_
    show Go p e below _ (T392.setTop (mkF m 35 #[.val (.ref a), .val (.int x), .val (.int (Int32.ofNat nd)), .val (.int (Int32.ofNat k)), .unset, .unset, .unset] [(.int (100000 : Int32)), (.int (4 : Int32)), (.ref b388), (.ref b388)]))
    show Go p e below _ (T392.setTop (mkF m 35 #[.val (.ref a), .val (.int x), .val (.int (Int32.ofNat nd)), .val (.int (Int32.ofNat k)), .unset, .unset, .unset] [(.int (100000 : Int32)), (.int (4 : Int32)), (.ref b388), (.ref b388)]))
    refine g_iastore S392 V392 ⟨by decide, by decide⟩ 4 rfl (Nat.le_of_ble_eq_true rfl) na388 (hb hby dDK_35) ?_
    intro T393 h393 S393 K393 V393 sg393
    have V393 : Arv Z h393 b388 kc388 .int (10 : Int32) [(.int (1000000000 : Int32)), (.int (100000000 : Int32)), (.int (10000000 : Int32)), (.int (1000000 : Int32)), (.int (100000 : Int32)), (.int (0 : Int32)), (.int (0 : Int32)), (.int (0 : Int32)), (.int (0 : Int32)), (.int (0 : Int32))] (.int (0 : Int32)) := V393
    show Go p e below _ (T393.setTop (mkF m 36 #[.val (.ref a), .val (.int x), .val (.int (Int32.ofNat nd)), .val (.int (Int32.ofNat k)), .unset, .unset, .unset] [(.ref b388)]))
    refine s_dup S393 (hb hby dDK_36) rfl (pc' := 37) rfl ?_
    refine s_iconst S393 (hb hby dDK_37) (v := (5 : Int32)) rfl (pc' := 38) rfl ?_
    refine s_sipush S393 (hb hby dDK_38) (v := (10000 : Int32)) rfl (pc' := 41) rfl ?_
    show Go p e below _ (T393.setTop (mkF m 41 #[.val (.ref a), .val (.int x), .val (.int (Int32.ofNat nd)), .val (.int (Int32.ofNat k)), .unset, .unset, .unset] [(.int (10000 : Int32)), (.int (5 : Int32)), (.ref b388), (.ref b388)]))
    refine g_iastore S393 V393 ⟨by decide, by decide⟩ 5 rfl (Nat.le_of_ble_eq_true rfl) na388 (hb hby dDK_41) ?_
    intro T394 h394 S394 K394 V394 sg394
    have V394 : Arv Z h394 b388 kc388 .int (10 : Int32) [(.int (1000000000 : Int32)), (.int (100000000 : Int32)), (.int (10000000 : Int32)), (.int (1000000 : Int32)), (.int (100000 : Int32)), (.int (10000 : Int32)), (.int (0 : Int32)), (.int (0 : Int32)), (.int (0 : Int32)), (.int (0 : Int32))] (.int (0 : Int32)) := V394
    show Go p e below _ (T394.setTop (mkF m 42 #[.val (.ref a), .val (.int x), .val (.int (Int32.ofNat nd)), .val (.int (Int32.ofNat k)), .unset, .unset, .unset] [(.ref b388)]))
    refine s_dup S394 (hb hby dDK_42) rfl (pc' := 43) rfl ?_
    refine s_bipush S394 (hb hby dDK_43) (v := (6 : Int32)) rfl (pc' := 45) rfl ?_
    refine s_sipush S394 (hb hby dDK_45) (v := (1000 : Int32)) rfl (pc' := 48) rfl ?_
    show Go p e below _ (T394.setTop (mkF m 48 #[.val (.ref a), .val (.int x), .val (.int (Int32.ofNat nd)), .val (.int (Int32.ofNat k)), .unset, .unset, .unset] [(.int (1000 : Int32)), (.int (6 : Int32)), (.ref b388), (.ref b388)]))
    refine g_iastore S394 V394 ⟨by decide, by decide⟩ 6 rfl (Nat.le_of_ble_eq_true rfl) na388 (hb hby dDK_48) ?_
    intro T395 h395 S395 K395 V395 sg395
    have V395 : Arv Z h395 b388 kc388 .int (10 : Int32) [(.int (1000000000 : Int32)), (.int (100000000 : Int32)), (.int (10000000 : Int32)), (.int (1000000 : Int32)), (.int (100000 : Int32)), (.int (10000 : Int32)), (.int (1000 : Int32)), (.int (0 : Int32)), (.int (0 : Int32)), (.int (0 : Int32))] (.int (0 : Int32)) := V395
    show Go p e below _ (T395.setTop (mkF m 49 #[.val (.ref a), .val (.int x), .val (.int (Int32.ofNat nd)), .val (.int (Int32.ofNat k)), .unset, .unset, .unset] [(.ref b388)]))
    refine s_dup S395 (hb hby dDK_49) rfl (pc' := 50) rfl ?_
    refine s_bipush S395 (hb hby dDK_50) (v := (7 : Int32)) rfl (pc' := 52) rfl ?_
    refine s_bipush S395 (hb hby dDK_52) (v := (100 : Int32)) rfl (pc' := 54) rfl ?_
    show Go p e below _ (T395.setTop (mkF m 54 #[.val (.ref a), .val (.int x), .val (.int (Int32.ofNat nd)), .val (.int (Int32.ofNat k)), .unset, .unset, .unset] [(.int (100 : Int32)), (.int (7 : Int32)), (.ref b388), (.ref b388)]))
    refine g_iastore S395 V395 ⟨by decide, by decide⟩ 7 rfl (Nat.le_of_ble_eq_true rfl) na388 (hb hby dDK_54) ?_
    intro T396 h396 S396 K396 V396 sg396
    have V396 : Arv Z h396 b388 kc388 .int (10 : Int32) [(.int (1000000000 : Int32)), (.int (100000000 : Int32)), (.int (10000000 : Int32)), (.int (1000000 : Int32)), (.int (100000 : Int32)), (.int (10000 : Int32)), (.int (1000 : Int32)), (.int (100 : Int32)), (.int (0 : Int32)), (.int (0 : Int32))] (.int (0 : Int32)) := V396
    show Go p e below _ (T396.setTop (mkF m 55 #[.val (.ref a), .val (.int x), .val (.int (Int32.ofNat nd)), .val (.int (Int32.ofNat k)), .unset, .unset, .unset] [(.ref b388)]))
    refine s_dup S396 (hb hby dDK_55) rfl (pc' := 56) rfl ?_
    refine s_bipush S396 (hb hby dDK_56) (v := (8 : Int32)) rfl (pc' := 58) rfl ?_
    refine s_bipush S396 (hb hby dDK_58) (v := (10 : Int32)) rfl (pc' := 60) rfl ?_
    show Go p e below _ (T396.setTop (mkF m 60 #[.val (.ref a), .val (.int x), .val (.int (Int32.ofNat nd)), .val (.int (Int32.ofNat k)), .unset, .unset, .unset] [(.int (10 : Int32)), (.int (8 : Int32)), (.ref b388), (.ref b388)]))
    refine g_iastore S396 V396 ⟨by decide, by decide⟩ 8 rfl (Nat.le_of_ble_eq_true rfl) na388 (hb hby dDK_60) ?_
    intro T397 h397 S397 K397 V397 sg397
    have V397 : Arv Z h397 b388 kc388 .int (10 : Int32) [(.int (1000000000 : Int32)), (.int (100000000 : Int32)), (.int (10000000 : Int32)), (.int (1000000 : Int32)), (.int (100000 : Int32)), (.int (10000 : Int32)), (.int (1000 : Int32)), (.int (100 : Int32)), (.int (10 : Int32)), (.int (0 : Int32))] (.int (0 : Int32)) := V397
    show Go p e below _ (T397.setTop (mkF m 61 #[.val (.ref a), .val (.int x), .val (.int (Int32.ofNat nd)), .val (.int (Int32.ofNat k)), .unset, .unset, .unset] [(.ref b388)]))
    refine s_dup S397 (hb hby dDK_61) rfl (pc' := 62) rfl ?_
    refine s_bipush S397 (hb hby dDK_62) (v := (9 : Int32)) rfl (pc' := 64) rfl ?_
    refine s_iconst S397 (hb hby dDK_64) (v := (1 : Int32)) rfl (pc' := 65) rfl ?_
    show Go p e below _ (T397.setTop (mkF m 65 #[.val (.ref a), .val (.int x), .val (.int (Int32.ofNat nd)), .val (.int (Int32.ofNat k)), .unset, .unset, .unset] [(.int (1 : Int32)), (.int (9 : Int32)), (.ref b388), (.ref b388)]))
    refine g_iastore S397 V397 ⟨by decide, by decide⟩ 9 rfl (Nat.le_of_ble_eq_true rfl) na388 (hb hby dDK_65) ?_
    intro T398 h398 S398 K398 V398 sg398
    have V398 : Arv Z h398 b388 kc388 .int (10 : Int32) [(.int (1000000000 : Int32)), (.int (100000000 : Int32)), (.int (10000000 : Int32)), (.int (1000000 : Int32)), (.int (100000 : Int32)), (.int (10000 : Int32)), (.int (1000 : Int32)), (.int (100 : Int32)), (.int (10 : Int32)), (.int (1 : Int32))] (.int (0 : Int32)) := V398
    show Go p e below _ (T398.setTop (mkF m 66 #[.val (.ref a), .val (.int x), .val (.int (Int32.ofNat nd)), .val (.int (Int32.ofNat k)), .unset, .unset, .unset] [(.ref b388)]))
    refine s_astore S398 (hb hby dDK_66) rfl (L' := #[.val (.ref a), .val (.int x), .val (.int (Int32.ofNat nd)), .val (.int (Int32.ofNat k)), .val (.ref b388), .unset, .unset]) rfl (pc' := 68) rfl ?_
    refine s_bipush S398 (hb hby dDK_68) (v := (10 : Int32)) rfl (pc' := 70) rfl ?_
    refine s_iloadN S398 (hb hby dDK_70) rfl (pc' := 71) rfl ?_
    refine s_isub S398 (hb hby dDK_71) (z := (Int32.ofNat (10 - nd))) (o_sub (a := 10) (by omega) (by decide)) (pc' := 72) rfl ?_
    refine s_iloadN S398 (hb hby dDK_72) rfl (pc' := 73) rfl ?_
    refine s_iadd S398 (hb hby dDK_73) (z := (Int32.ofNat (10 - nd + k))) (o_add _ _) (pc' := 74) rfl ?_
    refine s_istore S398 (hb hby dDK_74) (L' := #[.val (.ref a), .val (.int x), .val (.int (Int32.ofNat nd)), .val (.int (Int32.ofNat k)), .val (.ref b388), .val (.int (Int32.ofNat (10 - nd + k))), .unset]) rfl (pc' := 76) rfl ?_
    refine s_iloadN S398 (hb hby dDK_76) rfl (pc' := 77) rfl ?_
    refine s_aload S398 (hb hby dDK_77) rfl rfl (pc' := 79) rfl ?_
    refine s_iload S398 (hb hby dDK_79) rfl (pc' := 81) rfl ?_
    show Go p e below _ (T398.setTop (mkF m 81 #[.val (.ref a), .val (.int x), .val (.int (Int32.ofNat nd)), .val (.int (Int32.ofNat k)), .val (.ref b388), .val (.int (Int32.ofNat (10 - nd + k))), .unset] [(.int (Int32.ofNat (10 - nd + k))), (.ref b388), (.int x)]))
    refine g_iaload S398 V398 ⟨o_nn (by omega), o_lt (b := 10) (by omega) (by omega) (by omega)⟩ (x := (Int32.ofNat (10 ^ (nd - 1 - k)))) (by rw [o_nat (by omega)]; exact pow_at hkn hnd.2.1) (hb hby dDK_81) ?_
    show Go p e below _ (T398.setTop (mkF m 82 #[.val (.ref a), .val (.int x), .val (.int (Int32.ofNat nd)), .val (.int (Int32.ofNat k)), .val (.ref b388), .val (.int (Int32.ofNat (10 - nd + k))), .unset] [(.int (Int32.ofNat (10 ^ (nd - 1 - k)))), (.int x)]))
    refine s_idiv S398 (hb hby dDK_82) (pow_nz (by have := hnd.2.1; omega)) (z := (x / (Int32.ofNat (10 ^ (nd - 1 - k))))) rfl (pc' := 83) rfl ?_
    show Go p e below _ (T398.setTop (mkF m 83 #[.val (.ref a), .val (.int x), .val (.int (Int32.ofNat nd)), .val (.int (Int32.ofNat k)), .val (.ref b388), .val (.int (Int32.ofNat (10 - nd + k))), .unset] [(.int (x / (Int32.ofNat (10 ^ (nd - 1 - k)))))]))
    refine s_bipush S398 (hb hby dDK_83) (v := (10 : Int32)) rfl (pc' := 85) rfl ?_
    refine s_irem S398 (hb hby dDK_85) (by decide) (z := (Int32.ofNat (x.toInt.natAbs / 10 ^ (nd - 1 - k) % 10))) (dig_eq hx (by have := hnd.2.1; omega)) (pc' := 86) rfl ?_
    show Go p e below _ (T398.setTop (mkF m 86 #[.val (.ref a), .val (.int x), .val (.int (Int32.ofNat nd)), .val (.int (Int32.ofNat k)), .val (.ref b388), .val (.int (Int32.ofNat (10 - nd + k))), .unset] [(.int (Int32.ofNat (x.toInt.natAbs / 10 ^ (nd - 1 - k) % 10)))]))
    refine s_istore S398 (hb hby dDK_86) (L' := #[.val (.ref a), .val (.int x), .val (.int (Int32.ofNat nd)), .val (.int (Int32.ofNat k)), .val (.ref b388), .val (.int (Int32.ofNat (10 - nd + k))), .val (.int (Int32.ofNat (x.toInt.natAbs / 10 ^ (nd - 1 - k) % 10)))]) rfl (pc' := 88) rfl ?_
    refine s_aloadN S398 (hb hby dDK_88) rfl rfl (pc' := 89) rfl ?_
    refine s_bipush S398 (hb hby dDK_89) (v := (14 : Int32)) rfl (pc' := 91) rfl ?_
    refine s_iloadN S398 (hb hby dDK_91) rfl (pc' := 92) rfl ?_
    refine s_iadd S398 (hb hby dDK_92) (z := (Int32.ofNat (14 + k))) (o_add 14 k) (pc' := 93) rfl ?_
    have X399 : Ext h h389 := ext_keep1 E388 K389 fr388
    have X400 : Ext h h390 := ext_keep1 X399 K390 fr388
    have X401 : Ext h h391 := ext_keep1 X400 K391 fr388
    have X402 : Ext h h392 := ext_keep1 X401 K392 fr388
    have X403 : Ext h h393 := ext_keep1 X402 K393 fr388
    have X404 : Ext h h394 := ext_keep1 X403 K394 fr388
    have X405 : Ext h h395 := ext_keep1 X404 K395 fr388
    have X406 : Ext h h396 := ext_keep1 X405 K396 fr388
    have X407 : Ext h h397 := ext_keep1 X406 K397 fr388
    have X408 : Ext h h398 := ext_keep1 X407 K398 fr388
    show Go p e below _ (T398.setTop (mkF m 93 #[.val (.ref a), .val (.int x), .val (.int (Int32.ofNat nd)), .val (.int (Int32.ofNat k)), .val (.ref b388), .val (.int (Int32.ofNat (10 - nd + k))), .val (.int (Int32.ofNat (x.toInt.natAbs / 10 ^ (nd - 1 - k) % 10)))] [(.int (Int32.ofNat (14 + k))), (.ref a)]))
    refine g_strChar S398 X (i := (14 + k)) (F.ext X408) hl1 hln rfl (w204 hw) (hb hby dDK_93) (by rw [hml]; rfl) (Nat.le_of_ble_eq_true rfl) (Nat.le_of_ble_eq_true rfl) (Nat.le_of_ble_eq_true rfl) (Nat.le_of_ble_eq_true rfl) ?_
    intro T409 S409
    rw [hdg]
    show Go p e below _ (T409.setTop (mkF m 96 #[.val (.ref a), .val (.int x), .val (.int (Int32.ofNat nd)), .val (.int (Int32.ofNat k)), .val (.ref b388), .val (.int (Int32.ofNat (10 - nd + k))), .val (.int (Int32.ofNat (x.toInt.natAbs / 10 ^ (nd - 1 - k) % 10)))] [(.int (Int32.ofNat (48 + x.toInt.natAbs / 10 ^ (nd - 1 - k) % 10)))]))
    refine s_bipush S409 (hb hby dDK_96) (v := (48 : Int32)) rfl (pc' := 98) rfl ?_
    refine s_iload S409 (hb hby dDK_98) rfl (pc' := 100) rfl ?_
    refine s_iadd S409 (hb hby dDK_100) (z := (Int32.ofNat (48 + x.toInt.natAbs / 10 ^ (nd - 1 - k) % 10))) (o_add 48 _) (pc' := 101) rfl ?_
    refine s_i2c S409 (hb hby dDK_101) (z := (Int32.ofNat (48 + x.toInt.natAbs / 10 ^ (nd - 1 - k) % 10))) (narC (x := (Int32.ofNat (48 + x.toInt.natAbs / 10 ^ (nd - 1 - k) % 10))) ⟨o_nn (by omega), fun q => by rw [Int32.lt_iff_toInt_lt, o_int (by omega)] at q; have e : (65535 : Int32).toInt = 65535 := rfl; omega⟩) (pc' := 102) rfl ?_
    show Go p e below _ (T409.setTop (mkF m 102 #[.val (.ref a), .val (.int x), .val (.int (Int32.ofNat nd)), .val (.int (Int32.ofNat k)), .val (.ref b388), .val (.int (Int32.ofNat (10 - nd + k))), .val (.int (Int32.ofNat (x.toInt.natAbs / 10 ^ (nd - 1 - k) % 10)))] [(.int (Int32.ofNat (48 + x.toInt.natAbs / 10 ^ (nd - 1 - k) % 10))), (.int (Int32.ofNat (48 + x.toInt.natAbs / 10 ^ (nd - 1 - k) % 10)))]))
    refine s_icmpN S409 (hb hby dDK_102) (by simp [if_icmp.holds]) (pc' := 105) rfl ?_
    refine s_iconst S409 (hb hby dDK_105) (v := (1 : Int32)) rfl (pc' := 106) rfl ?_
    refine s_goto S409 (hb hby dDK_106) (by decide) (pcT := 110) (by decide) ?_
    exact g_iretN S409 (hb hby dDK_110) hret (by simp) ⟨rfl, X408⟩
  · have hc2_387 : ¬ (Int32.ofNat k) < (Int32.ofNat nd) := icF_lt q
    show Go p e below _ (T0.setTop (mkF m 5 #[.val (.ref a), .val (.int x), .val (.int (Int32.ofNat nd)), .val (.int (Int32.ofNat k)), .unset, .unset, .unset] []))
    refine s_iconst S0 (hb hby dDK_5) (v := (1 : Int32)) rfl (pc' := 6) rfl ?_
    exact g_iretN S0 (hb hby dDK_6) hret (by simp) ⟨rfl, (ext_refl h)⟩
end Jvm.Pilot.@@N@@

namespace Jvm.Pilot.@@N@@
open Jvm Jvm.ClassFile Sem Op Lib Jvm.Free Jvm.Stand Jvm.LawKit Jvm.RoadKit Jvm.OwnKit Bundle Jvm.Pilot.@@N@@.Jvm.D
set_option maxRecDepth 65536 in
set_option maxHeartbeats 40000000 in
theorem rmL {l : Launch} {Z : State} {a0 : Array Value} {n0 : Nat} (X : Ctx Z a0) (k_ xa xb : Int32) {h : Heap} (hO : Old Z n0 h)  :
    Ctr l Z EL1 n0 x code maxLocals ret room_1 #[(.int k_), (.int xa), (.int xb)] h [] (fun v h' => v = some (.int 1) ∧ True) := by
  have hw := X.hw
  obtain ⟨z1, hz1, hz2⟩ := X.2.2.1
  refine Ctr.intro (a0 := a0) (plainFor_of_name pn7) hO X.ew ?_
  intro p e s m below meth c T0 V0 S0 hby hml hret hnm hsf
  rw [ef20]
  refine s_iloadN S0 (hb hby at_0) rfl (pc' := 1) rfl ?_
  refine g_ldcI S0 (w0 hw) (hb hby at_1) ?_
  show Go p e below _ (T0.setTop (mkF m 3 #[.val (.int k_), .val (.int xa), .val (.int xb), .unset, .unset, .unset, .unset, .unset, .unset, .unset, .unset] [(.int (2147483647 : Int32)), (.int k_)]))
  refine s_iand S0 (hb hby at_3) (z := (k_ &&& (2147483647 : Int32))) rfl (pc' := 4) rfl ?_
  generalize eln410 : (k_ &&& (2147483647 : Int32)) = ln410
  refine s_istoreN S0 (hb hby at_4) (L' := #[.val (.int k_), .val (.int xa), .val (.int xb), .val (.int ln410), .unset, .unset, .unset, .unset, .unset, .unset, .unset]) rfl (pc' := 5) rfl ?_
  have hx : ¬ ln410 < 0 := by rw [← eln410]; exact own_and31 _
  refine s_iloadN S0 (hb hby at_5) rfl (pc' := 6) rfl ?_
  refine g_if S0 (hb hby at_6) (by decide) (pcT := 11) (by decide) (fun q => ?_) (fun q => ?_)
  · have hc6_411 : ¬ ln410 = (0 : Int32) := icT_ne q
    show Go p e below _ (T0.setTop (mkF m 11 #[.val (.int k_), .val (.int xa), .val (.int xb), .val (.int ln410), .unset, .unset, .unset, .unset, .unset, .unset, .unset] []))
    refine s_iloadN S0 (hb hby at_11) rfl (pc' := 12) rfl ?_
    refine s_sipush S0 (hb hby at_12) (v := (255 : Int32)) rfl (pc' := 15) rfl ?_
    refine s_iand S0 (hb hby at_15) (z := (xa &&& (255 : Int32))) rfl (pc' := 16) rfl ?_
    refine s_i2c S0 (hb hby at_16) (z := ((xa &&& (255 : Int32)).toUInt32.toUInt16.toUInt32.toInt32)) rfl (pc' := 17) rfl ?_
    generalize ec412 : ((xa &&& (255 : Int32)).toUInt32.toUInt16.toUInt32.toInt32) = c412
    refine s_istore S0 (hb hby at_17) (L' := #[.val (.int k_), .val (.int xa), .val (.int xb), .val (.int ln410), .val (.int c412), .unset, .unset, .unset, .unset, .unset, .unset]) rfl (pc' := 19) rfl ?_
    have rc412 : ¬ c412 < 0 ∧ ¬ (255 : Int32) < c412 := by rw [← ec412, i2c_mask]; exact and255 _
    refine s_iloadN S0 (hb hby at_19) rfl (pc' := 20) rfl ?_
    refine s_sipush S0 (hb hby at_20) (v := (255 : Int32)) rfl (pc' := 23) rfl ?_
    refine s_iand S0 (hb hby at_23) (z := (xb &&& (255 : Int32))) rfl (pc' := 24) rfl ?_
    refine s_i2c S0 (hb hby at_24) (z := ((xb &&& (255 : Int32)).toUInt32.toUInt16.toUInt32.toInt32)) rfl (pc' := 25) rfl ?_
    generalize ec413 : ((xb &&& (255 : Int32)).toUInt32.toUInt16.toUInt32.toInt32) = c413
    refine s_istore S0 (hb hby at_25) (L' := #[.val (.int k_), .val (.int xa), .val (.int xb), .val (.int ln410), .val (.int c412), .val (.int c413), .unset, .unset, .unset, .unset, .unset]) rfl (pc' := 27) rfl ?_
    have rc413 : ¬ c413 < 0 ∧ ¬ (255 : Int32) < c413 := by rw [← ec413, i2c_mask]; exact and255 _
    refine g_new S0 (w1 hw) (w2 hw) (w3 hw) (hb hby at_27) (Nat.le_of_ble_eq_true rfl) (Nat.le_of_ble_eq_true rfl) ?_
    intro T414 h414 b414 S414 E414 fr414 lt414 na414 sf414 A414 D414
    have F415 : Fld Z h414 b414 "java/lang/String" "coder" "B" (.int (0 : Int32)) := D414 (Or.inr (w28 hw)) (ty := .byte) (by decide)
    have F416 : Fld Z h414 b414 "java/lang/String" "value" "[B" .null := D414 (Or.inr (w30 hw)) (ty := (.array .byte)) (by decide)
    show Go p e below _ (T414.setTop (mkF m 30 #[.val (.int k_), .val (.int xa), .val (.int xb), .val (.int ln410), .val (.int c412), .val (.int c413), .unset, .unset, .unset, .unset, .unset] [(.ref b414)]))
    refine s_dup S414 (hb hby at_30) rfl (pc' := 31) rfl ?_
    refine s_iconst S414 (hb hby at_31) (v := (2 : Int32)) rfl (pc' := 32) rfl ?_
    refine g_newarr (aty := .char) S414 (w4 hw) (hb hby at_32) (by decide) (cap := 2) (by decide) (by decide) (Nat.le_of_ble_eq_true rfl) (Nat.le_of_ble_eq_true rfl) ?_
    intro T417 h417 b417 kc417 S417 E417 fr417 lt417 na417 sf417 A417
    have sf418 := Safe.ext E417 S414.chv sf414
    have V417 : Arv Z h417 b417 kc417 .char (2 : Int32) [(.int (0 : Int32)), (.int (0 : Int32))] (.int (0 : Int32)) := A417 2
    show Go p e below _ (T417.setTop (mkF m 34 #[.val (.int k_), .val (.int xa), .val (.int xb), .val (.int ln410), .val (.int c412), .val (.int c413), .unset, .unset, .unset, .unset, .unset] [(.ref b417), (.ref b414), (.ref b414)]))
    refine s_dup S417 (hb hby at_34) rfl (pc' := 35) rfl ?_
    refine s_iconst S417 (hb hby at_35) (v := (0 : Int32)) rfl (pc' := 36) rfl ?_
    refine s_iload S417 (hb hby at_36) rfl (pc' := 38) rfl ?_
    refine g_castore S417 V417 ⟨by decide, by decide⟩ 0 rfl (Nat.le_of_ble_eq_true rfl) na417 (hb hby at_38) ?_
    intro T419 h419 S419 K419 V419
    have sf420 := Safe.keep K419 (sfS (Safe.arv S417.warm.alike V417 (by decide)) sf0) S417.chv sf418
    rw [narC8 rc412] at V419
    have V419 : Arv Z h419 b417 kc417 .char (2 : Int32) [(.int c412), (.int (0 : Int32))] (.int (0 : Int32)) := V419
    show Go p e below _ (T419.setTop (mkF m 39 #[.val (.int k_), .val (.int xa), .val (.int xb), .val (.int ln410), .val (.int c412), .val (.int c413), .unset, .unset, .unset, .unset, .unset] [(.ref b417), (.ref b414), (.ref b414)]))
    refine s_dup S419 (hb hby at_39) rfl (pc' := 40) rfl ?_
    refine s_iconst S419 (hb hby at_40) (v := (1 : Int32)) rfl (pc' := 41) rfl ?_
    refine s_iload S419 (hb hby at_41) rfl (pc' := 43) rfl ?_
    refine g_castore S419 V419 ⟨by decide, by decide⟩ 1 rfl (Nat.le_of_ble_eq_true rfl) na417 (hb hby at_43) ?_
    intro T421 h421 S421 K421 V421
    have sf422 := Safe.keep K421 (sfS (Safe.arv S419.warm.alike V419 (by decide)) sf0) S419.chv sf420
    rw [narC8 rc413] at V421
    have V421 : Arv Z h421 b417 kc417 .char (2 : Int32) [(.int c412), (.int c413)] (.int (0 : Int32)) := V421
    show Go p e below _ (T421.setTop (mkF m 44 #[.val (.int k_), .val (.int xa), .val (.int xb), .val (.int ln410), .val (.int c412), .val (.int c413), .unset, .unset, .unset, .unset, .unset] [(.ref b417), (.ref b414), (.ref b414)]))
    show Go p e below _ (T421.setTop (mkF m 44 #[.val (.int k_), .val (.int xa), .val (.int xb), .val (.int ln410), .val (.int c412), .val (.int c413), .unset, .unset, .unset, .unset, .unset] [(.ref b417), (.ref b414), (.ref b414)]))
    have X424 : Ext h414 h419 := ext_keep1 E417 K419 fr417
    have X425 : Ext h414 h421 := ext_keep1 X424 K421 fr417
    have A426 := A414.ext X425
    have F427 := F416.ext X425
    have F428 := F415.ext X425
    refine g_newStr S421 X (cs := [c412, c413]) (Nat.le_of_ble_eq_true rfl) (Nat.le_of_ble_eq_true rfl) rfl na414 sf422 A426 F427 F428 V421 (faS rc412 (faS rc413 fa0)) (w5 hw) (hb hby at_44) (by rw [hml]; rfl) (Nat.le_of_ble_eq_true rfl) (Nat.le_of_ble_eq_true rfl) (Nat.le_of_ble_eq_true rfl) (Nat.le_of_ble_eq_true rfl) ?_
    intro T423 h423 S423 K423 F423
    show Go p e below _ (T423.setTop (mkF m 47 #[.val (.int k_), .val (.int xa), .val (.int xb), .val (.int ln410), .val (.int c412), .val (.int c413), .unset, .unset, .unset, .unset, .unset] [(.ref b414)]))
    refine s_astore S423 (hb hby at_47) rfl (L' := #[.val (.int k_), .val (.int xa), .val (.int xb), .val (.int ln410), .val (.int c412), .val (.int c413), .val (.ref b414), .unset, .unset, .unset, .unset]) rfl (pc' := 49) rfl ?_
    refine s_iloadN S423 (hb hby at_49) rfl (pc' := 50) rfl ?_
    show Go p e below _ (T423.setTop (mkF m 50 #[.val (.int k_), .val (.int xa), .val (.int xb), .val (.int ln410), .val (.int c412), .val (.int c413), .val (.ref b414), .unset, .unset, .unset, .unset] [(.int ln410)]))
    refine g_static S423 (rmFA X ln410 S423.old) (fun _ q => nomatch q) (w31 hw) (w32 hw) (w33 hw) (w34 hw) (by decide) (hb hby at_50) (by rw [hml]; rfl) [(.int ln410)] (lenOf pd24 rfl) rfl rfl (Nat.le_of_ble_eq_true rfl) (Nat.le_of_ble_eq_true rfl) (Nat.le_of_ble_eq_true rfl) (Nat.le_of_ble_eq_true rfl) ?_
    intro v429 T429 V429 h429 S429 C429 q429
    obtain ⟨d, ra, rfl, E1, Ed, D1, D2, D3, T1⟩ := q429
    show Go p e below _ (T429.setTop (mkF m 53 #[.val (.int k_), .val (.int xa), .val (.int xb), .val (.int ln410), .val (.int c412), .val (.int c413), .val (.ref b414), .unset, .unset, .unset, .unset] [(.ref d)]))
    refine s_astore S429 (hb hby at_53) rfl (L' := #[.val (.int k_), .val (.int xa), .val (.int xb), .val (.int ln410), .val (.int c412), .val (.int c413), .val (.ref b414), .val (.ref d), .unset, .unset, .unset]) rfl (pc' := 55) rfl ?_
    refine s_aload S429 (hb hby at_55) rfl rfl (pc' := 57) rfl ?_
    show Go p e below _ (T429.setTop (mkF m 57 #[.val (.int k_), .val (.int xa), .val (.int xb), .val (.int ln410), .val (.int c412), .val (.int c413), .val (.ref b414), .val (.ref d), .unset, .unset, .unset] [(.ref d)]))
    refine g_virtual S429 (rmAL X S429.old Ed D1 D2 D3) (fun _ q => nomatch q) (w50 hw) (w51 hw) (w53 hw) (w52 hw) (w33 hw) (w54 hw) (by decide) (fun _ h => notFace_of_selects h) (hb hby at_57) (by rw [hml]; rfl) d Ed [] (lenOf pd11 rfl) rfl rfl (Nat.le_of_ble_eq_true rfl) (Nat.le_of_ble_eq_true rfl) (Nat.le_of_ble_eq_true rfl) (Nat.le_of_ble_eq_true rfl) ?_
    intro v430 T430 V430 h430 S430 C430 q430
    obtain ⟨rfl, rfl⟩ := q430
    show Go p e below _ (T430.setTop (mkF m 60 #[.val (.int k_), .val (.int xa), .val (.int xb), .val (.int ln410), .val (.int c412), .val (.int c413), .val (.ref b414), .val (.ref d), .unset, .unset, .unset] [(.int (1 : Int32))]))
    refine s_ifY S430 (hb hby at_60) (by decide) (by decide) (pcT := 65) (by decide) ?_
    refine s_aload S430 (hb hby at_65) rfl rfl (pc' := 67) rfl ?_
    refine s_aload S430 (hb hby at_67) rfl rfl (pc' := 69) rfl ?_
    have F431 := F423.ext E1
    show Go p e below _ (T430.setTop (mkF m 69 #[.val (.int k_), .val (.int xa), .val (.int xb), .val (.int ln410), .val (.int c412), .val (.int c413), .val (.ref b414), .val (.ref d), .unset, .unset, .unset] [(.ref b414), (.ref d)]))
    refine g_virtual S430 (rmBE X S430.old Ed D1 D2 D3 hc6_411 T1 F431 (faS rc412 (faS rc413 fa0)) (Nat.le_refl 2)) (fun _ q => nomatch q) (w55 hw) (w56 hw) (w58 hw) (w57 hw) (w33 hw) (w59 hw) (by decide) (fun _ h => notFace_of_selects h) (hb hby at_69) (by rw [hml]; rfl) d Ed [(.ref b414)] (lenOf pd25 rfl) rfl rfl (Nat.le_of_ble_eq_true rfl) (Nat.le_of_ble_eq_true rfl) (Nat.le_of_ble_eq_true rfl) (Nat.le_of_ble_eq_true rfl) ?_
    intro v432 T432 V432 h432 S432 C432 q432
    obtain ⟨r, nd, rfl, hnd, Er, Fr⟩ := q432
    replace Fr : StrF Z h432 r ([(97 : Int32), (108 : Int32), (108 : Int32), (111 : Int32), (119 : Int32), (101 : Int32), (100 : Int32), (32 : Int32), (98 : Int32), (121 : Int32), (32 : Int32), c412, c413, (58 : Int32)] ++ decC ln410 nd) := Fr
    have hlen : (([(97 : Int32), (108 : Int32), (108 : Int32), (111 : Int32), (119 : Int32), (101 : Int32), (100 : Int32), (32 : Int32), (98 : Int32), (121 : Int32), (32 : Int32), c412, c413, (58 : Int32)] ++ decC ln410 nd) : List Int32).length = 14 + nd := by rw [List.length_append, decC_len, if_neg hx]; rfl
    have latR : ∀ c ∈ (([(97 : Int32), (108 : Int32), (108 : Int32), (111 : Int32), (119 : Int32), (101 : Int32), (100 : Int32), (32 : Int32), (98 : Int32), (121 : Int32), (32 : Int32), c412, c413, (58 : Int32)] ++ decC ln410 nd) : List Int32), ¬ (255 : Int32) < c := fun c q => (all_app (a := [(97 : Int32), (108 : Int32), (108 : Int32), (111 : Int32), (119 : Int32), (101 : Int32), (100 : Int32), (32 : Int32), (98 : Int32), (121 : Int32), (32 : Int32), c412, c413, (58 : Int32)]) (faS ⟨by decide, by decide⟩ (faS ⟨by decide, by decide⟩ (faS ⟨by decide, by decide⟩ (faS ⟨by decide, by decide⟩ (faS ⟨by decide, by decide⟩ (faS ⟨by decide, by decide⟩ (faS ⟨by decide, by decide⟩ (faS ⟨by decide, by decide⟩ (faS ⟨by decide, by decide⟩ (faS ⟨by decide, by decide⟩ (faS ⟨by decide, by decide⟩ (faS rc412 (faS rc413 (faS ⟨by decide, by decide⟩ fa0)))))))))))))) (decC_lat ln410 nd) c q).2
    have hn10 := hnd.2.1
    show Go p e below _ (T432.setTop (mkF m 72 #[.val (.int k_), .val (.int xa), .val (.int xb), .val (.int ln410), .val (.int c412), .val (.int c413), .val (.ref b414), .val (.ref d), .unset, .unset, .unset] [(.ref r)]))
    refine s_astore S432 (hb hby at_72) rfl (L' := #[.val (.int k_), .val (.int xa), .val (.int xb), .val (.int ln410), .val (.int c412), .val (.int c413), .val (.ref b414), .val (.ref d), .val (.ref r), .unset, .unset]) rfl (pc' := 74) rfl ?_
    refine s_iloadN S432 (hb hby at_74) rfl (pc' := 75) rfl ?_
    show Go p e below _ (T432.setTop (mkF m 75 #[.val (.int k_), .val (.int xa), .val (.int xb), .val (.int ln410), .val (.int c412), .val (.int c413), .val (.ref b414), .val (.ref d), .val (.ref r), .unset, .unset] [(.int ln410)]))
    refine g_static S432 (rmND X S432.old hx) (fun _ q => nomatch q) (w190 hw) (w191 hw) (w192 hw) (w193 hw) (by decide) (hb hby at_75) (by rw [hml]; rfl) [(.int ln410)] (lenOf pd9 rfl) rfl rfl (Nat.le_of_ble_eq_true rfl) (Nat.le_of_ble_eq_true rfl) (Nat.le_of_ble_eq_true rfl) (Nat.le_of_ble_eq_true rfl) ?_
    intro v433 T433 V433 h433 S433 C433 q433
    obtain ⟨n9, hn9, rfl, rfl⟩ := q433
    obtain rfl : nd = n9 := nd_uniq hnd hn9
    show Go p e below _ (T433.setTop (mkF m 78 #[.val (.int k_), .val (.int xa), .val (.int xb), .val (.int ln410), .val (.int c412), .val (.int c413), .val (.ref b414), .val (.ref d), .val (.ref r), .unset, .unset] [(.int (Int32.ofNat nd))]))
    refine s_istore S433 (hb hby at_78) (L' := #[.val (.int k_), .val (.int xa), .val (.int xb), .val (.int ln410), .val (.int c412), .val (.int c413), .val (.ref b414), .val (.ref d), .val (.ref r), .val (.int (Int32.ofNat nd)), .unset]) rfl (pc' := 80) rfl ?_
    refine s_aload S433 (hb hby at_80) rfl rfl (pc' := 82) rfl ?_
    refine s_nullN S433 (hb hby at_82) (pc' := 85) rfl ?_
    refine s_aload S433 (hb hby at_85) rfl rfl (pc' := 87) rfl ?_
    show Go p e below _ (T433.setTop (mkF m 87 #[.val (.int k_), .val (.int xa), .val (.int xb), .val (.int ln410), .val (.int c412), .val (.int c413), .val (.ref b414), .val (.ref d), .val (.ref r), .val (.int (Int32.ofNat nd)), .unset] [(.ref r)]))
    refine g_strLen S433 X Fr (w199 hw) (hb hby at_87) (by rw [hml]; rfl) (Nat.le_of_ble_eq_true rfl) (Nat.le_of_ble_eq_true rfl) (Nat.le_of_ble_eq_true rfl) (Nat.le_of_ble_eq_true rfl) ?_
    intro T434 S434
    show Go p e below _ (T434.setTop (mkF m 90 #[.val (.int k_), .val (.int xa), .val (.int xb), .val (.int ln410), .val (.int c412), .val (.int c413), .val (.ref b414), .val (.ref d), .val (.ref r), .val (.int (Int32.ofNat nd)), .unset] [(.int (Int32.ofNat (([(97 : Int32), (108 : Int32), (108 : Int32), (111 : Int32), (119 : Int32), (101 : Int32), (100 : Int32), (32 : Int32), (98 : Int32), (121 : Int32), (32 : Int32), c412, c413, (58 : Int32)] ++ decC ln410 nd) : List Int32).length))]))
    refine s_bipush S434 (hb hby at_90) (v := (14 : Int32)) rfl (pc' := 92) rfl ?_
    refine s_iload S434 (hb hby at_92) rfl (pc' := 94) rfl ?_
    refine s_iadd S434 (hb hby at_94) (z := (Int32.ofNat (14 + nd))) (o_add 14 nd) (pc' := 95) rfl ?_
    refine s_icmpY S434 (hb hby at_95) ((teq (congrArg Int32.ofNat hlen)).1) (by decide) (pcT := 100) (by decide) ?_
    show Go p e below _ (T434.setTop (mkF m 100 #[.val (.int k_), .val (.int xa), .val (.int xb), .val (.int ln410), .val (.int c412), .val (.int c413), .val (.ref b414), .val (.ref d), .val (.ref r), .val (.int (Int32.ofNat nd)), .unset] []))
    refine g_ldcS S434 (hw _ (List.mem_of_getElem? (i := 200) rfl)) (sAtoms hw) (by decide) (vs := [(.int (97 : Int32)), (.int (108 : Int32)), (.int (108 : Int32)), (.int (111 : Int32)), (.int (119 : Int32)), (.int (101 : Int32)), (.int (100 : Int32)), (.int (32 : Int32)), (.int (98 : Int32)), (.int (121 : Int32)), (.int (32 : Int32))]) (z := (11 : Int32)) ⟨by decide +kernel, by decide +kernel⟩ (by decide) rfl (hb hby at_100) (b := 44) (by decide +kernel) (by decide) (Nat.le_of_ble_eq_true rfl) (Nat.le_of_ble_eq_true rfl) ?_
    intro b435 T435 V435 h435 t435 kt435 S435 E435 C435 f435a f435b f435c f435d f435e
    have F435 : StrF Z h435 b435 [(97 : Int32), (108 : Int32), (108 : Int32), (111 : Int32), (119 : Int32), (101 : Int32), (100 : Int32), (32 : Int32), (98 : Int32), (121 : Int32), (32 : Int32)] := StrF.lit f435a f435b f435c f435d rfl rfl (by decide) (by decide)
    show Go p e below _ (T435.setTop (mkF m 102 #[.val (.int k_), .val (.int xa), .val (.int xb), .val (.int ln410), .val (.int c412), .val (.int c413), .val (.ref b414), .val (.ref d), .val (.ref r), .val (.int (Int32.ofNat nd)), .unset] [(.ref b435)]))
    refine s_astore S435 (hb hby at_102) rfl (L' := #[.val (.int k_), .val (.int xa), .val (.int xb), .val (.int ln410), .val (.int c412), .val (.int c413), .val (.ref b414), .val (.ref d), .val (.ref r), .val (.int (Int32.ofNat nd)), .val (.ref b435)]) rfl (pc' := 104) rfl ?_
    refine s_aload S435 (hb hby at_104) rfl rfl (pc' := 106) rfl ?_
    refine s_aload S435 (hb hby at_106) rfl rfl (pc' := 108) rfl ?_
    refine s_iconst S435 (hb hby at_108) (v := (0 : Int32)) rfl (pc' := 109) rfl ?_
    have Fr436 := Fr.ext E435
    show Go p e below _ (T435.setTop (mkF m 109 #[.val (.int k_), .val (.int xa), .val (.int xb), .val (.int ln410), .val (.int c412), .val (.int c413), .val (.ref b414), .val (.ref d), .val (.ref r), .val (.int (Int32.ofNat nd)), .val (.ref b435)] [(.int (0 : Int32)), (.ref b435), (.ref r)]))
    refine g_static S435 (rmSM X (i := 0) S435.old Fr436 F435 latR (by decide) (by rw [hlen]; omega) (by decide) rfl) (fun _ q => nomatch q) (w201 hw) (w202 hw) (w192 hw) (w203 hw) (by decide) (hb hby at_109) (by rw [hml]; rfl) [(.ref r), (.ref b435), (.int (0 : Int32))] (lenOf pd26 rfl) rfl rfl (Nat.le_of_ble_eq_true rfl) (Nat.le_of_ble_eq_true rfl) (Nat.le_of_ble_eq_true rfl) (Nat.le_of_ble_eq_true rfl) ?_
    intro v437 T437 V437 h437 S437 C437 q437
    obtain ⟨rfl, rfl⟩ := q437
    show Go p e below _ (T437.setTop (mkF m 112 #[.val (.int k_), .val (.int xa), .val (.int xb), .val (.int ln410), .val (.int c412), .val (.int c413), .val (.ref b414), .val (.ref d), .val (.ref r), .val (.int (Int32.ofNat nd)), .val (.ref b435)] [(.int (1 : Int32))]))
    refine s_ifN S437 (hb hby at_112) (by decide) (pc' := 115) rfl ?_
    refine s_aload S437 (hb hby at_115) rfl rfl (pc' := 117) rfl ?_
    refine s_aload S437 (hb hby at_117) rfl rfl (pc' := 119) rfl ?_
    refine s_iconst S437 (hb hby at_119) (v := (1 : Int32)) rfl (pc' := 120) rfl ?_
    show Go p e below _ (T437.setTop (mkF m 120 #[.val (.int k_), .val (.int xa), .val (.int xb), .val (.int ln410), .val (.int c412), .val (.int c413), .val (.ref b414), .val (.ref d), .val (.ref r), .val (.int (Int32.ofNat nd)), .val (.ref b435)] [(.int (1 : Int32)), (.ref b435), (.ref r)]))
    refine g_static S437 (rmSM X (i := 1) S437.old Fr436 F435 latR (by decide) (by rw [hlen]; omega) (by decide) rfl) (fun _ q => nomatch q) (w201 hw) (w202 hw) (w192 hw) (w203 hw) (by decide) (hb hby at_120) (by rw [hml]; rfl) [(.ref r), (.ref b435), (.int (1 : Int32))] (lenOf pd26 rfl) rfl rfl (Nat.le_of_ble_eq_true rfl) (Nat.le_of_ble_eq_true rfl) (Nat.le_of_ble_eq_true rfl) (Nat.le_of_ble_eq_true rfl) ?_
    intro v438 T438 V438 h438 S438 C438 q438
    obtain ⟨rfl, rfl⟩ := q438
    show Go p e below _ (T438.setTop (mkF m 123 #[.val (.int k_), .val (.int xa), .val (.int xb), .val (.int ln410), .val (.int c412), .val (.int c413), .val (.ref b414), .val (.ref d), .val (.ref r), .val (.int (Int32.ofNat nd)), .val (.ref b435)] [(.int (1 : Int32))]))
    refine s_ifN S438 (hb hby at_123) (by decide) (pc' := 126) rfl ?_
    refine s_aload S438 (hb hby at_126) rfl rfl (pc' := 128) rfl ?_
    refine s_aload S438 (hb hby at_128) rfl rfl (pc' := 130) rfl ?_
    refine s_iconst S438 (hb hby at_130) (v := (2 : Int32)) rfl (pc' := 131) rfl ?_
    show Go p e below _ (T438.setTop (mkF m 131 #[.val (.int k_), .val (.int xa), .val (.int xb), .val (.int ln410), .val (.int c412), .val (.int c413), .val (.ref b414), .val (.ref d), .val (.ref r), .val (.int (Int32.ofNat nd)), .val (.ref b435)] [(.int (2 : Int32)), (.ref b435), (.ref r)]))
    refine g_static S438 (rmSM X (i := 2) S438.old Fr436 F435 latR (by decide) (by rw [hlen]; omega) (by decide) rfl) (fun _ q => nomatch q) (w201 hw) (w202 hw) (w192 hw) (w203 hw) (by decide) (hb hby at_131) (by rw [hml]; rfl) [(.ref r), (.ref b435), (.int (2 : Int32))] (lenOf pd26 rfl) rfl rfl (Nat.le_of_ble_eq_true rfl) (Nat.le_of_ble_eq_true rfl) (Nat.le_of_ble_eq_true rfl) (Nat.le_of_ble_eq_true rfl) ?_
    intro v439 T439 V439 h439 S439 C439 q439
    obtain ⟨rfl, rfl⟩ := q439
    show Go p e below _ (T439.setTop (mkF m 134 #[.val (.int k_), .val (.int xa), .val (.int xb), .val (.int ln410), .val (.int c412), .val (.int c413), .val (.ref b414), .val (.ref d), .val (.ref r), .val (.int (Int32.ofNat nd)), .val (.ref b435)] [(.int (1 : Int32))]))
    refine s_ifN S439 (hb hby at_134) (by decide) (pc' := 137) rfl ?_
    refine s_aload S439 (hb hby at_137) rfl rfl (pc' := 139) rfl ?_
    refine s_aload S439 (hb hby at_139) rfl rfl (pc' := 141) rfl ?_
    refine s_iconst S439 (hb hby at_141) (v := (3 : Int32)) rfl (pc' := 142) rfl ?_
    show Go p e below _ (T439.setTop (mkF m 142 #[.val (.int k_), .val (.int xa), .val (.int xb), .val (.int ln410), .val (.int c412), .val (.int c413), .val (.ref b414), .val (.ref d), .val (.ref r), .val (.int (Int32.ofNat nd)), .val (.ref b435)] [(.int (3 : Int32)), (.ref b435), (.ref r)]))
    refine g_static S439 (rmSM X (i := 3) S439.old Fr436 F435 latR (by decide) (by rw [hlen]; omega) (by decide) rfl) (fun _ q => nomatch q) (w201 hw) (w202 hw) (w192 hw) (w203 hw) (by decide) (hb hby at_142) (by rw [hml]; rfl) [(.ref r), (.ref b435), (.int (3 : Int32))] (lenOf pd26 rfl) rfl rfl (Nat.le_of_ble_eq_true rfl) (Nat.le_of_ble_eq_true rfl) (Nat.le_of_ble_eq_true rfl) (Nat.le_of_ble_eq_true rfl) ?_
    intro v440 T440 V440 h440 S440 C440 q440
    obtain ⟨rfl, rfl⟩ := q440
    show Go p e below _ (T440.setTop (mkF m 145 #[.val (.int k_), .val (.int xa), .val (.int xb), .val (.int ln410), .val (.int c412), .val (.int c413), .val (.ref b414), .val (.ref d), .val (.ref r), .val (.int (Int32.ofNat nd)), .val (.ref b435)] [(.int (1 : Int32))]))
    refine s_ifN S440 (hb hby at_145) (by decide) (pc' := 148) rfl ?_
    refine s_aload S440 (hb hby at_148) rfl rfl (pc' := 150) rfl ?_
    refine s_aload S440 (hb hby at_150) rfl rfl (pc' := 152) rfl ?_
    refine s_iconst S440 (hb hby at_152) (v := (4 : Int32)) rfl (pc' := 153) rfl ?_
    show Go p e below _ (T440.setTop (mkF m 153 #[.val (.int k_), .val (.int xa), .val (.int xb), .val (.int ln410), .val (.int c412), .val (.int c413), .val (.ref b414), .val (.ref d), .val (.ref r), .val (.int (Int32.ofNat nd)), .val (.ref b435)] [(.int (4 : Int32)), (.ref b435), (.ref r)]))
    refine g_static S440 (rmSM X (i := 4) S440.old Fr436 F435 latR (by decide) (by rw [hlen]; omega) (by decide) rfl) (fun _ q => nomatch q) (w201 hw) (w202 hw) (w192 hw) (w203 hw) (by decide) (hb hby at_153) (by rw [hml]; rfl) [(.ref r), (.ref b435), (.int (4 : Int32))] (lenOf pd26 rfl) rfl rfl (Nat.le_of_ble_eq_true rfl) (Nat.le_of_ble_eq_true rfl) (Nat.le_of_ble_eq_true rfl) (Nat.le_of_ble_eq_true rfl) ?_
    intro v441 T441 V441 h441 S441 C441 q441
    obtain ⟨rfl, rfl⟩ := q441
    show Go p e below _ (T441.setTop (mkF m 156 #[.val (.int k_), .val (.int xa), .val (.int xb), .val (.int ln410), .val (.int c412), .val (.int c413), .val (.ref b414), .val (.ref d), .val (.ref r), .val (.int (Int32.ofNat nd)), .val (.ref b435)] [(.int (1 : Int32))]))
    refine s_ifN S441 (hb hby at_156) (by decide) (pc' := 159) rfl ?_
    refine s_aload S441 (hb hby at_159) rfl rfl (pc' := 161) rfl ?_
    refine s_aload S441 (hb hby at_161) rfl rfl (pc' := 163) rfl ?_
    refine s_iconst S441 (hb hby at_163) (v := (5 : Int32)) rfl (pc' := 164) rfl ?_
    show Go p e below _ (T441.setTop (mkF m 164 #[.val (.int k_), .val (.int xa), .val (.int xb), .val (.int ln410), .val (.int c412), .val (.int c413), .val (.ref b414), .val (.ref d), .val (.ref r), .val (.int (Int32.ofNat nd)), .val (.ref b435)] [(.int (5 : Int32)), (.ref b435), (.ref r)]))
    refine g_static S441 (rmSM X (i := 5) S441.old Fr436 F435 latR (by decide) (by rw [hlen]; omega) (by decide) rfl) (fun _ q => nomatch q) (w201 hw) (w202 hw) (w192 hw) (w203 hw) (by decide) (hb hby at_164) (by rw [hml]; rfl) [(.ref r), (.ref b435), (.int (5 : Int32))] (lenOf pd26 rfl) rfl rfl (Nat.le_of_ble_eq_true rfl) (Nat.le_of_ble_eq_true rfl) (Nat.le_of_ble_eq_true rfl) (Nat.le_of_ble_eq_true rfl) ?_
    intro v442 T442 V442 h442 S442 C442 q442
    obtain ⟨rfl, rfl⟩ := q442
    show Go p e below _ (T442.setTop (mkF m 167 #[.val (.int k_), .val (.int xa), .val (.int xb), .val (.int ln410), .val (.int c412), .val (.int c413), .val (.ref b414), .val (.ref d), .val (.ref r), .val (.int (Int32.ofNat nd)), .val (.ref b435)] [(.int (1 : Int32))]))
    refine s_ifN S442 (hb hby at_167) (by decide) (pc' := 170) rfl ?_
    refine s_aload S442 (hb hby at_170) rfl rfl (pc' := 172) rfl ?_
    refine s_aload S442 (hb hby at_172) rfl rfl (pc' := 174) rfl ?_
    refine s_bipush S442 (hb hby at_174) (v := (6 : Int32)) rfl (pc' := 176) rfl ?_
    show Go p e below _ (T442.setTop (mkF m 176 #[.val (.int k_), .val (.int xa), .val (.int xb), .val (.int ln410), .val (.int c412), .val (.int c413), .val (.ref b414), .val (.ref d), .val (.ref r), .val (.int (Int32.ofNat nd)), .val (.ref b435)] [(.int (6 : Int32)), (.ref b435), (.ref r)]))
    refine g_static S442 (rmSM X (i := 6) S442.old Fr436 F435 latR (by decide) (by rw [hlen]; omega) (by decide) rfl) (fun _ q => nomatch q) (w201 hw) (w202 hw) (w192 hw) (w203 hw) (by decide) (hb hby at_176) (by rw [hml]; rfl) [(.ref r), (.ref b435), (.int (6 : Int32))] (lenOf pd26 rfl) rfl rfl (Nat.le_of_ble_eq_true rfl) (Nat.le_of_ble_eq_true rfl) (Nat.le_of_ble_eq_true rfl) (Nat.le_of_ble_eq_true rfl) ?_
    intro v443 T443 V443 h443 S443 C443 q443
    obtain ⟨rfl, rfl⟩ := q443
    show Go p e below _ (T443.setTop (mkF m 179 #[.val (.int k_), .val (.int xa), .val (.int xb), .val (.int ln410), .val (.int c412), .val (.int c413), .val (.ref b414), .val (.ref d), .val (.ref r), .val (.int (Int32.ofNat nd)), .val (.ref b435)] [(.int (1 : Int32))]))
    refine s_ifN S443 (hb hby at_179) (by decide) (pc' := 182) rfl ?_
    refine s_aload S443 (hb hby at_182) rfl rfl (pc' := 184) rfl ?_
    refine s_aload S443 (hb hby at_184) rfl rfl (pc' := 186) rfl ?_
    refine s_bipush S443 (hb hby at_186) (v := (7 : Int32)) rfl (pc' := 188) rfl ?_
    show Go p e below _ (T443.setTop (mkF m 188 #[.val (.int k_), .val (.int xa), .val (.int xb), .val (.int ln410), .val (.int c412), .val (.int c413), .val (.ref b414), .val (.ref d), .val (.ref r), .val (.int (Int32.ofNat nd)), .val (.ref b435)] [(.int (7 : Int32)), (.ref b435), (.ref r)]))
    refine g_static S443 (rmSM X (i := 7) S443.old Fr436 F435 latR (by decide) (by rw [hlen]; omega) (by decide) rfl) (fun _ q => nomatch q) (w201 hw) (w202 hw) (w192 hw) (w203 hw) (by decide) (hb hby at_188) (by rw [hml]; rfl) [(.ref r), (.ref b435), (.int (7 : Int32))] (lenOf pd26 rfl) rfl rfl (Nat.le_of_ble_eq_true rfl) (Nat.le_of_ble_eq_true rfl) (Nat.le_of_ble_eq_true rfl) (Nat.le_of_ble_eq_true rfl) ?_
    intro v444 T444 V444 h444 S444 C444 q444
    obtain ⟨rfl, rfl⟩ := q444
    show Go p e below _ (T444.setTop (mkF m 191 #[.val (.int k_), .val (.int xa), .val (.int xb), .val (.int ln410), .val (.int c412), .val (.int c413), .val (.ref b414), .val (.ref d), .val (.ref r), .val (.int (Int32.ofNat nd)), .val (.ref b435)] [(.int (1 : Int32))]))
    refine s_ifN S444 (hb hby at_191) (by decide) (pc' := 194) rfl ?_
    refine s_aload S444 (hb hby at_194) rfl rfl (pc' := 196) rfl ?_
    refine s_aload S444 (hb hby at_196) rfl rfl (pc' := 198) rfl ?_
    refine s_bipush S444 (hb hby at_198) (v := (8 : Int32)) rfl (pc' := 200) rfl ?_
    show Go p e below _ (T444.setTop (mkF m 200 #[.val (.int k_), .val (.int xa), .val (.int xb), .val (.int ln410), .val (.int c412), .val (.int c413), .val (.ref b414), .val (.ref d), .val (.ref r), .val (.int (Int32.ofNat nd)), .val (.ref b435)] [(.int (8 : Int32)), (.ref b435), (.ref r)]))
    refine g_static S444 (rmSM X (i := 8) S444.old Fr436 F435 latR (by decide) (by rw [hlen]; omega) (by decide) rfl) (fun _ q => nomatch q) (w201 hw) (w202 hw) (w192 hw) (w203 hw) (by decide) (hb hby at_200) (by rw [hml]; rfl) [(.ref r), (.ref b435), (.int (8 : Int32))] (lenOf pd26 rfl) rfl rfl (Nat.le_of_ble_eq_true rfl) (Nat.le_of_ble_eq_true rfl) (Nat.le_of_ble_eq_true rfl) (Nat.le_of_ble_eq_true rfl) ?_
    intro v445 T445 V445 h445 S445 C445 q445
    obtain ⟨rfl, rfl⟩ := q445
    show Go p e below _ (T445.setTop (mkF m 203 #[.val (.int k_), .val (.int xa), .val (.int xb), .val (.int ln410), .val (.int c412), .val (.int c413), .val (.ref b414), .val (.ref d), .val (.ref r), .val (.int (Int32.ofNat nd)), .val (.ref b435)] [(.int (1 : Int32))]))
    refine s_ifN S445 (hb hby at_203) (by decide) (pc' := 206) rfl ?_
    refine s_aload S445 (hb hby at_206) rfl rfl (pc' := 208) rfl ?_
    refine s_aload S445 (hb hby at_208) rfl rfl (pc' := 210) rfl ?_
    refine s_bipush S445 (hb hby at_210) (v := (9 : Int32)) rfl (pc' := 212) rfl ?_
    show Go p e below _ (T445.setTop (mkF m 212 #[.val (.int k_), .val (.int xa), .val (.int xb), .val (.int ln410), .val (.int c412), .val (.int c413), .val (.ref b414), .val (.ref d), .val (.ref r), .val (.int (Int32.ofNat nd)), .val (.ref b435)] [(.int (9 : Int32)), (.ref b435), (.ref r)]))
    refine g_static S445 (rmSM X (i := 9) S445.old Fr436 F435 latR (by decide) (by rw [hlen]; omega) (by decide) rfl) (fun _ q => nomatch q) (w201 hw) (w202 hw) (w192 hw) (w203 hw) (by decide) (hb hby at_212) (by rw [hml]; rfl) [(.ref r), (.ref b435), (.int (9 : Int32))] (lenOf pd26 rfl) rfl rfl (Nat.le_of_ble_eq_true rfl) (Nat.le_of_ble_eq_true rfl) (Nat.le_of_ble_eq_true rfl) (Nat.le_of_ble_eq_true rfl) ?_
    intro v446 T446 V446 h446 S446 C446 q446
    obtain ⟨rfl, rfl⟩ := q446
    show Go p e below _ (T446.setTop (mkF m 215 #[.val (.int k_), .val (.int xa), .val (.int xb), .val (.int ln410), .val (.int c412), .val (.int c413), .val (.ref b414), .val (.ref d), .val (.ref r), .val (.int (Int32.ofNat nd)), .val (.ref b435)] [(.int (1 : Int32))]))
    refine s_ifN S446 (hb hby at_215) (by decide) (pc' := 218) rfl ?_
    refine s_aload S446 (hb hby at_218) rfl rfl (pc' := 220) rfl ?_
    refine s_aload S446 (hb hby at_220) rfl rfl (pc' := 222) rfl ?_
    refine s_bipush S446 (hb hby at_222) (v := (10 : Int32)) rfl (pc' := 224) rfl ?_
    show Go p e below _ (T446.setTop (mkF m 224 #[.val (.int k_), .val (.int xa), .val (.int xb), .val (.int ln410), .val (.int c412), .val (.int c413), .val (.ref b414), .val (.ref d), .val (.ref r), .val (.int (Int32.ofNat nd)), .val (.ref b435)] [(.int (10 : Int32)), (.ref b435), (.ref r)]))
    refine g_static S446 (rmSM X (i := 10) S446.old Fr436 F435 latR (by decide) (by rw [hlen]; omega) (by decide) rfl) (fun _ q => nomatch q) (w201 hw) (w202 hw) (w192 hw) (w203 hw) (by decide) (hb hby at_224) (by rw [hml]; rfl) [(.ref r), (.ref b435), (.int (10 : Int32))] (lenOf pd26 rfl) rfl rfl (Nat.le_of_ble_eq_true rfl) (Nat.le_of_ble_eq_true rfl) (Nat.le_of_ble_eq_true rfl) (Nat.le_of_ble_eq_true rfl) ?_
    intro v447 T447 V447 h447 S447 C447 q447
    obtain ⟨rfl, rfl⟩ := q447
    show Go p e below _ (T447.setTop (mkF m 227 #[.val (.int k_), .val (.int xa), .val (.int xb), .val (.int ln410), .val (.int c412), .val (.int c413), .val (.ref b414), .val (.ref d), .val (.ref r), .val (.int (Int32.ofNat nd)), .val (.ref b435)] [(.int (1 : Int32))]))
    refine s_ifN S447 (hb hby at_227) (by decide) (pc' := 230) rfl ?_
    refine s_aload S447 (hb hby at_230) rfl rfl (pc' := 232) rfl ?_
    refine s_bipush S447 (hb hby at_232) (v := (11 : Int32)) rfl (pc' := 234) rfl ?_
    show Go p e below _ (T447.setTop (mkF m 234 #[.val (.int k_), .val (.int xa), .val (.int xb), .val (.int ln410), .val (.int c412), .val (.int c413), .val (.ref b414), .val (.ref d), .val (.ref r), .val (.int (Int32.ofNat nd)), .val (.ref b435)] [(.int (11 : Int32)), (.ref r)]))
    refine g_strChar S447 X (i := 11) Fr436 latR (by rw [hlen]; omega) rfl (w204 hw) (hb hby at_234) (by rw [hml]; rfl) (Nat.le_of_ble_eq_true rfl) (Nat.le_of_ble_eq_true rfl) (Nat.le_of_ble_eq_true rfl) (Nat.le_of_ble_eq_true rfl) ?_
    intro T448 S448
    show Go p e below _ (T448.setTop (mkF m 237 #[.val (.int k_), .val (.int xa), .val (.int xb), .val (.int ln410), .val (.int c412), .val (.int c413), .val (.ref b414), .val (.ref d), .val (.ref r), .val (.int (Int32.ofNat nd)), .val (.ref b435)] [(.int c412)]))
    refine s_iload S448 (hb hby at_237) rfl (pc' := 239) rfl ?_
    refine s_icmpN S448 (hb hby at_239) (by simp [if_icmp.holds]) (pc' := 242) rfl ?_
    refine s_aload S448 (hb hby at_242) rfl rfl (pc' := 244) rfl ?_
    refine s_bipush S448 (hb hby at_244) (v := (12 : Int32)) rfl (pc' := 246) rfl ?_
    show Go p e below _ (T448.setTop (mkF m 246 #[.val (.int k_), .val (.int xa), .val (.int xb), .val (.int ln410), .val (.int c412), .val (.int c413), .val (.ref b414), .val (.ref d), .val (.ref r), .val (.int (Int32.ofNat nd)), .val (.ref b435)] [(.int (12 : Int32)), (.ref r)]))
    refine g_strChar S448 X (i := 12) Fr436 latR (by rw [hlen]; omega) rfl (w204 hw) (hb hby at_246) (by rw [hml]; rfl) (Nat.le_of_ble_eq_true rfl) (Nat.le_of_ble_eq_true rfl) (Nat.le_of_ble_eq_true rfl) (Nat.le_of_ble_eq_true rfl) ?_
    intro T449 S449
    show Go p e below _ (T449.setTop (mkF m 249 #[.val (.int k_), .val (.int xa), .val (.int xb), .val (.int ln410), .val (.int c412), .val (.int c413), .val (.ref b414), .val (.ref d), .val (.ref r), .val (.int (Int32.ofNat nd)), .val (.ref b435)] [(.int c413)]))
    refine s_iload S449 (hb hby at_249) rfl (pc' := 251) rfl ?_
    refine s_icmpN S449 (hb hby at_251) (by simp [if_icmp.holds]) (pc' := 254) rfl ?_
    refine s_aload S449 (hb hby at_254) rfl rfl (pc' := 256) rfl ?_
    refine s_bipush S449 (hb hby at_256) (v := (13 : Int32)) rfl (pc' := 258) rfl ?_
    show Go p e below _ (T449.setTop (mkF m 258 #[.val (.int k_), .val (.int xa), .val (.int xb), .val (.int ln410), .val (.int c412), .val (.int c413), .val (.ref b414), .val (.ref d), .val (.ref r), .val (.int (Int32.ofNat nd)), .val (.ref b435)] [(.int (13 : Int32)), (.ref r)]))
    refine g_strChar S449 X (i := 13) Fr436 latR (by rw [hlen]; omega) rfl (w204 hw) (hb hby at_258) (by rw [hml]; rfl) (Nat.le_of_ble_eq_true rfl) (Nat.le_of_ble_eq_true rfl) (Nat.le_of_ble_eq_true rfl) (Nat.le_of_ble_eq_true rfl) ?_
    intro T450 S450
    show Go p e below _ (T450.setTop (mkF m 261 #[.val (.int k_), .val (.int xa), .val (.int xb), .val (.int ln410), .val (.int c412), .val (.int c413), .val (.ref b414), .val (.ref d), .val (.ref r), .val (.int (Int32.ofNat nd)), .val (.ref b435)] [(.int (58 : Int32))]))
    refine s_bipush S450 (hb hby at_261) (v := (58 : Int32)) rfl (pc' := 263) rfl ?_
    refine s_icmpN S450 (hb hby at_263) (by decide) (pc' := 266) rfl ?_
    refine s_aload S450 (hb hby at_266) rfl rfl (pc' := 268) rfl ?_
    refine s_iloadN S450 (hb hby at_268) rfl (pc' := 269) rfl ?_
    refine s_iload S450 (hb hby at_269) rfl (pc' := 271) rfl ?_
    refine s_iconst S450 (hb hby at_271) (v := (0 : Int32)) rfl (pc' := 272) rfl ?_
    show Go p e below _ (T450.setTop (mkF m 272 #[.val (.int k_), .val (.int xa), .val (.int xb), .val (.int ln410), .val (.int c412), .val (.int c413), .val (.ref b414), .val (.ref d), .val (.ref r), .val (.int (Int32.ofNat nd)), .val (.ref b435)] [(.int (0 : Int32)), (.int (Int32.ofNat nd)), (.int ln410), (.ref r)]))
    refine g_static S450 (rmDK X (k := 0) S450.old Fr436 latR hx hnd (by decide) (fun q => by rw [hlen]; omega) (fun q => by show (decC ln410 nd).getD 0 0 = _; rw [decC_pos hx]; exact dl_get _ _ _ q)) (fun _ q => nomatch q) (w226 hw) (w227 hw) (w192 hw) (w228 hw) (by decide) (hb hby at_272) (by rw [hml]; rfl) [(.ref r), (.int ln410), (.int (Int32.ofNat nd)), (.int (0 : Int32))] (lenOf pd27 rfl) rfl rfl (Nat.le_of_ble_eq_true rfl) (Nat.le_of_ble_eq_true rfl) (Nat.le_of_ble_eq_true rfl) (Nat.le_of_ble_eq_true rfl) ?_
    intro v452 T452 V452 h452 S452 C452 q452
    obtain ⟨rfl, Ek451⟩ := q452
    show Go p e below _ (T452.setTop (mkF m 275 #[.val (.int k_), .val (.int xa), .val (.int xb), .val (.int ln410), .val (.int c412), .val (.int c413), .val (.ref b414), .val (.ref d), .val (.ref r), .val (.int (Int32.ofNat nd)), .val (.ref b435)] [(.int (1 : Int32))]))
    refine s_ifN S452 (hb hby at_275) (by decide) (pc' := 278) rfl ?_
    refine s_aload S452 (hb hby at_278) rfl rfl (pc' := 280) rfl ?_
    refine s_iloadN S452 (hb hby at_280) rfl (pc' := 281) rfl ?_
    refine s_iload S452 (hb hby at_281) rfl (pc' := 283) rfl ?_
    refine s_iconst S452 (hb hby at_283) (v := (1 : Int32)) rfl (pc' := 284) rfl ?_
    have X454 : Ext h433 h452 := ext_trans E435 Ek451
    have Fr455 := Fr.ext X454
    show Go p e below _ (T452.setTop (mkF m 284 #[.val (.int k_), .val (.int xa), .val (.int xb), .val (.int ln410), .val (.int c412), .val (.int c413), .val (.ref b414), .val (.ref d), .val (.ref r), .val (.int (Int32.ofNat nd)), .val (.ref b435)] [(.int (1 : Int32)), (.int (Int32.ofNat nd)), (.int ln410), (.ref r)]))
    refine g_static S452 (rmDK X (k := 1) S452.old Fr455 latR hx hnd (by decide) (fun q => by rw [hlen]; omega) (fun q => by show (decC ln410 nd).getD 1 0 = _; rw [decC_pos hx]; exact dl_get _ _ _ q)) (fun _ q => nomatch q) (w226 hw) (w227 hw) (w192 hw) (w228 hw) (by decide) (hb hby at_284) (by rw [hml]; rfl) [(.ref r), (.int ln410), (.int (Int32.ofNat nd)), (.int (1 : Int32))] (lenOf pd27 rfl) rfl rfl (Nat.le_of_ble_eq_true rfl) (Nat.le_of_ble_eq_true rfl) (Nat.le_of_ble_eq_true rfl) (Nat.le_of_ble_eq_true rfl) ?_
    intro v456 T456 V456 h456 S456 C456 q456
    obtain ⟨rfl, Ek453⟩ := q456
    show Go p e below _ (T456.setTop (mkF m 287 #[.val (.int k_), .val (.int xa), .val (.int xb), .val (.int ln410), .val (.int c412), .val (.int c413), .val (.ref b414), .val (.ref d), .val (.ref r), .val (.int (Int32.ofNat nd)), .val (.ref b435)] [(.int (1 : Int32))]))
    refine s_ifN S456 (hb hby at_287) (by decide) (pc' := 290) rfl ?_
    refine s_aload S456 (hb hby at_290) rfl rfl (pc' := 292) rfl ?_
    refine s_iloadN S456 (hb hby at_292) rfl (pc' := 293) rfl ?_
    refine s_iload S456 (hb hby at_293) rfl (pc' := 295) rfl ?_
    refine s_iconst S456 (hb hby at_295) (v := (2 : Int32)) rfl (pc' := 296) rfl ?_
    have X458 : Ext h433 h456 := ext_trans X454 Ek453
    have Fr459 := Fr.ext X458
    show Go p e below _ (T456.setTop (mkF m 296 #[.val (.int k_), .val (.int xa), .val (.int xb), .val (.int ln410), .val (.int c412), .val (.int c413), .val (.ref b414), .val (.ref d), .val (.ref r), .val (.int (Int32.ofNat nd)), .val (.ref b435)] [(.int (2 : Int32)), (.int (Int32.ofNat nd)), (.int ln410), (.ref r)]))
    refine g_static S456 (rmDK X (k := 2) S456.old Fr459 latR hx hnd (by decide) (fun q => by rw [hlen]; omega) (fun q => by show (decC ln410 nd).getD 2 0 = _; rw [decC_pos hx]; exact dl_get _ _ _ q)) (fun _ q => nomatch q) (w226 hw) (w227 hw) (w192 hw) (w228 hw) (by decide) (hb hby at_296) (by rw [hml]; rfl) [(.ref r), (.int ln410), (.int (Int32.ofNat nd)), (.int (2 : Int32))] (lenOf pd27 rfl) rfl rfl (Nat.le_of_ble_eq_true rfl) (Nat.le_of_ble_eq_true rfl) (Nat.le_of_ble_eq_true rfl) (Nat.le_of_ble_eq_true rfl) ?_
    intro v460 T460 V460 h460 S460 C460 q460
    obtain ⟨rfl, Ek457⟩ := q460
    show Go p e below _ (T460.setTop (mkF m 299 #[.val (.int k_), .val (.int xa), .val (.int xb), .val (.int ln410), .val (.int c412), .val (.int c413), .val (.ref b414), .val (.ref d), .val (.ref r), .val (.int (Int32.ofNat nd)), .val (.ref b435)] [(.int (1 : Int32))]))
    refine s_ifN S460 (hb hby at_299) (by decide) (pc' := 302) rfl ?_
    refine s_aload S460 (hb hby at_302) rfl rfl (pc' := 304) rfl ?_
    refine s_iloadN S460 (hb hby at_304) rfl (pc' := 305) rfl ?_
    refine s_iload S460 (hb hby at_305) rfl (pc' := 307) rfl ?_
    refine s_iconst S460 (hb hby at_307) (v := (3 : Int32)) rfl (pc' := 308) rfl ?_
    have X462 : Ext h433 h460 := ext_trans X458 Ek457
    have Fr463 := Fr.ext X462
    show Go p e below _ (T460.setTop (mkF m 308 #[.val (.int k_), .val (.int xa), .val (.int xb), .val (.int ln410), .val (.int c412), .val (.int c413), .val (.ref b414), .val (.ref d), .val (.ref r), .val (.int (Int32.ofNat nd)), .val (.ref b435)] [(.int (3 : Int32)), (.int (Int32.ofNat nd)), (.int ln410), (.ref r)]))
    refine g_static S460 (rmDK X (k := 3) S460.old Fr463 latR hx hnd (by decide) (fun q => by rw [hlen]; omega) (fun q => by show (decC ln410 nd).getD 3 0 = _; rw [decC_pos hx]; exact dl_get _ _ _ q)) (fun _ q => nomatch q) (w226 hw) (w227 hw) (w192 hw) (w228 hw) (by decide) (hb hby at_308) (by rw [hml]; rfl) [(.ref r), (.int ln410), (.int (Int32.ofNat nd)), (.int (3 : Int32))] (lenOf pd27 rfl) rfl rfl (Nat.le_of_ble_eq_true rfl) (Nat.le_of_ble_eq_true rfl) (Nat.le_of_ble_eq_true rfl) (Nat.le_of_ble_eq_true rfl) ?_
    intro v464 T464 V464 h464 S464 C464 q464
    obtain ⟨rfl, Ek461⟩ := q464
    show Go p e below _ (T464.setTop (mkF m 311 #[.val (.int k_), .val (.int xa), .val (.int xb), .val (.int ln410), .val (.int c412), .val (.int c413), .val (.ref b414), .val (.ref d), .val (.ref r), .val (.int (Int32.ofNat nd)), .val (.ref b435)] [(.int (1 : Int32))]))
    refine s_ifN S464 (hb hby at_311) (by decide) (pc' := 314) rfl ?_
    refine s_aload S464 (hb hby at_314) rfl rfl (pc' := 316) rfl ?_
    refine s_iloadN S464 (hb hby at_316) rfl (pc' := 317) rfl ?_
    refine s_iload S464 (hb hby at_317) rfl (pc' := 319) rfl ?_
    refine s_iconst S464 (hb hby at_319) (v := (4 : Int32)) rfl (pc' := 320) rfl ?_
    have X466 : Ext h433 h464 := ext_trans X462 Ek461
    have Fr467 := Fr.ext X466
    show Go p e below _ (T464.setTop (mkF m 320 #[.val (.int k_), .val (.int xa), .val (.int xb), .val (.int ln410), .val (.int c412), .val (.int c413), .val (.ref b414), .val (.ref d), .val (.ref r), .val (.int (Int32.ofNat nd)), .val (.ref b435)] [(.int (4 : Int32)), (.int (Int32.ofNat nd)), (.int ln410), (.ref r)]))
    refine g_static S464 (rmDK X (k := 4) S464.old Fr467 latR hx hnd (by decide) (fun q => by rw [hlen]; omega) (fun q => by show (decC ln410 nd).getD 4 0 = _; rw [decC_pos hx]; exact dl_get _ _ _ q)) (fun _ q => nomatch q) (w226 hw) (w227 hw) (w192 hw) (w228 hw) (by decide) (hb hby at_320) (by rw [hml]; rfl) [(.ref r), (.int ln410), (.int (Int32.ofNat nd)), (.int (4 : Int32))] (lenOf pd27 rfl) rfl rfl (Nat.le_of_ble_eq_true rfl) (Nat.le_of_ble_eq_true rfl) (Nat.le_of_ble_eq_true rfl) (Nat.le_of_ble_eq_true rfl) ?_
    intro v468 T468 V468 h468 S468 C468 q468
    obtain ⟨rfl, Ek465⟩ := q468
    show Go p e below _ (T468.setTop (mkF m 323 #[.val (.int k_), .val (.int xa), .val (.int xb), .val (.int ln410), .val (.int c412), .val (.int c413), .val (.ref b414), .val (.ref d), .val (.ref r), .val (.int (Int32.ofNat nd)), .val (.ref b435)] [(.int (1 : Int32))]))
    refine s_ifN S468 (hb hby at_323) (by decide) (pc' := 326) rfl ?_
    refine s_aload S468 (hb hby at_326) rfl rfl (pc' := 328) rfl ?_
    refine s_iloadN S468 (hb hby at_328) rfl (pc' := 329) rfl ?_
    refine s_iload S468 (hb hby at_329) rfl (pc' := 331) rfl ?_
    refine s_iconst S468 (hb hby at_331) (v := (5 : Int32)) rfl (pc' := 332) rfl ?_
    have X470 : Ext h433 h468 := ext_trans X466 Ek465
    have Fr471 := Fr.ext X470
    show Go p e below _ (T468.setTop (mkF m 332 #[.val (.int k_), .val (.int xa), .val (.int xb), .val (.int ln410), .val (.int c412), .val (.int c413), .val (.ref b414), .val (.ref d), .val (.ref r), .val (.int (Int32.ofNat nd)), .val (.ref b435)] [(.int (5 : Int32)), (.int (Int32.ofNat nd)), (.int ln410), (.ref r)]))
    refine g_static S468 (rmDK X (k := 5) S468.old Fr471 latR hx hnd (by decide) (fun q => by rw [hlen]; omega) (fun q => by show (decC ln410 nd).getD 5 0 = _; rw [decC_pos hx]; exact dl_get _ _ _ q)) (fun _ q => nomatch q) (w226 hw) (w227 hw) (w192 hw) (w228 hw) (by decide) (hb hby at_332) (by rw [hml]; rfl) [(.ref r), (.int ln410), (.int (Int32.ofNat nd)), (.int (5 : Int32))] (lenOf pd27 rfl) rfl rfl (Nat.le_of_ble_eq_true rfl) (Nat.le_of_ble_eq_true rfl) (Nat.le_of_ble_eq_true rfl) (Nat.le_of_ble_eq_true rfl) ?_
    intro v472 T472 V472 h472 S472 C472 q472
    obtain ⟨rfl, Ek469⟩ := q472
    show Go p e below _ (T472.setTop (mkF m 335 #[.val (.int k_), .val (.int xa), .val (.int xb), .val (.int ln410), .val (.int c412), .val (.int c413), .val (.ref b414), .val (.ref d), .val (.ref r), .val (.int (Int32.ofNat nd)), .val (.ref b435)] [(.int (1 : Int32))]))
    refine s_ifN S472 (hb hby at_335) (by decide) (pc' := 338) rfl ?_
    refine s_aload S472 (hb hby at_338) rfl rfl (pc' := 340) rfl ?_
    refine s_iloadN S472 (hb hby at_340) rfl (pc' := 341) rfl ?_
    refine s_iload S472 (hb hby at_341) rfl (pc' := 343) rfl ?_
    refine s_bipush S472 (hb hby at_343) (v := (6 : Int32)) rfl (pc' := 345) rfl ?_
    have X474 : Ext h433 h472 := ext_trans X470 Ek469
    have Fr475 := Fr.ext X474
    show Go p e below _ (T472.setTop (mkF m 345 #[.val (.int k_), .val (.int xa), .val (.int xb), .val (.int ln410), .val (.int c412), .val (.int c413), .val (.ref b414), .val (.ref d), .val (.ref r), .val (.int (Int32.ofNat nd)), .val (.ref b435)] [(.int (6 : Int32)), (.int (Int32.ofNat nd)), (.int ln410), (.ref r)]))
    refine g_static S472 (rmDK X (k := 6) S472.old Fr475 latR hx hnd (by decide) (fun q => by rw [hlen]; omega) (fun q => by show (decC ln410 nd).getD 6 0 = _; rw [decC_pos hx]; exact dl_get _ _ _ q)) (fun _ q => nomatch q) (w226 hw) (w227 hw) (w192 hw) (w228 hw) (by decide) (hb hby at_345) (by rw [hml]; rfl) [(.ref r), (.int ln410), (.int (Int32.ofNat nd)), (.int (6 : Int32))] (lenOf pd27 rfl) rfl rfl (Nat.le_of_ble_eq_true rfl) (Nat.le_of_ble_eq_true rfl) (Nat.le_of_ble_eq_true rfl) (Nat.le_of_ble_eq_true rfl) ?_
    intro v476 T476 V476 h476 S476 C476 q476
    obtain ⟨rfl, Ek473⟩ := q476
    show Go p e below _ (T476.setTop (mkF m 348 #[.val (.int k_), .val (.int xa), .val (.int xb), .val (.int ln410), .val (.int c412), .val (.int c413), .val (.ref b414), .val (.ref d), .val (.ref r), .val (.int (Int32.ofNat nd)), .val (.ref b435)] [(.int (1 : Int32))]))
    refine s_ifN S476 (hb hby at_348) (by decide) (pc' := 351) rfl ?_
    refine s_aload S476 (hb hby at_351) rfl rfl (pc' := 353) rfl ?_
    refine s_iloadN S476 (hb hby at_353) rfl (pc' := 354) rfl ?_
    refine s_iload S476 (hb hby at_354) rfl (pc' := 356) rfl ?_
    refine s_bipush S476 (hb hby at_356) (v := (7 : Int32)) rfl (pc' := 358) rfl ?_
    have X478 : Ext h433 h476 := ext_trans X474 Ek473
    have Fr479 := Fr.ext X478
    show Go p e below _ (T476.setTop (mkF m 358 #[.val (.int k_), .val (.int xa), .val (.int xb), .val (.int ln410), .val (.int c412), .val (.int c413), .val (.ref b414), .val (.ref d), .val (.ref r), .val (.int (Int32.ofNat nd)), .val (.ref b435)] [(.int (7 : Int32)), (.int (Int32.ofNat nd)), (.int ln410), (.ref r)]))
    refine g_static S476 (rmDK X (k := 7) S476.old Fr479 latR hx hnd (by decide) (fun q => by rw [hlen]; omega) (fun q => by show (decC ln410 nd).getD 7 0 = _; rw [decC_pos hx]; exact dl_get _ _ _ q)) (fun _ q => nomatch q) (w226 hw) (w227 hw) (w192 hw) (w228 hw) (by decide) (hb hby at_358) (by rw [hml]; rfl) [(.ref r), (.int ln410), (.int (Int32.ofNat nd)), (.int (7 : Int32))] (lenOf pd27 rfl) rfl rfl (Nat.le_of_ble_eq_true rfl) (Nat.le_of_ble_eq_true rfl) (Nat.le_of_ble_eq_true rfl) (Nat.le_of_ble_eq_true rfl) ?_
    intro v480 T480 V480 h480 S480 C480 q480
    obtain ⟨rfl, Ek477⟩ := q480
    show Go p e below _ (T480.setTop (mkF m 361 #[.val (.int k_), .val (.int xa), .val (.int xb), .val (.int ln410), .val (.int c412), .val (.int c413), .val (.ref b414), .val (.ref d), .val (.ref r), .val (.int (Int32.ofNat nd)), .val (.ref b435)] [(.int (1 : Int32))]))
    refine s_ifN S480 (hb hby at_361) (by decide) (pc' := 364) rfl ?_
    refine s_aload S480 (hb hby at_364) rfl rfl (pc' := 366) rfl ?_
    refine s_iloadN S480 (hb hby at_366) rfl (pc' := 367) rfl ?_
    refine s_iload S480 (hb hby at_367) rfl (pc' := 369) rfl ?_
    refine s_bipush S480 (hb hby at_369) (v := (8 : Int32)) rfl (pc' := 371) rfl ?_
    have X482 : Ext h433 h480 := ext_trans X478 Ek477
    have Fr483 := Fr.ext X482
    show Go p e below _ (T480.setTop (mkF m 371 #[.val (.int k_), .val (.int xa), .val (.int xb), .val (.int ln410), .val (.int c412), .val (.int c413), .val (.ref b414), .val (.ref d), .val (.ref r), .val (.int (Int32.ofNat nd)), .val (.ref b435)] [(.int (8 : Int32)), (.int (Int32.ofNat nd)), (.int ln410), (.ref r)]))
    refine g_static S480 (rmDK X (k := 8) S480.old Fr483 latR hx hnd (by decide) (fun q => by rw [hlen]; omega) (fun q => by show (decC ln410 nd).getD 8 0 = _; rw [decC_pos hx]; exact dl_get _ _ _ q)) (fun _ q => nomatch q) (w226 hw) (w227 hw) (w192 hw) (w228 hw) (by decide) (hb hby at_371) (by rw [hml]; rfl) [(.ref r), (.int ln410), (.int (Int32.ofNat nd)), (.int (8 : Int32))] (lenOf pd27 rfl) rfl rfl (Nat.le_of_ble_eq_true rfl) (Nat.le_of_ble_eq_true rfl) (Nat.le_of_ble_eq_true rfl) (Nat.le_of_ble_eq_true rfl) ?_
    intro v484 T484 V484 h484 S484 C484 q484
    obtain ⟨rfl, Ek481⟩ := q484
    show Go p e below _ (T484.setTop (mkF m 374 #[.val (.int k_), .val (.int xa), .val (.int xb), .val (.int ln410), .val (.int c412), .val (.int c413), .val (.ref b414), .val (.ref d), .val (.ref r), .val (.int (Int32.ofNat nd)), .val (.ref b435)] [(.int (1 : Int32))]))
    refine s_ifN S484 (hb hby at_374) (by decide) (pc' := 377) rfl ?_
    refine s_aload S484 (hb hby at_377) rfl rfl (pc' := 379) rfl ?_
    refine s_iloadN S484 (hb hby at_379) rfl (pc' := 380) rfl ?_
    refine s_iload S484 (hb hby at_380) rfl (pc' := 382) rfl ?_
    refine s_bipush S484 (hb hby at_382) (v := (9 : Int32)) rfl (pc' := 384) rfl ?_
    have X486 : Ext h433 h484 := ext_trans X482 Ek481
    have Fr487 := Fr.ext X486
    show Go p e below _ (T484.setTop (mkF m 384 #[.val (.int k_), .val (.int xa), .val (.int xb), .val (.int ln410), .val (.int c412), .val (.int c413), .val (.ref b414), .val (.ref d), .val (.ref r), .val (.int (Int32.ofNat nd)), .val (.ref b435)] [(.int (9 : Int32)), (.int (Int32.ofNat nd)), (.int ln410), (.ref r)]))
    refine g_static S484 (rmDK X (k := 9) S484.old Fr487 latR hx hnd (by decide) (fun q => by rw [hlen]; omega) (fun q => by show (decC ln410 nd).getD 9 0 = _; rw [decC_pos hx]; exact dl_get _ _ _ q)) (fun _ q => nomatch q) (w226 hw) (w227 hw) (w192 hw) (w228 hw) (by decide) (hb hby at_384) (by rw [hml]; rfl) [(.ref r), (.int ln410), (.int (Int32.ofNat nd)), (.int (9 : Int32))] (lenOf pd27 rfl) rfl rfl (Nat.le_of_ble_eq_true rfl) (Nat.le_of_ble_eq_true rfl) (Nat.le_of_ble_eq_true rfl) (Nat.le_of_ble_eq_true rfl) ?_
    intro v488 T488 V488 h488 S488 C488 q488
    obtain ⟨rfl, Ek485⟩ := q488
    show Go p e below _ (T488.setTop (mkF m 387 #[.val (.int k_), .val (.int xa), .val (.int xb), .val (.int ln410), .val (.int c412), .val (.int c413), .val (.ref b414), .val (.ref d), .val (.ref r), .val (.int (Int32.ofNat nd)), .val (.ref b435)] [(.int (1 : Int32))]))
    refine s_ifN S488 (hb hby at_387) (by decide) (pc' := 390) rfl ?_
    refine s_iconst S488 (hb hby at_390) (v := (1 : Int32)) rfl (pc' := 391) rfl ?_
    refine s_goto S488 (hb hby at_391) (by decide) (pcT := 395) (by decide) ?_
    exact g_iretN S488 (hb hby at_395) hret (by simp) ⟨rfl, trivial⟩
  · have hc6_411 : ln410 = (0 : Int32) := icF_ne q
    show Go p e below _ (T0.setTop (mkF m 9 #[.val (.int k_), .val (.int xa), .val (.int xb), .val (.int ln410), .unset, .unset, .unset, .unset, .unset, .unset, .unset] []))
    refine s_iconst S0 (hb hby at_9) (v := (1 : Int32)) rfl (pc' := 10) rfl ?_
    exact g_iretN S0 (hb hby at_10) hret (by simp) ⟨rfl, trivial⟩
theorem tbl_start {Z : State} {args : Array Value} {C n d : String} {F : Term} {val : Nat → Int32} {vs : List Value}
    (hcl : (Cond.arrayClass FieldType.byte).before args Z = true)
    (hex : (Cond.exactly (Term.static C n d) "[B").value args Z none Z [] = some true)
    (hl : (Cond.eq (Term.length (Term.static C n d)) (Term.int (100 : Int32))).value args Z none Z [] = some true)
    (ha : (Cond.all (Term.static C n d) (Cond.eq (Term.elem (Term.static C n d) (Term.index (0 : Nat))) F)).value args Z none Z [] = some true)
    (hF : ∀ j : Nat, j < 100 → F.eval args Z none [j] Z = some (.int (val j)))
    (hv : ∀ j : Nat, j < 100 → vs.getD j (.int (0 : Int32)) = .int (val j) ∧ fits .byte (.int (val j)) = true) :
    ∃ (a : Addr) (k : ClassId), (Term.static C n d).eval args Z none [] Z = some (.ref a) ∧ Arv Z Z.heap a k .byte (100 : Int32) vs (.int (0 : Int32)) := by
  obtain ⟨a, ea⟩ := exa_v hex
  obtain ⟨cell, k, hc, hfc, hk, hst, -⟩ := exa_at ea hex
  obtain ⟨b, cl, eb, hb, hlt, hsz⟩ := length_spec (eqv_i (Term.int_eval (100)) hl)
  cases ea.symm.trans eb
  obtain ⟨hcc, -⟩ := arrayAt_spec hb
  cases hc.symm.trans hcc
  obtain ⟨c1, k1, comp, f1, f2, f3⟩ := Cond.arrayClass_spec hcl
  have hname : "[" ++ FieldType.toString FieldType.byte = "[B" := by decide
  rw [hname] at f1
  cases f1.symm.trans hfc
  have hs : cell.slots.size = 100 := by
    have h1 : cell.slots.size.toInt32 = (100 : Int32) := by injection hsz with h; exact h.symm
    have h2 := congrArg Int32.toInt h1
    rw [len_toInt hlt] at h2
    exact Int.ofNat.inj h2
  refine ⟨a, cell.cls, ea, cell, ⟨hc, ⟨fun i q => (by rw [q] at hst; cases hst), k1, f2, comp, f3⟩, arrayAt_known hb⟩, rfl, by rw [hs]; rfl, by decide, ?_, ?_⟩
  · intro i hi
    have hi' : i < 100 := hs ▸ hi
    have h1 := Cond.all_elim ea hb ha i hi
    have h2 := eqv_i (hF i hi') h1
    have e1 : (Nat.toInt32 i).toNatClampNeg = i := by simp only [Int32.toNatClampNeg, len_toInt (show i < 2 ^ 31 by omega)]; rfl
    have hnn : ¬ (Nat.toInt32 i) < 0 := by
      rw [Int32.lt_iff_toInt_lt, len_toInt (show i < 2 ^ 31 by omega)]; simp
    rw [elem_f (t := Term.static C n d) (idx := [i]) (x := a) (j := Nat.toInt32 i) (cl := cell) ea (Term.index_eval _) hb hnn, e1] at h2
    rw [h2, (hv i hi').1]
  · intro i hi
    have hi' : i < 100 := hs ▸ hi
    rw [(hv i hi').1]; exact (hv i hi').2
theorem int_ev {args : Array Value} {Z : State} {idx : List Nat} {x : Int32} : (Term.int x).eval args Z none idx Z = some (.int x) := rfl
theorem ad_f {args : Array Value} {Z : State} {idx : List Nat} {a b : Term} {x y : Int32} (ha : a.eval args Z none idx Z = some (.int x)) (hb : b.eval args Z none idx Z = some (.int y)) : (Term.add a b).eval args Z none idx Z = some (.int (x + y)) := by simp [Term.eval, ha, hb]
theorem ones_F {args : Array Value} {Z : State} (j : Nat) (h : j < 100) : (Term.add (Term.int (48 : Int32)) (Term.rem (Term.index (0 : Nat)) (Term.int (10 : Int32)))).eval args Z none [j] Z = some (.int ((48 : Int32) + (Nat.toInt32 j) % (10 : Int32))) := by
  exact ad_f int_ev (rem_f (Term.index_eval _) int_ev (by decide))
theorem tens_F {args : Array Value} {Z : State} (j : Nat) (h : j < 100) : (Term.add (Term.int (48 : Int32)) (Term.div (Term.index (0 : Nat)) (Term.int (10 : Int32)))).eval args Z none [j] Z = some (.int ((48 : Int32) + (Nat.toInt32 j) / (10 : Int32))) := by
  exact ad_f int_ev (div_f (Term.index_eval _) int_ev (by decide))
theorem ones_v : ∀ j : Nat, j < 100 → dOnes.getD j (.int (0 : Int32)) = .int ((48 : Int32) + (Nat.toInt32 j) % (10 : Int32)) ∧ fits .byte (.int ((48 : Int32) + (Nat.toInt32 j) % (10 : Int32))) = true := by decide +kernel
theorem tens_v : ∀ j : Nat, j < 100 → dTens.getD j (.int (0 : Int32)) = .int ((48 : Int32) + (Nat.toInt32 j) / (10 : Int32)) ∧ fits .byte (.int ((48 : Int32) + (Nat.toInt32 j) / (10 : Int32))) = true := by decide +kernel
set_option maxRecDepth 65536 in
set_option maxHeartbeats 40000000 in
theorem comes_1 {Post : Tables → Env → Array Value → State → Outcome → State → Prop} (hpost : ∀ tb e args s v u, (limb_1_1.after args s (.returned v) u = true ∧ limb_1_2.after args s (.returned v) u = true) → FramedW s (.returned v) u (Jvm.fieldLocs frame_1_writes args s ++ Jvm.arrayLocs frame_1_arrays args s ++ Jvm.staticLocs frame_1_statics s) 56 4608 → Post tb e args s (.returned v) u) :
    ArmFor flags0 classFile x code maxLocals ret World_1 tables_1 room_1 Calls_1 rest_1 Pre_1 Post := by
  intro l hfl _ _ p e ha hc hk s m args below hf hA hF happ hP
  obtain ⟨hcalls, hrest, hpre⟩ := hP
  obtain ⟨-, -, -, hnamed, -, -, -, hat⟩ := (Spec.applies_iff hf).mp happ
  obtain ⟨hg, hn⟩ := and_e (Cond.before_iff.mp (show (Jvm.Cond.and given_1 narrow_1).before args s = true from hpre))
  obtain ⟨hcount, hgiven⟩ := and_e hg
  obtain ⟨hg0, hr0⟩ := and_e hgiven
  obtain ⟨hg1, hr1⟩ := and_e hr0
  obtain ⟨wa, wb, wc, rfl⟩ : ∃ wa wb wc : Value, args = #[wa, wb, wc] := by
    have hs : args.size = 3 := by simpa [Cond.value, given_1] using hcount
    obtain ⟨L⟩ := args
    match L, hs with
    | [wa, wb, wc], _ => exact ⟨wa, wb, wc, rfl⟩
  have hw : HW _ s := fun d (hd : d ∈ tables_1) => atoms_spec (ws := Jvm.Cond.code x code maxLocals ret :: tables_1) hat d (List.mem_cons_of_mem _ hd)
  obtain ⟨hsets, hown0⟩ := atoms_of _ (rest_1_c_eq ▸ (show rest_1_c.before _ s = true from hrest))
  obtain ⟨i0, ei0⟩ := is_v hg0
  obtain rfl : wa = (.int i0) := Option.some.inj ei0
  obtain ⟨i1, ei1⟩ := is_v hg1
  obtain rfl : wb = (.int i1) := Option.some.inj ei1
  obtain ⟨i2, ei2⟩ := is_v hr1
  obtain rfl : wc = (.int i2) := Option.some.inj ei2
  obtain ⟨z1, ez1⟩ := is_v (Cond.before_iff.mp (hsets _ (List.mem_of_getElem? (i := 1) rfl)))
  have Sz1 : Sta s s.heap "java/lang/String" "COMPACT_STRINGS" "Z" (.int z1) := Sta.start ez1 (Or.inl (hsets _ (List.mem_of_getElem? (i := 0) rfl)))
  obtain ⟨v2, ev2, rv2⟩ := isR_v (Cond.before_iff.mp (hsets _ (List.mem_of_getElem? (i := 8) rfl)))
  have Sv2 : Sta s s.heap "jdk/internal/util/Preconditions" "SIOOBE_FORMATTER" "Ljava/util/function/BiFunction;" v2 := Sta.start ev2 (Or.inl (hsets _ (List.mem_of_getElem? (i := 7) rfl)))
  have cz1 : ¬ (z1 = (0 : Int32)) := gotF (Cond.eq_ints ez1 (Term.int_eval (0))) (not_v (Cond.before_iff.mp (hsets _ (List.mem_of_getElem? (i := 2) rfl))))
  have hEW : EW s _ EL1 := (EW.cons (hw _ (List.mem_of_getElem? (i := 37) rfl)) (by decide +kernel) (EW.cons (hw _ (List.mem_of_getElem? (i := 125) rfl)) (by decide +kernel) (EW.cons (hw _ (List.mem_of_getElem? (i := 126) rfl)) (by decide +kernel) (EW.cons (hw _ (List.mem_of_getElem? (i := 200) rfl)) (by decide +kernel) EW.nil))))
  have hCH : CHv s EL1 s.vm s.heap := CHv.start hEW (fun q hq => hcalls.1 q ((by decide : ∀ q ∈ EL1, q ∈ consts_1) q hq)) (hsets _ (List.mem_of_getElem? (i := 2) rfl)) (w20 hw) (w2 hw)
  obtain ⟨aO, kO, eO, VO⟩ := tbl_start (w20 hw) (Cond.before_iff.mp (hsets _ (List.mem_of_getElem? (i := 12) rfl))) (Cond.before_iff.mp (hsets _ (List.mem_of_getElem? (i := 13) rfl))) (Cond.before_iff.mp (hsets _ (List.mem_of_getElem? (i := 14) rfl))) ones_F ones_v
  have SO : Sta s s.heap "java/lang/Integer" "DigitOnes" "[B" (.ref aO) := Sta.start eO (Or.inl (hsets _ (List.mem_of_getElem? (i := 11) rfl)))
  obtain ⟨aT, kT, eT, VT⟩ := tbl_start (w20 hw) (Cond.before_iff.mp (hsets _ (List.mem_of_getElem? (i := 17) rfl))) (Cond.before_iff.mp (hsets _ (List.mem_of_getElem? (i := 18) rfl))) (Cond.before_iff.mp (hsets _ (List.mem_of_getElem? (i := 19) rfl))) tens_F tens_v
  have ST : Sta s s.heap "java/lang/Integer" "DigitTens" "[B" (.ref aT) := Sta.start eT (Or.inl (hsets _ (List.mem_of_getElem? (i := 16) rfl)))
  have X : Ctx s _ := ⟨hw, hEW, ⟨z1, Sz1, cz1⟩, ⟨v2, Sv2, rv2⟩, ⟨aO, kO, SO, VO⟩, aT, kT, ST, VT⟩
  obtain ⟨n, o, h1, h2, h3, v, L, rfl, ⟨⟨rfl, -⟩, N, -⟩, -, hq⟩ := rmL (l := l) X i0 i1 i2 (Old.start s) tables_1 p e ha hc hk s m _ below hf ((Spec.applies_iff_loose hf).mp happ).1 ⟨rfl, State.Warmed39.refl s, rfl, hCH, fun _ q => nomatch q⟩ trivial
  refine ⟨n, _, h1, h2, h3, hpost _ _ _ _ _ _ ⟨Cond.after_iff.mpr rfl, Cond.after_iff.mpr (eq_i res_at (Term.int_eval (1)) rfl)⟩ ⟨hq.1, hq.2.1, hq.2.2.1, (hq.2.2.2.sift fun y hy => Or.inr (N y hy)).mono (by decide) (by decide)⟩⟩
theorem main_1_1 : Claimed_1_1 := comes_1 fun _ _ _ _ _ _ h hF => ⟨h.1, hF⟩
theorem main_1_2 : Claimed_1_2 := comes_1 fun _ _ _ _ _ _ h hF => ⟨h.2, hF⟩
end Jvm.Pilot.@@N@@
namespace Jvm.Pilot.@@N@@
open Jvm Jvm.ClassFile Sem Op Lib Jvm.Free Jvm.Stand Jvm.Pilot.@@N@@.Jvm.D
/-! MADE BY PROGRAM (witnessworld.py) out of the Statement's table words and the real class files: 28 classes; the members and pool entries that the words name. The judged class is class 1, her method 1. -/
namespace start1
open Jvm.ClassFile
def u (s : String) : CpInfo := .utf8 (stringToUtf16 s)
/-- a pool by its gaps: so many unusable entries, then the entry; so many at the end -/
def gap : Nat → List CpInfo → List CpInfo
  | 0, r => r
  | n + 1, r => .unusable :: gap n r
def poolList (es : List (Nat × CpInfo)) (last : Nat) : List CpInfo := es.foldr (fun e r => gap e.1 (e.2 :: r)) (gap last [])
def pool (es : List (Nat × CpInfo)) (last : Nat) : Array CpInfo := ⟨poolList es last⟩
def fileOf (pool : Array CpInfo) (this : Nat) (attrs : Array Attribute := #[]) (ms : Array MethodInfo := #[]) (fl : Nat := 33) (sup : Nat := 0) (ifs : Array Nat := #[]) (fds : Array FieldInfo := #[]) : ClassFile where
  minorVersion := 0
  majorVersion := 65
  constantPool := pool
  accessFlags := fl
  thisClass := this
  superClass := sup
  interfaces := ifs
  fields := fds
  methods := ms
  attributes := attrs
def plain (name : String) (sup : Option ClassId) : Class where
  name := name
  kind := .ordinary
  loader := none
  accessFlags := 33
  super := sup
  interfaces := #[]
  cf := none
  fields := #[]
  methods := #[]
  instanceTypes := #[]
  staticTypes := #[]
  resolved := #[]
  callSites := []
  init := .initialized
  statics := none
  mirror := none

def pool0 : Array CpInfo := pool [(5, u "<init>"), (0, u "()V"), (1, .class_ 10), (1, u "java/lang/Object"), (85, u "clone"), (0, u "()Ljava/lang/Object;")] 26

def k0c0 : Code := { maxStack := 0, maxLocals := 1, code := object_method_1_code, exceptionTable := #[], attributes := #[] }
def k0m0 : Method := { name := "<init>", desc := "()V", sig := { parameters := [], returnType := none }, accessFlags := 1, code := some k0c0 }
def k0m1 : Method := { name := "clone", desc := "()Ljava/lang/Object;", sig := { parameters := [], returnType := some (.object "java/lang/Object") }, accessFlags := 260, code := none }
/-- java/lang/Object -/
def k0 : Class := { plain "java/lang/Object" none with
  accessFlags := 33
  interfaces := #[]
  cf := some (fileOf pool0 8 #[] #[{ accessFlags := 1, nameIndex := 5, descriptorIndex := 6, attributes := #[] }, { accessFlags := 260, nameIndex := 96, descriptorIndex := 97, attributes := #[] }] 33 0 #[] #[])
  fields := #[]
  methods := #[k0m0, k0m1]
  instanceTypes := #[]
  staticTypes := #[]
  resolved := Array.replicate 124 none
  statics := none }

def pool1 : Array CpInfo := pool [(2, .class_ 4), (1, u "java/lang/Object"), (0, u "<init>"), (0, u "()V"), (0, .integer 2147483647), (0, .class_ 9), (0, u "java/lang/String"), (0, .methodref 8 11), (0, .nameAndType 5 12), (0, u "([C)V"), (0, .methodref 14 15), (0, .class_ 16), (0, .nameAndType 17 18), (0, u "com/example/wachter/wachter/policy/Decision"), (0, u "allowedBy"), (0, u "(I)Lcom/example/wachter/wachter/policy/Decision;"), (0, .methodref 14 20), (0, .nameAndType 21 22), (0, u "allowed"), (0, u "()Z"), (0, .methodref 14 24), (0, .nameAndType 25 26), (0, u "because"), (0, u "(Ljava/lang/String;)Ljava/lang/String;"), (0, .methodref 28 29), (0, .class_ 30), (0, .nameAndType 31 32), (0, u "com/example/wachter/wachter/policy/DecisionAllowedByPinLaw"), (0, u "numDigits"), (0, u "(I)I"), (0, .methodref 8 34), (0, .nameAndType 35 36), (0, u "length"), (0, u "()I"), (0, .string 38), (0, u "allowed by "), (0, .methodref 28 40), (0, .nameAndType 41 42), (0, u "same"), (0, u "(Ljava/lang/String;Ljava/lang/String;I)Z"), (0, .methodref 8 44), (0, .nameAndType 45 46), (0, u "charAt"), (0, u "(I)C"), (0, .methodref 28 48), (0, .nameAndType 49 50), (0, u "digitOk"), (0, u "(Ljava/lang/String;III)Z"), (0, .integer 1000000000), (0, .integer 100000000), (0, .integer 10000000), (0, .integer 1000000), (0, .integer 100000), (2, u "law"), (0, u "(III)Z")] 5

def k1m0 : Method := { name := "<init>", desc := "()V", sig := { parameters := [], returnType := none }, accessFlags := 1, code := none }
def k1c1 : Code := { maxStack := 6, maxLocals := 11, code := code, exceptionTable := #[], attributes := #[] }
def k1m1 : Method := { name := "law", desc := "(III)Z", sig := { parameters := [.int, .int, .int], returnType := some .boolean }, accessFlags := 9, code := some k1c1 }
def k1c2 : Code := { maxStack := 3, maxLocals := 3, code := method_3_code, exceptionTable := #[], attributes := #[] }
def k1m2 : Method := { name := "same", desc := "(Ljava/lang/String;Ljava/lang/String;I)Z", sig := { parameters := [(.object "java/lang/String"), (.object "java/lang/String"), .int], returnType := some .boolean }, accessFlags := 10, code := some k1c2 }
def k1c3 : Code := { maxStack := 2, maxLocals := 1, code := method_4_code, exceptionTable := #[], attributes := #[] }
def k1m3 : Method := { name := "numDigits", desc := "(I)I", sig := { parameters := [.int], returnType := some .int }, accessFlags := 10, code := some k1c3 }
def k1c4 : Code := { maxStack := 4, maxLocals := 7, code := method_5_code, exceptionTable := #[], attributes := #[] }
def k1m4 : Method := { name := "digitOk", desc := "(Ljava/lang/String;III)Z", sig := { parameters := [(.object "java/lang/String"), .int, .int, .int], returnType := some .boolean }, accessFlags := 10, code := some k1c4 }
/-- com/example/wachter/wachter/policy/DecisionAllowedByPinLaw -/
def k1 : Class := { plain "com/example/wachter/wachter/policy/DecisionAllowedByPinLaw" (some 0) with
  accessFlags := 49
  interfaces := #[]
  cf := some (fileOf pool1 28 #[] #[{ accessFlags := 1, nameIndex := 5, descriptorIndex := 6, attributes := #[] }, { accessFlags := 9, nameIndex := 58, descriptorIndex := 59, attributes := #[] }, { accessFlags := 10, nameIndex := 41, descriptorIndex := 42, attributes := #[] }, { accessFlags := 10, nameIndex := 31, descriptorIndex := 32, attributes := #[] }, { accessFlags := 10, nameIndex := 49, descriptorIndex := 50, attributes := #[] }] 49 2 #[] #[])
  fields := #[]
  methods := #[k1m0, k1m1, k1m2, k1m3, k1m4]
  instanceTypes := #[]
  staticTypes := #[]
  resolved := Array.replicate 65 none
  statics := none }

def pool2 : Array CpInfo := pool [(1, .class_ 2), (0, u "java/io/Serializable"), (0, .class_ 4), (0, u "java/lang/Object")] 2

/-- java/io/Serializable -/
def k2 : Class := { plain "java/io/Serializable" (some 0) with
  accessFlags := 1537
  interfaces := #[]
  cf := some (fileOf pool2 1 #[] #[] 1537 3 #[] #[])
  fields := #[]
  methods := #[]
  instanceTypes := #[]
  staticTypes := #[]
  resolved := Array.replicate 7 none
  statics := none }

def pool3 : Array CpInfo := pool [(1, .class_ 2), (0, u "java/lang/Comparable"), (0, .class_ 4), (0, u "java/lang/Object")] 7

/-- java/lang/Comparable -/
def k3 : Class := { plain "java/lang/Comparable" (some 0) with
  accessFlags := 1537
  interfaces := #[]
  cf := some (fileOf pool3 1 #[] #[] 1537 3 #[] #[])
  fields := #[]
  methods := #[]
  instanceTypes := #[]
  staticTypes := #[]
  resolved := Array.replicate 12 none
  statics := none }

def pool4 : Array CpInfo := pool [(2, .class_ 4), (1, u "java/lang/CharSequence"), (42, .class_ 48), (0, u "java/lang/CharSequence$1CodePointIterator"), (10, .class_ 60), (0, u "java/lang/CharSequence$1CharIterator"), (5, .class_ 67), (0, u "java/lang/Object")] 63

/-- java/lang/CharSequence -/
def k4 : Class := { plain "java/lang/CharSequence" (some 0) with
  accessFlags := 1537
  interfaces := #[]
  cf := some (fileOf pool4 2 #[.nestMembers #[47, 59]] #[] 1537 66 #[] #[])
  fields := #[]
  methods := #[]
  instanceTypes := #[]
  staticTypes := #[]
  resolved := Array.replicate 131 none
  statics := none }

def pool5 : Array CpInfo := pool [(1, .class_ 2), (0, u "java/lang/constant/Constable"), (0, .class_ 4), (0, u "java/lang/Object")] 6

/-- java/lang/constant/Constable -/
def k5 : Class := { plain "java/lang/constant/Constable" (some 0) with
  accessFlags := 1537
  interfaces := #[]
  cf := some (fileOf pool5 1 #[] #[] 1537 3 #[] #[])
  fields := #[]
  methods := #[]
  instanceTypes := #[]
  staticTypes := #[]
  resolved := Array.replicate 11 none
  statics := none }

def pool6 : Array CpInfo := pool [(1, .class_ 2), (0, u "java/lang/constant/ConstantDesc"), (0, .class_ 4), (0, u "java/lang/Object")] 32

/-- java/lang/constant/ConstantDesc -/
def k6 : Class := { plain "java/lang/constant/ConstantDesc" (some 0) with
  accessFlags := 1537
  interfaces := #[]
  cf := some (fileOf pool6 1 #[] #[] 1537 3 #[] #[])
  fields := #[]
  methods := #[]
  instanceTypes := #[]
  staticTypes := #[]
  resolved := Array.replicate 37 none
  statics := none }

def pool7 : Array CpInfo := pool [(1, .methodref 2 3), (0, .class_ 4), (0, .nameAndType 5 6), (0, u "java/lang/Object"), (0, u "<init>"), (0, u "()V"), (2, .fieldref 10 11), (0, .class_ 12), (0, .nameAndType 13 14), (0, u "java/lang/String"), (0, u "value"), (0, u "[B"), (0, .fieldref 10 16), (0, .nameAndType 17 18), (0, u "coder"), (0, u "B"), (2, u "hash"), (0, u "I"), (2, u "hashIsZero"), (0, u "Z"), (0, .methodref 10 28), (0, .nameAndType 5 29), (0, u "([CIILjava/lang/Void;)V"), (8, .fieldref 10 39), (0, .nameAndType 40 26), (0, u "COMPACT_STRINGS"), (1, .class_ 44), (1, u "java/lang/StringUTF16"), (0, u "compress"), (1, .methodref 42 48), (0, .nameAndType 49 50), (0, u "coderFromArrayLen"), (0, u "([BI)B"), (3, .methodref 55 56), (0, .class_ 57), (0, .nameAndType 58 59), (0, u "java/util/Arrays"), (0, u "copyOfRange"), (0, u "([BII)[B"), (47, .class_ 109), (1, u "java/lang/StringLatin1"), (32, u "()Z"), (34, .methodref 42 178), (0, .nameAndType 45 179), (0, u "([CII)[B"), (13, .class_ 195), (1, u "java/lang/System"), (16, .methodref 193 213), (0, .nameAndType 214 215), (0, u "arraycopy"), (0, u "(Ljava/lang/Object;ILjava/lang/Object;II)V"), (118, u "()I"), (0, .methodref 10 336), (0, .nameAndType 17 337), (0, u "()B"), (2, u "()[B"), (22, u "([BI)C"), (27, u "(II)V"), (35, u "(I)C"), (61, .methodref 10 490), (0, .nameAndType 5 491), (0, u "(Ljava/lang/AbstractStringBuilder;Ljava/lang/Void;)V"), (0, .methodref 10 493), (0, .nameAndType 494 142), (0, u "isLatin1"), (0, .methodref 107 496), (0, .nameAndType 497 363), (0, u "charAt"), (3, u "checkIndex"), (4, .nameAndType 507 334), (0, u "length"), (24, u "getBytes"), (16, .methodref 550 506), (0, .class_ 551), (0, u "java/lang/AbstractStringBuilder"), (0, .methodref 550 553), (0, .nameAndType 554 340), (0, u "getValue"), (20, .class_ 576), (0, u "java/lang/CharSequence"), (22, u "CASE_INSENSITIVE_ORDER"), (0, u "Ljava/util/Comparator;"), (220, u "([BIB)V"), (188, u "([C)V"), (36, .methodref 550 493), (5, .fieldref 1054 1055), (0, .class_ 1056), (0, .nameAndType 1057 1058), (0, u "jdk/internal/util/Preconditions"), (0, u "SIOOBE_FORMATTER"), (0, u "Ljava/util/function/BiFunction;"), (0, .methodref 1054 1060), (0, .nameAndType 501 1061), (0, u "(IILjava/util/function/BiFunction;)I"), (39, u "serialPersistentFields"), (0, u "[Ljava/io/ObjectStreamField;"), (0, .class_ 1104), (0, u "java/lang/String$CaseInsensitiveComparator"), (1, .class_ 1107), (0, u "java/io/Serializable"), (0, .class_ 1109), (0, u "java/lang/Comparable"), (0, .class_ 1111), (0, u "java/lang/constant/Constable"), (0, .class_ 1113), (0, u "java/lang/constant/ConstantDesc"), (2, u "serialVersionUID"), (0, u "J"), (3, u "REPL"), (0, u "C"), (2, u "LATIN1"), (1, u "UTF16"), (105, u "(Ljava/lang/StringBuilder;)V")] 217

def k7m0 : Method := { name := "<init>", desc := "()V", sig := { parameters := [], returnType := none }, accessFlags := 1, code := none }
def k7c1 : Code := { maxStack := 5, maxLocals := 2, code := jdk_42_method_3_code, exceptionTable := #[], attributes := #[] }
def k7m1 : Method := { name := "<init>", desc := "([C)V", sig := { parameters := [(.array .char)], returnType := none }, accessFlags := 1, code := some k7c1 }
def k7c2 : Code := { maxStack := 3, maxLocals := 2, code := jdk_42_method_53_code, exceptionTable := #[], attributes := #[] }
def k7m2 : Method := { name := "<init>", desc := "(Ljava/lang/StringBuilder;)V", sig := { parameters := [(.object "java/lang/StringBuilder")], returnType := none }, accessFlags := 1, code := some k7c2 }
def k7c3 : Code := { maxStack := 2, maxLocals := 1, code := jdk_42_method_54_code, exceptionTable := #[], attributes := #[] }
def k7m3 : Method := { name := "length", desc := "()I", sig := { parameters := [], returnType := some .int }, accessFlags := 1, code := some k7c3 }
def k7c4 : Code := { maxStack := 2, maxLocals := 2, code := jdk_42_method_56_code, exceptionTable := #[], attributes := #[] }
def k7m4 : Method := { name := "charAt", desc := "(I)C", sig := { parameters := [.int], returnType := some .char }, accessFlags := 1, code := some k7c4 }
def k7c5 : Code := { maxStack := 5, maxLocals := 4, code := jdk_42_method_147_code, exceptionTable := #[], attributes := #[] }
def k7m5 : Method := { name := "getBytes", desc := "([BIB)V", sig := { parameters := [(.array .byte), .int, .byte], returnType := none }, accessFlags := 0, code := some k7c5 }
def k7c6 : Code := { maxStack := 4, maxLocals := 6, code := jdk_42_method_149_code, exceptionTable := #[], attributes := #[] }
def k7m6 : Method := { name := "<init>", desc := "([CIILjava/lang/Void;)V", sig := { parameters := [(.array .char), .int, .int, (.object "java/lang/Void")], returnType := none }, accessFlags := 2, code := some k7c6 }
def k7c7 : Code := { maxStack := 5, maxLocals := 5, code := jdk_42_method_150_code, exceptionTable := #[], attributes := #[] }
def k7m7 : Method := { name := "<init>", desc := "(Ljava/lang/AbstractStringBuilder;Ljava/lang/Void;)V", sig := { parameters := [(.object "java/lang/AbstractStringBuilder"), (.object "java/lang/Void")], returnType := none }, accessFlags := 0, code := some k7c7 }
def k7c8 : Code := { maxStack := 1, maxLocals := 1, code := jdk_42_method_152_code, exceptionTable := #[], attributes := #[] }
def k7m8 : Method := { name := "coder", desc := "()B", sig := { parameters := [], returnType := some .byte }, accessFlags := 0, code := some k7c8 }
def k7c9 : Code := { maxStack := 1, maxLocals := 1, code := jdk_42_method_154_code, exceptionTable := #[], attributes := #[] }
def k7m9 : Method := { name := "isLatin1", desc := "()Z", sig := { parameters := [], returnType := some .boolean }, accessFlags := 0, code := some k7c9 }
def k7c10 : Code := { maxStack := 3, maxLocals := 2, code := jdk_42_method_155_code, exceptionTable := #[], attributes := #[] }
def k7m10 : Method := { name := "checkIndex", desc := "(II)V", sig := { parameters := [.int, .int], returnType := none }, accessFlags := 8, code := some k7c10 }
/-- java/lang/String -/
def k7 : Class := { plain "java/lang/String" (some 0) with
  accessFlags := 49
  interfaces := #[2, 3, 4, 5, 6]
  cf := some (fileOf pool7 10 #[.nestMembers #[1103]] #[{ accessFlags := 1, nameIndex := 5, descriptorIndex := 6, attributes := #[] }, { accessFlags := 1, nameIndex := 5, descriptorIndex := 1010, attributes := #[] }, { accessFlags := 1, nameIndex := 5, descriptorIndex := 1233, attributes := #[] }, { accessFlags := 1, nameIndex := 507, descriptorIndex := 334, attributes := #[] }, { accessFlags := 1, nameIndex := 497, descriptorIndex := 427, attributes := #[] }, { accessFlags := 0, nameIndex := 532, descriptorIndex := 821, attributes := #[] }, { accessFlags := 2, nameIndex := 5, descriptorIndex := 29, attributes := #[] }, { accessFlags := 0, nameIndex := 5, descriptorIndex := 491, attributes := #[] }, { accessFlags := 0, nameIndex := 17, descriptorIndex := 337, attributes := #[] }, { accessFlags := 0, nameIndex := 494, descriptorIndex := 142, attributes := #[] }, { accessFlags := 8, nameIndex := 501, descriptorIndex := 391, attributes := #[] }] 49 2 #[1106, 1108, 575, 1110, 1112] #[{ accessFlags := 18, nameIndex := 13, descriptorIndex := 14, attributes := #[] }, { accessFlags := 18, nameIndex := 17, descriptorIndex := 18, attributes := #[] }, { accessFlags := 2, nameIndex := 21, descriptorIndex := 22, attributes := #[] }, { accessFlags := 2, nameIndex := 25, descriptorIndex := 26, attributes := #[] }, { accessFlags := 26, nameIndex := 1116, descriptorIndex := 1117, attributes := #[] }, { accessFlags := 24, nameIndex := 40, descriptorIndex := 26, attributes := #[] }, { accessFlags := 26, nameIndex := 1101, descriptorIndex := 1102, attributes := #[] }, { accessFlags := 26, nameIndex := 1121, descriptorIndex := 1122, attributes := #[] }, { accessFlags := 25, nameIndex := 599, descriptorIndex := 600, attributes := #[] }, { accessFlags := 24, nameIndex := 1125, descriptorIndex := 18, attributes := #[] }, { accessFlags := 24, nameIndex := 1127, descriptorIndex := 18, attributes := #[] }])
  fields := #[{ name := "value", type := (.array .byte), accessFlags := 18, slot := 0, constantValue := 0 }, { name := "coder", type := .byte, accessFlags := 18, slot := 1, constantValue := 0 }, { name := "hash", type := .int, accessFlags := 2, slot := 2, constantValue := 0 }, { name := "hashIsZero", type := .boolean, accessFlags := 2, slot := 3, constantValue := 0 }, { name := "serialVersionUID", type := .long, accessFlags := 26, slot := 0, constantValue := 0 }, { name := "COMPACT_STRINGS", type := .boolean, accessFlags := 24, slot := 1, constantValue := 0 }, { name := "serialPersistentFields", type := (.array (.object "java/io/ObjectStreamField")), accessFlags := 26, slot := 2, constantValue := 0 }, { name := "REPL", type := .char, accessFlags := 26, slot := 3, constantValue := 0 }, { name := "CASE_INSENSITIVE_ORDER", type := (.object "java/util/Comparator"), accessFlags := 25, slot := 4, constantValue := 0 }, { name := "LATIN1", type := .byte, accessFlags := 24, slot := 5, constantValue := 0 }, { name := "UTF16", type := .byte, accessFlags := 24, slot := 6, constantValue := 0 }]
  methods := #[k7m0, k7m1, k7m2, k7m3, k7m4, k7m5, k7m6, k7m7, k7m8, k7m9, k7m10]
  instanceTypes := #[(.array .byte), .byte, .int, .boolean]
  staticTypes := #[.long, .boolean, (.array (.object "java/io/ObjectStreamField")), .char, (.object "java/util/Comparator"), .byte, .byte]
  resolved := Array.replicate 1451 none
  statics := some 0 }

def pool8 : Array CpInfo := pool [(6, .class_ 8), (1, u "java/lang/Object"), (0, u "<init>"), (0, u "()V"), (1, .class_ 14), (1, u "java/lang/StringUTF16"), (31, u "$assertionsDisabled"), (0, u "Z"), (13, u "HI_BYTE_SHIFT"), (0, u "I"), (2, u "LO_BYTE_SHIFT"), (49, .methodref 12 116), (0, .nameAndType 117 118), (0, u "compress"), (0, u "([CI[BII)I"), (3, u "([CII)[B"), (138, u "coderFromArrayLen"), (0, u "([BI)B"), (106, .class_ 371), (1, u "java/lang/StringUTF16$LinesSpliterator"), (58, u "MAX_LENGTH"), (196, .class_ 628), (0, u "java/lang/StringUTF16$CodePointsSpliterator"), (0, .class_ 630), (0, u "java/lang/StringUTF16$CharsSpliterator")] 4

def k8m0 : Method := { name := "<init>", desc := "()V", sig := { parameters := [], returnType := none }, accessFlags := 0, code := none }
def k8c1 : Code := { maxStack := 2, maxLocals := 2, code := jdk_52_method_15_code, exceptionTable := #[], attributes := #[] }
def k8m1 : Method := { name := "coderFromArrayLen", desc := "([BI)B", sig := { parameters := [(.array .byte), .int], returnType := some .byte }, accessFlags := 8, code := some k8c1 }
def k8c2 : Code := { maxStack := 5, maxLocals := 6, code := jdk_52_method_16_code, exceptionTable := #[], attributes := #[] }
def k8m2 : Method := { name := "compress", desc := "([CII)[B", sig := { parameters := [(.array .char), .int, .int], returnType := some (.array .byte) }, accessFlags := 9, code := some k8c2 }
def k8c3 : Code := { maxStack := 3, maxLocals := 7, code := jdk_52_method_21_code, exceptionTable := #[], attributes := #[] }
def k8m3 : Method := { name := "compress", desc := "([CI[BII)I", sig := { parameters := [(.array .char), .int, (.array .byte), .int, .int], returnType := some .int }, accessFlags := 9, code := some k8c3 }
/-- java/lang/StringUTF16 -/
def k8 : Class := { plain "java/lang/StringUTF16" (some 0) with
  accessFlags := 48
  interfaces := #[]
  cf := some (fileOf pool8 12 #[.nestMembers #[627, 629, 369]] #[{ accessFlags := 0, nameIndex := 9, descriptorIndex := 10, attributes := #[] }, { accessFlags := 8, nameIndex := 261, descriptorIndex := 262, attributes := #[] }, { accessFlags := 9, nameIndex := 117, descriptorIndex := 122, attributes := #[] }, { accessFlags := 9, nameIndex := 117, descriptorIndex := 118, attributes := #[] }] 48 6 #[] #[{ accessFlags := 26, nameIndex := 61, descriptorIndex := 62, attributes := #[] }, { accessFlags := 26, nameIndex := 65, descriptorIndex := 62, attributes := #[] }, { accessFlags := 24, nameIndex := 430, descriptorIndex := 62, attributes := #[] }, { accessFlags := 4120, nameIndex := 46, descriptorIndex := 47, attributes := #[] }])
  fields := #[{ name := "HI_BYTE_SHIFT", type := .int, accessFlags := 26, slot := 0, constantValue := 0 }, { name := "LO_BYTE_SHIFT", type := .int, accessFlags := 26, slot := 1, constantValue := 0 }, { name := "MAX_LENGTH", type := .int, accessFlags := 24, slot := 2, constantValue := 0 }, { name := "$assertionsDisabled", type := .boolean, accessFlags := 4120, slot := 3, constantValue := 0 }]
  methods := #[k8m0, k8m1, k8m2, k8m3]
  instanceTypes := #[]
  staticTypes := #[.int, .int, .int, .boolean]
  resolved := Array.replicate 635 none
  statics := none }

def pool9 : Array CpInfo := pool [(1, .methodref 2 3), (0, .class_ 4), (0, .nameAndType 5 6), (0, u "java/lang/Object"), (0, u "<init>"), (0, u "()V"), (0, .fieldref 8 9), (0, .class_ 10), (0, .nameAndType 11 12), (0, u "com/example/wachter/wachter/policy/Decision"), (0, u "allowed"), (0, u "Z"), (0, .fieldref 8 14), (0, .nameAndType 15 16), (0, u "reason"), (0, u "Ljava/lang/String;"), (0, .fieldref 8 18), (0, .nameAndType 19 20), (0, u "line"), (0, u "I"), (0, .string 22), (0, u "allowed by"), (0, .methodref 8 24), (0, .nameAndType 5 25), (0, u "(ZLjava/lang/String;I)V"), (2, .class_ 29), (0, u "java/lang/StringBuilder"), (0, .methodref 28 3), (0, .methodref 28 32), (0, .nameAndType 33 34), (0, u "append"), (0, u "(Ljava/lang/String;)Ljava/lang/StringBuilder;"), (0, .string 36), (0, u " "), (0, .string 38), (0, u ":"), (0, .methodref 28 40), (0, .nameAndType 33 41), (0, u "(I)Ljava/lang/StringBuilder;"), (0, .methodref 28 43), (0, .nameAndType 44 45), (0, u "toString"), (0, u "()Ljava/lang/String;"), (4, u "OPEN"), (0, u "Lcom/example/wachter/wachter/policy/Decision;"), (4, u "UNCOVERED"), (4, u "UNREQUESTED"), (2, u "allowedBy"), (0, u "(I)Lcom/example/wachter/wachter/policy/Decision;"), (1, u "()Z"), (0, u "because"), (0, u "(Ljava/lang/String;)Ljava/lang/String;")] 6

def k9c0 : Code := { maxStack := 2, maxLocals := 4, code := prog_13_method_1_code, exceptionTable := #[], attributes := #[] }
def k9m0 : Method := { name := "<init>", desc := "(ZLjava/lang/String;I)V", sig := { parameters := [.boolean, (.object "java/lang/String"), .int], returnType := none }, accessFlags := 2, code := some k9c0 }
def k9c1 : Code := { maxStack := 5, maxLocals := 1, code := prog_13_method_2_code, exceptionTable := #[], attributes := #[] }
def k9m1 : Method := { name := "allowedBy", desc := "(I)Lcom/example/wachter/wachter/policy/Decision;", sig := { parameters := [.int], returnType := some (.object "com/example/wachter/wachter/policy/Decision") }, accessFlags := 8, code := some k9c1 }
def k9c2 : Code := { maxStack := 1, maxLocals := 1, code := prog_13_method_4_code, exceptionTable := #[], attributes := #[] }
def k9m2 : Method := { name := "allowed", desc := "()Z", sig := { parameters := [], returnType := some .boolean }, accessFlags := 1, code := some k9c2 }
def k9c3 : Code := { maxStack := 2, maxLocals := 2, code := prog_13_method_5_code, exceptionTable := #[], attributes := #[] }
def k9m3 : Method := { name := "because", desc := "(Ljava/lang/String;)Ljava/lang/String;", sig := { parameters := [(.object "java/lang/String")], returnType := some (.object "java/lang/String") }, accessFlags := 1, code := some k9c3 }
/-- com/example/wachter/wachter/policy/Decision -/
def k9 : Class := { plain "com/example/wachter/wachter/policy/Decision" (some 0) with
  accessFlags := 49
  interfaces := #[]
  cf := some (fileOf pool9 8 #[] #[{ accessFlags := 2, nameIndex := 5, descriptorIndex := 25, attributes := #[] }, { accessFlags := 8, nameIndex := 64, descriptorIndex := 65, attributes := #[] }, { accessFlags := 1, nameIndex := 11, descriptorIndex := 67, attributes := #[] }, { accessFlags := 1, nameIndex := 68, descriptorIndex := 69, attributes := #[] }] 49 2 #[] #[{ accessFlags := 24, nameIndex := 50, descriptorIndex := 51, attributes := #[] }, { accessFlags := 24, nameIndex := 56, descriptorIndex := 51, attributes := #[] }, { accessFlags := 24, nameIndex := 61, descriptorIndex := 51, attributes := #[] }, { accessFlags := 18, nameIndex := 11, descriptorIndex := 12, attributes := #[] }, { accessFlags := 18, nameIndex := 15, descriptorIndex := 16, attributes := #[] }, { accessFlags := 18, nameIndex := 19, descriptorIndex := 20, attributes := #[] }])
  fields := #[{ name := "OPEN", type := (.object "com/example/wachter/wachter/policy/Decision"), accessFlags := 24, slot := 0, constantValue := 0 }, { name := "UNCOVERED", type := (.object "com/example/wachter/wachter/policy/Decision"), accessFlags := 24, slot := 1, constantValue := 0 }, { name := "UNREQUESTED", type := (.object "com/example/wachter/wachter/policy/Decision"), accessFlags := 24, slot := 2, constantValue := 0 }, { name := "allowed", type := .boolean, accessFlags := 18, slot := 0, constantValue := 0 }, { name := "reason", type := (.object "java/lang/String"), accessFlags := 18, slot := 1, constantValue := 0 }, { name := "line", type := .int, accessFlags := 18, slot := 2, constantValue := 0 }]
  methods := #[k9m0, k9m1, k9m2, k9m3]
  instanceTypes := #[.boolean, (.object "java/lang/String"), .int]
  staticTypes := #[(.object "com/example/wachter/wachter/policy/Decision"), (.object "com/example/wachter/wachter/policy/Decision"), (.object "com/example/wachter/wachter/policy/Decision")]
  resolved := Array.replicate 76 none
  statics := none }

def pool10 : Array CpInfo := pool [(1, .class_ 2), (0, u "java/lang/Appendable"), (0, .class_ 4), (0, u "java/lang/Object")] 9

/-- java/lang/Appendable -/
def k10 : Class := { plain "java/lang/Appendable" (some 0) with
  accessFlags := 1537
  interfaces := #[]
  cf := some (fileOf pool10 1 #[] #[] 1537 3 #[] #[])
  fields := #[]
  methods := #[]
  instanceTypes := #[]
  staticTypes := #[]
  resolved := Array.replicate 14 none
  statics := none }

def pool11 : Array CpInfo := pool [(1, .class_ 2), (0, u "java/lang/String"), (0, .methodref 4 5), (0, .class_ 6), (0, .nameAndType 7 8), (0, u "java/lang/Object"), (0, u "<init>"), (0, u "()V"), (1, .class_ 12), (1, u "java/lang/AbstractStringBuilder"), (0, u "EMPTYVALUE"), (0, u "[B"), (0, .fieldref 10 16), (0, .nameAndType 17 14), (0, u "value"), (0, .fieldref 1 19), (0, .nameAndType 20 21), (0, u "COMPACT_STRINGS"), (0, u "Z"), (0, .fieldref 10 23), (0, .nameAndType 24 25), (0, u "coder"), (0, u "B"), (6, .methodref 1 33), (0, .nameAndType 34 35), (0, u "length"), (0, u "()I"), (0, .class_ 37), (0, u "java/lang/Integer"), (1, .integer 2147483647), (0, .methodref 1 41), (0, .nameAndType 24 42), (0, u "()B"), (2, u "append"), (0, u "(Ljava/lang/String;)Ljava/lang/AbstractStringBuilder;"), (1, .class_ 49), (0, u "java/lang/CharSequence"), (19, u "(Ljava/lang/String;)V"), (5, u "maybeLatin1"), (3, .fieldref 10 80), (0, .nameAndType 81 82), (0, u "count"), (0, u "I"), (0, .methodref 10 84), (0, .nameAndType 85 86), (0, u "isLatin1"), (0, u "()Z"), (13, .methodref 10 101), (0, .nameAndType 102 103), (0, u "ensureCapacityInternal"), (0, u "(I)V"), (0, .methodref 10 105), (0, .nameAndType 106 107), (0, u "newCapacity"), (0, u "(I)I"), (0, .methodref 109 110), (0, .class_ 111), (0, .nameAndType 112 113), (0, u "java/util/Arrays"), (0, u "copyOf"), (0, u "([BI)[B"), (0, .methodref 115 116), (0, .class_ 117), (0, .nameAndType 118 119), (0, u "jdk/internal/util/ArraysSupport"), (0, u "newLength"), (0, u "(III)I"), (68, u "getChars"), (19, .methodref 10 209), (0, .nameAndType 210 211), (0, u "putStringAt"), (0, u "(ILjava/lang/String;)V"), (5, u "inflateIfNeededFor"), (2, .nameAndType 221 222), (0, u "getBytes"), (0, u "([BIB)V"), (22, .methodref 36 246), (0, .nameAndType 247 107), (0, u "stringSize"), (0, .methodref 36 249), (0, .nameAndType 188 250), (0, u "(II[B)I"), (146, .methodref 10 398), (0, .nameAndType 217 69), (0, .methodref 1 220), (3, u "()[B"), (40, .class_ 445), (0, u "java/lang/Appendable"), (65, u "(I)Ljava/lang/AbstractStringBuilder;"), (40, u "getValue")] 56

def k11m0 : Method := { name := "<init>", desc := "()V", sig := { parameters := [], returnType := none }, accessFlags := 0, code := none }
def k11c1 : Code := { maxStack := 2, maxLocals := 2, code := jdk_68_method_2_code, exceptionTable := #[], attributes := #[] }
def k11m1 : Method := { name := "<init>", desc := "(I)V", sig := { parameters := [.int], returnType := none }, accessFlags := 0, code := some k11c1 }
def k11c2 : Code := { maxStack := 1, maxLocals := 1, code := jdk_68_method_6_code, exceptionTable := #[], attributes := #[] }
def k11m2 : Method := { name := "length", desc := "()I", sig := { parameters := [], returnType := some .int }, accessFlags := 1, code := some k11c2 }
def k11c3 : Code := { maxStack := 4, maxLocals := 3, code := jdk_68_method_9_code, exceptionTable := #[], attributes := #[] }
def k11m3 : Method := { name := "ensureCapacityInternal", desc := "(I)V", sig := { parameters := [.int], returnType := none }, accessFlags := 2, code := some k11c3 }
def k11c4 : Code := { maxStack := 5, maxLocals := 6, code := jdk_68_method_10_code, exceptionTable := #[], attributes := #[] }
def k11m4 : Method := { name := "newCapacity", desc := "(I)I", sig := { parameters := [.int], returnType := some .int }, accessFlags := 2, code := some k11c4 }
def k11c5 : Code := { maxStack := 3, maxLocals := 3, code := jdk_68_method_22_code, exceptionTable := #[], attributes := #[] }
def k11m5 : Method := { name := "append", desc := "(Ljava/lang/String;)Ljava/lang/AbstractStringBuilder;", sig := { parameters := [(.object "java/lang/String")], returnType := some (.object "java/lang/AbstractStringBuilder") }, accessFlags := 1, code := some k11c5 }
def k11c6 : Code := { maxStack := 4, maxLocals := 4, code := jdk_68_method_32_code, exceptionTable := #[], attributes := #[] }
def k11m6 : Method := { name := "append", desc := "(I)Ljava/lang/AbstractStringBuilder;", sig := { parameters := [.int], returnType := some (.object "java/lang/AbstractStringBuilder") }, accessFlags := 1, code := some k11c6 }
def k11c7 : Code := { maxStack := 1, maxLocals := 1, code := jdk_68_method_64_code, exceptionTable := #[], attributes := #[] }
def k11m7 : Method := { name := "getValue", desc := "()[B", sig := { parameters := [], returnType := some (.array .byte) }, accessFlags := 16, code := some k11c7 }
def k11c8 : Code := { maxStack := 1, maxLocals := 1, code := jdk_68_method_68_code, exceptionTable := #[], attributes := #[] }
def k11m8 : Method := { name := "isLatin1", desc := "()Z", sig := { parameters := [], returnType := some .boolean }, accessFlags := 16, code := some k11c8 }
def k11c9 : Code := { maxStack := 2, maxLocals := 2, code := jdk_68_method_71_code, exceptionTable := #[], attributes := #[] }
def k11m9 : Method := { name := "inflateIfNeededFor", desc := "(Ljava/lang/String;)V", sig := { parameters := [(.object "java/lang/String")], returnType := none }, accessFlags := 2, code := some k11c9 }
def k11c10 : Code := { maxStack := 4, maxLocals := 3, code := jdk_68_method_73_code, exceptionTable := #[], attributes := #[] }
def k11m10 : Method := { name := "putStringAt", desc := "(ILjava/lang/String;)V", sig := { parameters := [.int, (.object "java/lang/String")], returnType := none }, accessFlags := 2, code := some k11c10 }
/-- java/lang/AbstractStringBuilder -/
def k11 : Class := { plain "java/lang/AbstractStringBuilder" (some 0) with
  accessFlags := 1056
  interfaces := #[10, 4]
  cf := some (fileOf pool11 10 #[] #[{ accessFlags := 0, nameIndex := 7, descriptorIndex := 8, attributes := #[] }, { accessFlags := 0, nameIndex := 7, descriptorIndex := 103, attributes := #[] }, { accessFlags := 1, nameIndex := 34, descriptorIndex := 35, attributes := #[] }, { accessFlags := 2, nameIndex := 102, descriptorIndex := 103, attributes := #[] }, { accessFlags := 2, nameIndex := 106, descriptorIndex := 107, attributes := #[] }, { accessFlags := 1, nameIndex := 45, descriptorIndex := 46, attributes := #[] }, { accessFlags := 1, nameIndex := 45, descriptorIndex := 511, attributes := #[] }, { accessFlags := 16, nameIndex := 552, descriptorIndex := 403, attributes := #[] }, { accessFlags := 16, nameIndex := 85, descriptorIndex := 86, attributes := #[] }, { accessFlags := 2, nameIndex := 217, descriptorIndex := 69, attributes := #[] }, { accessFlags := 2, nameIndex := 210, descriptorIndex := 211, attributes := #[] }] 1056 4 #[444, 48] #[{ accessFlags := 0, nameIndex := 17, descriptorIndex := 14, attributes := #[] }, { accessFlags := 0, nameIndex := 24, descriptorIndex := 25, attributes := #[] }, { accessFlags := 0, nameIndex := 75, descriptorIndex := 21, attributes := #[] }, { accessFlags := 0, nameIndex := 81, descriptorIndex := 82, attributes := #[] }, { accessFlags := 26, nameIndex := 13, descriptorIndex := 14, attributes := #[] }])
  fields := #[{ name := "value", type := (.array .byte), accessFlags := 0, slot := 0, constantValue := 0 }, { name := "coder", type := .byte, accessFlags := 0, slot := 1, constantValue := 0 }, { name := "maybeLatin1", type := .boolean, accessFlags := 0, slot := 2, constantValue := 0 }, { name := "count", type := .int, accessFlags := 0, slot := 3, constantValue := 0 }, { name := "EMPTYVALUE", type := (.array .byte), accessFlags := 26, slot := 0, constantValue := 0 }]
  methods := #[k11m0, k11m1, k11m2, k11m3, k11m4, k11m5, k11m6, k11m7, k11m8, k11m9, k11m10]
  instanceTypes := #[(.array .byte), .byte, .boolean, .int]
  staticTypes := #[(.array .byte)]
  resolved := Array.replicate 609 none
  statics := none }

def pool12 : Array CpInfo := pool [(1, .methodref 2 3), (0, .class_ 4), (0, .nameAndType 5 6), (0, u "java/lang/AbstractStringBuilder"), (0, u "<init>"), (0, u "(I)V"), (11, .class_ 20), (1, u "java/lang/String"), (3, .class_ 26), (1, u "java/lang/StringBuilder"), (0, u "append"), (0, u "(Ljava/lang/String;)Ljava/lang/StringBuilder;"), (0, .methodref 2 30), (0, .nameAndType 27 31), (0, u "(Ljava/lang/String;)Ljava/lang/AbstractStringBuilder;"), (21, .methodref 2 54), (0, .nameAndType 27 55), (0, u "(I)Ljava/lang/AbstractStringBuilder;"), (81, .methodref 18 138), (0, .nameAndType 5 139), (0, u "(Ljava/lang/StringBuilder;)V"), (5, u "()V"), (10, u "()I"), (111, u "(I)Ljava/lang/StringBuilder;"), (74, .methodref 2 344), (0, .nameAndType 345 156), (0, u "length"), (3, .class_ 350), (0, u "java/lang/Appendable"), (0, .class_ 352), (0, u "java/io/Serializable"), (0, .class_ 354), (0, u "java/lang/Comparable"), (0, .class_ 356), (0, u "java/lang/CharSequence"), (0, u "serialVersionUID"), (0, u "J"), (40, u "toString"), (0, u "()Ljava/lang/String;")] 21

def k12c0 : Code := { maxStack := 2, maxLocals := 1, code := jdk_67_method_1_code, exceptionTable := #[], attributes := #[] }
def k12m0 : Method := { name := "<init>", desc := "()V", sig := { parameters := [], returnType := none }, accessFlags := 1, code := some k12c0 }
def k12c1 : Code := { maxStack := 2, maxLocals := 2, code := jdk_67_method_7_code, exceptionTable := #[], attributes := #[] }
def k12m1 : Method := { name := "append", desc := "(Ljava/lang/String;)Ljava/lang/StringBuilder;", sig := { parameters := [(.object "java/lang/String")], returnType := some (.object "java/lang/StringBuilder") }, accessFlags := 1, code := some k12c1 }
def k12c2 : Code := { maxStack := 2, maxLocals := 2, code := jdk_67_method_15_code, exceptionTable := #[], attributes := #[] }
def k12m2 : Method := { name := "append", desc := "(I)Ljava/lang/StringBuilder;", sig := { parameters := [.int], returnType := some (.object "java/lang/StringBuilder") }, accessFlags := 1, code := some k12c2 }
def k12c3 : Code := { maxStack := 3, maxLocals := 1, code := jdk_67_method_42_code, exceptionTable := #[], attributes := #[] }
def k12m3 : Method := { name := "toString", desc := "()Ljava/lang/String;", sig := { parameters := [], returnType := some (.object "java/lang/String") }, accessFlags := 1, code := some k12c3 }
def k12c4 : Code := { maxStack := 1, maxLocals := 1, code := jdk_67_method_93_code, exceptionTable := #[], attributes := #[] }
def k12m4 : Method := { name := "length", desc := "()I", sig := { parameters := [], returnType := some .int }, accessFlags := 4161, code := some k12c4 }
/-- java/lang/StringBuilder -/
def k12 : Class := { plain "java/lang/StringBuilder" (some 11) with
  accessFlags := 49
  interfaces := #[10, 2, 3, 4]
  cf := some (fileOf pool12 24 #[] #[{ accessFlags := 1, nameIndex := 5, descriptorIndex := 145, attributes := #[] }, { accessFlags := 1, nameIndex := 27, descriptorIndex := 28, attributes := #[] }, { accessFlags := 1, nameIndex := 27, descriptorIndex := 268, attributes := #[] }, { accessFlags := 1, nameIndex := 399, descriptorIndex := 400, attributes := #[] }, { accessFlags := 4161, nameIndex := 345, descriptorIndex := 156, attributes := #[] }] 49 2 #[349, 351, 353, 355] #[{ accessFlags := 24, nameIndex := 357, descriptorIndex := 358, attributes := #[] }])
  fields := #[{ name := "serialVersionUID", type := .long, accessFlags := 24, slot := 0, constantValue := 0 }]
  methods := #[k12m0, k12m1, k12m2, k12m3, k12m4]
  instanceTypes := #[(.array .byte), .byte, .boolean, .int]
  staticTypes := #[.long]
  resolved := Array.replicate 422 none
  statics := none }

def pool13 : Array CpInfo := pool [(2, .class_ 4), (1, u "java/lang/Object"), (0, u "<init>"), (0, u "()V"), (1, .class_ 10), (1, u "java/lang/System"), (0, u "allowSecurityManager"), (0, u "I"), (16, u "cons"), (0, u "Ljava/io/Console;"), (77, .class_ 110), (1, u "java/lang/System$CallersHolder"), (43, u "initialErrStream"), (0, u "Ljava/io/PrintStream;"), (19, u "security"), (0, u "Ljava/lang/SecurityManager;"), (31, .class_ 209), (0, u "java/lang/System$1"), (7, u "props"), (0, u "Ljava/util/Properties;"), (2, u "lineSeparator"), (0, u "Ljava/lang/String;"), (96, .class_ 321), (1, u "java/lang/System$LoggerFinder"), (5, .class_ 328), (0, u "java/lang/System$Logger"), (67, u "err"), (2, u "out"), (91, u "notSupportedJnuEncoding"), (15, u "in"), (17, u "initialIn"), (0, u "Ljava/io/InputStream;"), (35, u "bootLayer"), (0, u "Ljava/lang/ModuleLayer;"), (99, .class_ 664), (0, u "java/lang/System$2"), (9, u "NEVER"), (2, u "MAYBE"), (49, u "arraycopy"), (0, u "(Ljava/lang/Object;ILjava/lang/Object;II)V"), (72, .class_ 802), (0, u "java/lang/System$Logger$Level")] 31

def k13m0 : Method := { name := "<init>", desc := "()V", sig := { parameters := [], returnType := none }, accessFlags := 2, code := none }
def k13m1 : Method := { name := "arraycopy", desc := "(Ljava/lang/Object;ILjava/lang/Object;II)V", sig := { parameters := [(.object "java/lang/Object"), .int, (.object "java/lang/Object"), .int, .int], returnType := none }, accessFlags := 265, code := none }
/-- java/lang/System -/
def k13 : Class := { plain "java/lang/System" (some 0) with
  accessFlags := 49
  interfaces := #[]
  cf := some (fileOf pool13 8 #[.nestMembers #[319, 327, 801, 108, 663, 208]] #[{ accessFlags := 2, nameIndex := 5, descriptorIndex := 6, attributes := #[] }, { accessFlags := 265, nameIndex := 727, descriptorIndex := 728, attributes := #[] }] 49 2 #[] #[{ accessFlags := 25, nameIndex := 507, descriptorIndex := 526, attributes := #[] }, { accessFlags := 25, nameIndex := 399, descriptorIndex := 155, attributes := #[] }, { accessFlags := 25, nameIndex := 396, descriptorIndex := 155, attributes := #[] }, { accessFlags := 10, nameIndex := 525, descriptorIndex := 526, attributes := #[] }, { accessFlags := 26, nameIndex := 674, descriptorIndex := 12, attributes := #[] }, { accessFlags := 26, nameIndex := 677, descriptorIndex := 12, attributes := #[] }, { accessFlags := 10, nameIndex := 11, descriptorIndex := 12, attributes := #[] }, { accessFlags := 74, nameIndex := 175, descriptorIndex := 176, attributes := #[] }, { accessFlags := 10, nameIndex := 491, descriptorIndex := 222, attributes := #[] }, { accessFlags := 74, nameIndex := 29, descriptorIndex := 30, attributes := #[] }, { accessFlags := 74, nameIndex := 154, descriptorIndex := 155, attributes := #[] }, { accessFlags := 10, nameIndex := 217, descriptorIndex := 218, attributes := #[] }, { accessFlags := 10, nameIndex := 221, descriptorIndex := 222, attributes := #[] }, { accessFlags := 8, nameIndex := 562, descriptorIndex := 563, attributes := #[] }])
  fields := #[{ name := "in", type := (.object "java/io/InputStream"), accessFlags := 25, slot := 0, constantValue := 0 }, { name := "out", type := (.object "java/io/PrintStream"), accessFlags := 25, slot := 1, constantValue := 0 }, { name := "err", type := (.object "java/io/PrintStream"), accessFlags := 25, slot := 2, constantValue := 0 }, { name := "initialIn", type := (.object "java/io/InputStream"), accessFlags := 10, slot := 3, constantValue := 0 }, { name := "NEVER", type := .int, accessFlags := 26, slot := 4, constantValue := 0 }, { name := "MAYBE", type := .int, accessFlags := 26, slot := 5, constantValue := 0 }, { name := "allowSecurityManager", type := .int, accessFlags := 10, slot := 6, constantValue := 0 }, { name := "security", type := (.object "java/lang/SecurityManager"), accessFlags := 74, slot := 7, constantValue := 0 }, { name := "notSupportedJnuEncoding", type := (.object "java/lang/String"), accessFlags := 10, slot := 8, constantValue := 0 }, { name := "cons", type := (.object "java/io/Console"), accessFlags := 74, slot := 9, constantValue := 0 }, { name := "initialErrStream", type := (.object "java/io/PrintStream"), accessFlags := 74, slot := 10, constantValue := 0 }, { name := "props", type := (.object "java/util/Properties"), accessFlags := 10, slot := 11, constantValue := 0 }, { name := "lineSeparator", type := (.object "java/lang/String"), accessFlags := 10, slot := 12, constantValue := 0 }, { name := "bootLayer", type := (.object "java/lang/ModuleLayer"), accessFlags := 8, slot := 13, constantValue := 0 }]
  methods := #[k13m0, k13m1]
  instanceTypes := #[]
  staticTypes := #[(.object "java/io/InputStream"), (.object "java/io/PrintStream"), (.object "java/io/PrintStream"), (.object "java/io/InputStream"), .int, .int, .int, (.object "java/lang/SecurityManager"), (.object "java/lang/String"), (.object "java/io/Console"), (.object "java/io/PrintStream"), (.object "java/util/Properties"), (.object "java/lang/String"), (.object "java/lang/ModuleLayer")]
  resolved := Array.replicate 834 none
  statics := none }

def pool14 : Array CpInfo := pool [(2, .class_ 4), (1, u "java/lang/Object"), (0, u "<init>"), (0, u "()V"), (1, .class_ 10), (1, u "java/lang/Number"), (2, .class_ 14), (0, u "java/io/Serializable"), (0, u "serialVersionUID"), (0, u "J")] 20

def k14m0 : Method := { name := "<init>", desc := "()V", sig := { parameters := [], returnType := none }, accessFlags := 1, code := none }
/-- java/lang/Number -/
def k14 : Class := { plain "java/lang/Number" (some 0) with
  accessFlags := 1057
  interfaces := #[2]
  cf := some (fileOf pool14 8 #[] #[{ accessFlags := 1, nameIndex := 5, descriptorIndex := 6, attributes := #[] }] 1057 2 #[13] #[{ accessFlags := 26, nameIndex := 15, descriptorIndex := 16, attributes := #[] }])
  fields := #[{ name := "serialVersionUID", type := .long, accessFlags := 26, slot := 0, constantValue := 0 }]
  methods := #[k14m0]
  instanceTypes := #[]
  staticTypes := #[.long]
  resolved := Array.replicate 37 none
  statics := none }

def pool15 : Array CpInfo := pool [(1, .class_ 2), (0, u "java/lang/Integer"), (16, u "digits"), (0, u "[C"), (33, u "(I)I"), (19, u "stringSize"), (2, u "getChars"), (0, u "(II[B)I"), (4, .fieldref 1 84), (0, .nameAndType 85 86), (0, u "DigitOnes"), (0, u "[B"), (0, .fieldref 1 88), (0, .nameAndType 89 86), (0, u "DigitTens"), (99, .class_ 190), (0, u "java/lang/Integer$IntegerCache"), (3, u "I"), (8, .class_ 204), (0, u "java/lang/Number"), (2, u "value"), (94, u "TYPE"), (0, u "Ljava/lang/Class;"), (0, .class_ 305), (0, u "java/lang/Comparable"), (0, .class_ 307), (0, u "java/lang/constant/Constable"), (0, .class_ 309), (0, u "java/lang/constant/ConstantDesc"), (0, u "MIN_VALUE"), (1, u "MAX_VALUE"), (3, u "SIZE"), (1, u "BYTES"), (1, u "serialVersionUID"), (0, u "J")] 131

def k15c0 : Code := { maxStack := 4, maxLocals := 7, code := jdk_33_method_12_code, exceptionTable := #[], attributes := #[] }
def k15m0 : Method := { name := "getChars", desc := "(II[B)I", sig := { parameters := [.int, .int, (.array .byte)], returnType := some .int }, accessFlags := 8, code := some k15c0 }
def k15c1 : Code := { maxStack := 2, maxLocals := 4, code := jdk_33_method_13_code, exceptionTable := #[], attributes := #[] }
def k15m1 : Method := { name := "stringSize", desc := "(I)I", sig := { parameters := [.int], returnType := some .int }, accessFlags := 8, code := some k15c1 }
/-- java/lang/Integer -/
def k15 : Class := { plain "java/lang/Integer" (some 14) with
  accessFlags := 49
  interfaces := #[3, 5, 6]
  cf := some (fileOf pool15 1 #[.nestMembers #[189]] #[{ accessFlags := 8, nameIndex := 77, descriptorIndex := 78, attributes := #[] }, { accessFlags := 8, nameIndex := 74, descriptorIndex := 54, attributes := #[] }] 49 203 #[304, 306, 308] #[{ accessFlags := 25, nameIndex := 310, descriptorIndex := 194, attributes := #[] }, { accessFlags := 25, nameIndex := 312, descriptorIndex := 194, attributes := #[] }, { accessFlags := 25, nameIndex := 302, descriptorIndex := 303, attributes := #[] }, { accessFlags := 24, nameIndex := 19, descriptorIndex := 20, attributes := #[] }, { accessFlags := 24, nameIndex := 89, descriptorIndex := 86, attributes := #[] }, { accessFlags := 24, nameIndex := 85, descriptorIndex := 86, attributes := #[] }, { accessFlags := 18, nameIndex := 207, descriptorIndex := 194, attributes := #[] }, { accessFlags := 25, nameIndex := 316, descriptorIndex := 194, attributes := #[] }, { accessFlags := 25, nameIndex := 318, descriptorIndex := 194, attributes := #[] }, { accessFlags := 26, nameIndex := 320, descriptorIndex := 321, attributes := #[] }])
  fields := #[{ name := "MIN_VALUE", type := .int, accessFlags := 25, slot := 0, constantValue := 0 }, { name := "MAX_VALUE", type := .int, accessFlags := 25, slot := 1, constantValue := 0 }, { name := "TYPE", type := (.object "java/lang/Class"), accessFlags := 25, slot := 2, constantValue := 0 }, { name := "digits", type := (.array .char), accessFlags := 24, slot := 3, constantValue := 0 }, { name := "DigitTens", type := (.array .byte), accessFlags := 24, slot := 4, constantValue := 0 }, { name := "DigitOnes", type := (.array .byte), accessFlags := 24, slot := 5, constantValue := 0 }, { name := "value", type := .int, accessFlags := 18, slot := 0, constantValue := 0 }, { name := "SIZE", type := .int, accessFlags := 25, slot := 6, constantValue := 0 }, { name := "BYTES", type := .int, accessFlags := 25, slot := 7, constantValue := 0 }, { name := "serialVersionUID", type := .long, accessFlags := 26, slot := 8, constantValue := 0 }]
  methods := #[k15m0, k15m1]
  instanceTypes := #[.int]
  staticTypes := #[.int, .int, (.object "java/lang/Class"), (.array .char), (.array .byte), (.array .byte), .int, .int, .long]
  resolved := Array.replicate 453 none
  statics := some 1 }

def pool16 : Array CpInfo := pool [(2, .class_ 4), (1, u "java/lang/Object"), (0, u "<init>"), (0, u "()V"), (7, .class_ 16), (1, u "java/util/Arrays"), (57, .class_ 76), (1, u "java/util/Arrays$NaturalOrder"), (32, u "()Ljava/lang/Object;"), (3, .class_ 115), (1, u "java/util/Arrays$LegacyMergeSort"), (1, u "Z"), (10, .nameAndType 129 109), (0, u "clone"), (9, u "copyOfRange"), (10, .methodref 151 152), (0, .class_ 153), (0, .nameAndType 154 155), (0, u "java/lang/System"), (0, u "arraycopy"), (0, u "(Ljava/lang/Object;ILjava/lang/Object;II)V"), (146, u "copyOf"), (1, .methodref 305 306), (0, .class_ 307), (0, .nameAndType 308 309), (0, u "java/lang/Math"), (0, u "min"), (0, u "(II)I"), (0, .methodref 311 128), (0, .class_ 312), (0, u "[B"), (26, .methodref 14 340), (0, .nameAndType 341 342), (0, u "copyOfRangeByte"), (0, u "([BII)[B"), (0, .methodref 14 344), (0, .nameAndType 345 346), (0, u "checkLength"), (0, u "(II)V"), (28, .class_ 376), (0, u "java/util/Arrays$ArrayList"), (68, u "$assertionsDisabled"), (269, u "MIN_ARRAY_SORT_GRAN"), (0, u "I"), (2, u "INSERTIONSORT_THRESHOLD"), (149, u "([BI)[B"), (105, .class_ 976), (0, u "java/util/Arrays$ArrayItr")] 52

def k16m0 : Method := { name := "<init>", desc := "()V", sig := { parameters := [], returnType := none }, accessFlags := 2, code := none }
def k16c1 : Code := { maxStack := 6, maxLocals := 3, code := jdk_65_method_121_code, exceptionTable := #[], attributes := #[] }
def k16m1 : Method := { name := "copyOf", desc := "([BI)[B", sig := { parameters := [(.array .byte), .int], returnType := some (.array .byte) }, accessFlags := 9, code := some k16c1 }
def k16c2 : Code := { maxStack := 4, maxLocals := 2, code := jdk_65_method_131_code, exceptionTable := #[], attributes := #[] }
def k16m2 : Method := { name := "checkLength", desc := "(II)V", sig := { parameters := [.int, .int], returnType := none }, accessFlags := 10, code := some k16c2 }
def k16c3 : Code := { maxStack := 3, maxLocals := 3, code := jdk_65_method_132_code, exceptionTable := #[], attributes := #[] }
def k16m3 : Method := { name := "copyOfRange", desc := "([BII)[B", sig := { parameters := [(.array .byte), .int, .int], returnType := some (.array .byte) }, accessFlags := 9, code := some k16c3 }
def k16c4 : Code := { maxStack := 6, maxLocals := 5, code := jdk_65_method_133_code, exceptionTable := #[], attributes := #[] }
def k16m4 : Method := { name := "copyOfRangeByte", desc := "([BII)[B", sig := { parameters := [(.array .byte), .int, .int], returnType := some (.array .byte) }, accessFlags := 10, code := some k16c4 }
/-- java/util/Arrays -/
def k16 : Class := { plain "java/util/Arrays" (some 0) with
  accessFlags := 49
  interfaces := #[]
  cf := some (fileOf pool16 14 #[.nestMembers #[975, 375, 113, 74]] #[{ accessFlags := 2, nameIndex := 5, descriptorIndex := 6, attributes := #[] }, { accessFlags := 9, nameIndex := 302, descriptorIndex := 869, attributes := #[] }, { accessFlags := 10, nameIndex := 345, descriptorIndex := 346, attributes := #[] }, { accessFlags := 9, nameIndex := 139, descriptorIndex := 342, attributes := #[] }, { accessFlags := 10, nameIndex := 341, descriptorIndex := 342, attributes := #[] }] 49 2 #[] #[{ accessFlags := 26, nameIndex := 715, descriptorIndex := 716, attributes := #[] }, { accessFlags := 26, nameIndex := 719, descriptorIndex := 716, attributes := #[] }, { accessFlags := 4120, nameIndex := 445, descriptorIndex := 117, attributes := #[] }])
  fields := #[{ name := "MIN_ARRAY_SORT_GRAN", type := .int, accessFlags := 26, slot := 0, constantValue := 0 }, { name := "INSERTIONSORT_THRESHOLD", type := .int, accessFlags := 26, slot := 1, constantValue := 0 }, { name := "$assertionsDisabled", type := .boolean, accessFlags := 4120, slot := 2, constantValue := 0 }]
  methods := #[k16m0, k16m1, k16m2, k16m3, k16m4]
  instanceTypes := #[]
  staticTypes := #[.int, .int, .boolean]
  resolved := Array.replicate 1029 none
  statics := none }

def pool17 : Array CpInfo := pool [(1, .class_ 2), (0, u "java/lang/Math"), (1, .class_ 6), (1, u "java/lang/Object"), (0, u "<init>"), (0, u "()V"), (89, .class_ 100), (1, u "java/lang/Math$RandomNumberGeneratorHolder"), (71, u "negativeZeroFloatBits"), (0, u "J"), (2, u "negativeZeroDoubleBits"), (21, u "max"), (2, u "min"), (43, u "$assertionsDisabled"), (0, u "Z"), (88, u "(II)I"), (2, u "twoToTheDoubleScaleDown"), (0, u "D"), (4, u "twoToTheDoubleScaleUp"), (9, u "E"), (3, u "PI"), (2, u "TAU"), (2, u "DEGREES_TO_RADIANS"), (0, u "RADIANS_TO_DEGREES")] 94

def k17m0 : Method := { name := "<init>", desc := "()V", sig := { parameters := [], returnType := none }, accessFlags := 2, code := none }
def k17c1 : Code := { maxStack := 2, maxLocals := 2, code := jdk_29_method_65_code, exceptionTable := #[], attributes := #[] }
def k17m1 : Method := { name := "max", desc := "(II)I", sig := { parameters := [.int, .int], returnType := some .int }, accessFlags := 9, code := some k17c1 }
def k17c2 : Code := { maxStack := 2, maxLocals := 2, code := jdk_29_method_69_code, exceptionTable := #[], attributes := #[] }
def k17m2 : Method := { name := "min", desc := "(II)I", sig := { parameters := [.int, .int], returnType := some .int }, accessFlags := 9, code := some k17c2 }
/-- java/lang/Math -/
def k17 : Class := { plain "java/lang/Math" (some 0) with
  accessFlags := 49
  interfaces := #[]
  cf := some (fileOf pool17 1 #[.nestMembers #[98]] #[{ accessFlags := 2, nameIndex := 7, descriptorIndex := 8, attributes := #[] }, { accessFlags := 9, nameIndex := 198, descriptorIndex := 335, attributes := #[] }, { accessFlags := 9, nameIndex := 201, descriptorIndex := 335, attributes := #[] }] 49 4 #[] #[{ accessFlags := 25, nameIndex := 354, descriptorIndex := 339, attributes := #[] }, { accessFlags := 25, nameIndex := 358, descriptorIndex := 339, attributes := #[] }, { accessFlags := 25, nameIndex := 361, descriptorIndex := 339, attributes := #[] }, { accessFlags := 26, nameIndex := 364, descriptorIndex := 339, attributes := #[] }, { accessFlags := 26, nameIndex := 365, descriptorIndex := 339, attributes := #[] }, { accessFlags := 26, nameIndex := 172, descriptorIndex := 173, attributes := #[] }, { accessFlags := 26, nameIndex := 176, descriptorIndex := 173, attributes := #[] }, { accessFlags := 8, nameIndex := 344, descriptorIndex := 339, attributes := #[] }, { accessFlags := 8, nameIndex := 338, descriptorIndex := 339, attributes := #[] }, { accessFlags := 4120, nameIndex := 245, descriptorIndex := 246, attributes := #[] }])
  fields := #[{ name := "E", type := .double, accessFlags := 25, slot := 0, constantValue := 0 }, { name := "PI", type := .double, accessFlags := 25, slot := 1, constantValue := 0 }, { name := "TAU", type := .double, accessFlags := 25, slot := 2, constantValue := 0 }, { name := "DEGREES_TO_RADIANS", type := .double, accessFlags := 26, slot := 3, constantValue := 0 }, { name := "RADIANS_TO_DEGREES", type := .double, accessFlags := 26, slot := 4, constantValue := 0 }, { name := "negativeZeroFloatBits", type := .long, accessFlags := 26, slot := 5, constantValue := 0 }, { name := "negativeZeroDoubleBits", type := .long, accessFlags := 26, slot := 6, constantValue := 0 }, { name := "twoToTheDoubleScaleUp", type := .double, accessFlags := 8, slot := 7, constantValue := 0 }, { name := "twoToTheDoubleScaleDown", type := .double, accessFlags := 8, slot := 8, constantValue := 0 }, { name := "$assertionsDisabled", type := .boolean, accessFlags := 4120, slot := 9, constantValue := 0 }]
  methods := #[k17m0, k17m1, k17m2]
  instanceTypes := #[]
  staticTypes := #[.double, .double, .double, .double, .double, .long, .long, .double, .double, .boolean]
  resolved := Array.replicate 460 none
  statics := none }

def pool18 : Array CpInfo := pool [(1, .class_ 2), (0, u "java/lang/String"), (1, .class_ 6), (1, u "java/lang/Object"), (0, u "<init>"), (0, u "()V"), (0, .methodref 1 10), (0, .nameAndType 11 12), (0, u "checkIndex"), (0, u "(II)V"), (1, .class_ 16), (1, u "java/lang/StringLatin1"), (36, u "([BI)C"), (67, u "$assertionsDisabled"), (0, u "Z"), (98, .class_ 223), (1, u "java/lang/StringLatin1$LinesSpliterator"), (28, u "charAt"), (137, .class_ 391), (0, u "java/lang/StringLatin1$CharsSpliterator")] 3

def k18m0 : Method := { name := "<init>", desc := "()V", sig := { parameters := [], returnType := none }, accessFlags := 0, code := none }
def k18c1 : Code := { maxStack := 2, maxLocals := 2, code := jdk_43_method_2_code, exceptionTable := #[], attributes := #[] }
def k18m1 : Method := { name := "charAt", desc := "([BI)C", sig := { parameters := [(.array .byte), .int], returnType := some .char }, accessFlags := 9, code := some k18c1 }
/-- java/lang/StringLatin1 -/
def k18 : Class := { plain "java/lang/StringLatin1" (some 0) with
  accessFlags := 48
  interfaces := #[]
  cf := some (fileOf pool18 14 #[.nestMembers #[390, 221]] #[{ accessFlags := 0, nameIndex := 7, descriptorIndex := 8, attributes := #[] }, { accessFlags := 9, nameIndex := 252, descriptorIndex := 53, attributes := #[] }] 48 4 #[] #[{ accessFlags := 4120, nameIndex := 121, descriptorIndex := 122, attributes := #[] }])
  fields := #[{ name := "$assertionsDisabled", type := .boolean, accessFlags := 4120, slot := 0, constantValue := 0 }]
  methods := #[k18m0, k18m1]
  instanceTypes := #[]
  staticTypes := #[.boolean]
  resolved := Array.replicate 395 none
  statics := none }

def pool19 : Array CpInfo := pool [(2, .class_ 4), (1, u "java/lang/Object"), (0, u "<init>"), (0, u "()V"), (17, .class_ 26), (1, u "jdk/internal/util/Preconditions"), (6, u "checkIndex"), (21, .class_ 56), (0, u "jdk/internal/util/Preconditions$4"), (57, .class_ 115), (0, u "jdk/internal/util/Preconditions$1"), (7, u "SIOOBE_FORMATTER"), (0, u "Ljava/util/function/BiFunction;"), (0, .class_ 126), (0, u "jdk/internal/util/Preconditions$2"), (3, u "AIOOBE_FORMATTER"), (0, .class_ 132), (0, u "jdk/internal/util/Preconditions$3"), (3, u "IOOBE_FORMATTER"), (41, u "(IILjava/util/function/BiFunction;)I")] 15

def k19m0 : Method := { name := "<init>", desc := "()V", sig := { parameters := [], returnType := none }, accessFlags := 1, code := none }
def k19c1 : Code := { maxStack := 3, maxLocals := 3, code := jdk_41_method_11_code, exceptionTable := #[], attributes := #[] }
def k19m1 : Method := { name := "checkIndex", desc := "(IILjava/util/function/BiFunction;)I", sig := { parameters := [.int, .int, (.object "java/util/function/BiFunction")], returnType := some .int }, accessFlags := 9, code := some k19c1 }
/-- jdk/internal/util/Preconditions -/
def k19 : Class := { plain "jdk/internal/util/Preconditions" (some 0) with
  accessFlags := 33
  interfaces := #[]
  cf := some (fileOf pool19 24 #[.nestMembers #[55, 131, 125, 114]] #[{ accessFlags := 1, nameIndex := 5, descriptorIndex := 6, attributes := #[] }, { accessFlags := 9, nameIndex := 33, descriptorIndex := 178, attributes := #[] }] 33 2 #[] #[{ accessFlags := 25, nameIndex := 123, descriptorIndex := 124, attributes := #[] }, { accessFlags := 25, nameIndex := 130, descriptorIndex := 124, attributes := #[] }, { accessFlags := 25, nameIndex := 136, descriptorIndex := 124, attributes := #[] }])
  fields := #[{ name := "SIOOBE_FORMATTER", type := (.object "java/util/function/BiFunction"), accessFlags := 25, slot := 0, constantValue := 0 }, { name := "AIOOBE_FORMATTER", type := (.object "java/util/function/BiFunction"), accessFlags := 25, slot := 1, constantValue := 0 }, { name := "IOOBE_FORMATTER", type := (.object "java/util/function/BiFunction"), accessFlags := 25, slot := 2, constantValue := 0 }]
  methods := #[k19m0, k19m1]
  instanceTypes := #[]
  staticTypes := #[(.object "java/util/function/BiFunction"), (.object "java/util/function/BiFunction"), (.object "java/util/function/BiFunction")]
  resolved := Array.replicate 194 none
  statics := some 2 }

def pool20 : Array CpInfo := pool [(9, u "<init>"), (6, .class_ 18), (1, u "java/lang/Object"), (0, u "()V"), (1, .class_ 23), (1, u "jdk/internal/util/ArraysSupport"), (0, u "LOG2_ARRAY_LONG_INDEX_SCALE"), (0, u "I"), (2, u "U"), (0, u "Ljdk/internal/misc/Unsafe;"), (8, u "BIG_ENDIAN"), (0, u "Z"), (8, u "LOG2_BYTE_BIT_SIZE"), (4, u "LOG2_ARRAY_INT_INDEX_SCALE"), (54, u "JLA"), (0, u "Ljdk/internal/access/JavaLangAccess;"), (11, u "LOG2_ARRAY_BOOLEAN_INDEX_SCALE"), (9, u "LOG2_ARRAY_BYTE_INDEX_SCALE"), (5, u "LOG2_ARRAY_CHAR_INDEX_SCALE"), (5, u "LOG2_ARRAY_SHORT_INDEX_SCALE"), (18, u "LOG2_ARRAY_FLOAT_INDEX_SCALE"), (24, u "LOG2_ARRAY_DOUBLE_INDEX_SCALE"), (6, .methodref 195 196), (0, .class_ 197), (0, .nameAndType 198 199), (0, u "java/lang/Math"), (0, u "max"), (0, u "(II)I"), (0, .integer 2147483639), (76, u "T_BOOLEAN"), (2, u "T_CHAR"), (1, u "T_FLOAT"), (1, u "T_DOUBLE"), (1, u "T_BYTE"), (1, u "T_SHORT"), (1, u "T_INT"), (1, u "T_LONG"), (1, u "SOFT_MAX_ARRAY_LENGTH"), (56, u "newLength"), (0, u "(III)I")] 25

def k20m0 : Method := { name := "<init>", desc := "()V", sig := { parameters := [], returnType := none }, accessFlags := 2, code := none }
def k20c1 : Code := { maxStack := 3, maxLocals := 4, code := jdk_48_method_27_code, exceptionTable := #[], attributes := #[] }
def k20m1 : Method := { name := "newLength", desc := "(III)I", sig := { parameters := [.int, .int, .int], returnType := some .int }, accessFlags := 9, code := some k20c1 }
/-- jdk/internal/util/ArraysSupport -/
def k20 : Class := { plain "jdk/internal/util/ArraysSupport" (some 0) with
  accessFlags := 33
  interfaces := #[]
  cf := some (fileOf pool20 21 #[] #[{ accessFlags := 2, nameIndex := 9, descriptorIndex := 19, attributes := #[] }, { accessFlags := 9, nameIndex := 351, descriptorIndex := 352, attributes := #[] }] 33 16 #[] #[{ accessFlags := 24, nameIndex := 28, descriptorIndex := 29, attributes := #[] }, { accessFlags := 26, nameIndex := 38, descriptorIndex := 39, attributes := #[] }, { accessFlags := 25, nameIndex := 121, descriptorIndex := 25, attributes := #[] }, { accessFlags := 25, nameIndex := 131, descriptorIndex := 25, attributes := #[] }, { accessFlags := 25, nameIndex := 137, descriptorIndex := 25, attributes := #[] }, { accessFlags := 25, nameIndex := 143, descriptorIndex := 25, attributes := #[] }, { accessFlags := 25, nameIndex := 53, descriptorIndex := 25, attributes := #[] }, { accessFlags := 25, nameIndex := 24, descriptorIndex := 25, attributes := #[] }, { accessFlags := 25, nameIndex := 162, descriptorIndex := 25, attributes := #[] }, { accessFlags := 25, nameIndex := 187, descriptorIndex := 25, attributes := #[] }, { accessFlags := 26, nameIndex := 48, descriptorIndex := 25, attributes := #[] }, { accessFlags := 25, nameIndex := 277, descriptorIndex := 25, attributes := #[] }, { accessFlags := 25, nameIndex := 280, descriptorIndex := 25, attributes := #[] }, { accessFlags := 25, nameIndex := 282, descriptorIndex := 25, attributes := #[] }, { accessFlags := 25, nameIndex := 284, descriptorIndex := 25, attributes := #[] }, { accessFlags := 25, nameIndex := 286, descriptorIndex := 25, attributes := #[] }, { accessFlags := 25, nameIndex := 288, descriptorIndex := 25, attributes := #[] }, { accessFlags := 25, nameIndex := 290, descriptorIndex := 25, attributes := #[] }, { accessFlags := 25, nameIndex := 292, descriptorIndex := 25, attributes := #[] }, { accessFlags := 26, nameIndex := 108, descriptorIndex := 109, attributes := #[] }, { accessFlags := 25, nameIndex := 294, descriptorIndex := 25, attributes := #[] }])
  fields := #[{ name := "U", type := (.object "jdk/internal/misc/Unsafe"), accessFlags := 24, slot := 0, constantValue := 0 }, { name := "BIG_ENDIAN", type := .boolean, accessFlags := 26, slot := 1, constantValue := 0 }, { name := "LOG2_ARRAY_BOOLEAN_INDEX_SCALE", type := .int, accessFlags := 25, slot := 2, constantValue := 0 }, { name := "LOG2_ARRAY_BYTE_INDEX_SCALE", type := .int, accessFlags := 25, slot := 3, constantValue := 0 }, { name := "LOG2_ARRAY_CHAR_INDEX_SCALE", type := .int, accessFlags := 25, slot := 4, constantValue := 0 }, { name := "LOG2_ARRAY_SHORT_INDEX_SCALE", type := .int, accessFlags := 25, slot := 5, constantValue := 0 }, { name := "LOG2_ARRAY_INT_INDEX_SCALE", type := .int, accessFlags := 25, slot := 6, constantValue := 0 }, { name := "LOG2_ARRAY_LONG_INDEX_SCALE", type := .int, accessFlags := 25, slot := 7, constantValue := 0 }, { name := "LOG2_ARRAY_FLOAT_INDEX_SCALE", type := .int, accessFlags := 25, slot := 8, constantValue := 0 }, { name := "LOG2_ARRAY_DOUBLE_INDEX_SCALE", type := .int, accessFlags := 25, slot := 9, constantValue := 0 }, { name := "LOG2_BYTE_BIT_SIZE", type := .int, accessFlags := 26, slot := 10, constantValue := 0 }, { name := "T_BOOLEAN", type := .int, accessFlags := 25, slot := 11, constantValue := 0 }, { name := "T_CHAR", type := .int, accessFlags := 25, slot := 12, constantValue := 0 }, { name := "T_FLOAT", type := .int, accessFlags := 25, slot := 13, constantValue := 0 }, { name := "T_DOUBLE", type := .int, accessFlags := 25, slot := 14, constantValue := 0 }, { name := "T_BYTE", type := .int, accessFlags := 25, slot := 15, constantValue := 0 }, { name := "T_SHORT", type := .int, accessFlags := 25, slot := 16, constantValue := 0 }, { name := "T_INT", type := .int, accessFlags := 25, slot := 17, constantValue := 0 }, { name := "T_LONG", type := .int, accessFlags := 25, slot := 18, constantValue := 0 }, { name := "JLA", type := (.object "jdk/internal/access/JavaLangAccess"), accessFlags := 26, slot := 19, constantValue := 0 }, { name := "SOFT_MAX_ARRAY_LENGTH", type := .int, accessFlags := 25, slot := 20, constantValue := 0 }]
  methods := #[k20m0, k20m1]
  instanceTypes := #[]
  staticTypes := #[(.object "jdk/internal/misc/Unsafe"), .boolean, .int, .int, .int, .int, .int, .int, .int, .int, .int, .int, .int, .int, .int, .int, .int, .int, .int, (.object "jdk/internal/access/JavaLangAccess"), .int]
  resolved := Array.replicate 378 none
  statics := none }

def pool21 : Array CpInfo := pool [(1, .class_ 2), (0, u "java/lang/Cloneable"), (0, .class_ 4), (0, u "java/lang/Object")] 2

/-- java/lang/Cloneable -/
def k21 : Class := { plain "java/lang/Cloneable" (some 0) with
  accessFlags := 1537
  interfaces := #[]
  cf := some (fileOf pool21 1 #[] #[] 1537 3 #[] #[])
  fields := #[]
  methods := #[]
  instanceTypes := #[]
  staticTypes := #[]
  resolved := Array.replicate 7 none
  statics := none }

/-- the primitive byte -/
def k22 : Class := { plain "byte" none with kind := .primitive 'B', accessFlags := 0x411 }
/-- [B -/
def k23 : Class := { plain "[B" (some 0) with kind := .array 22 .byte, interfaces := #[21, 2], accessFlags := 1041 }

/-- the primitive char -/
def k24 : Class := { plain "char" none with kind := .primitive 'C', accessFlags := 0x411 }
/-- [C -/
def k25 : Class := { plain "[C" (some 0) with kind := .array 24 .char, interfaces := #[21, 2], accessFlags := 1041 }

/-- the primitive int -/
def k26 : Class := { plain "int" none with kind := .primitive 'I', accessFlags := 0x411 }
/-- [I -/
def k27 : Class := { plain "[I" (some 0) with kind := .array 26 .int, interfaces := #[21, 2], accessFlags := 1041 }

def heap : Heap := #[{ cls := 7, slots := #[.long 0, .int 1, .null, .int 0, .null, .int 0, .int 0], vm := .statics 7 },
  { cls := 15, slots := #[.int 0, .int 0, .null, .null, .ref 4, .ref 3, .int 0, .int 0, .long 0], vm := .statics 15 },
  { cls := 19, slots := #[.null, .null, .null], vm := .statics 19 },
  { cls := 23, slots := #[.int 48, .int 49, .int 50, .int 51, .int 52, .int 53, .int 54, .int 55, .int 56, .int 57, .int 48, .int 49, .int 50, .int 51, .int 52, .int 53, .int 54, .int 55, .int 56, .int 57, .int 48, .int 49, .int 50, .int 51, .int 52, .int 53, .int 54, .int 55, .int 56, .int 57, .int 48, .int 49, .int 50, .int 51, .int 52, .int 53, .int 54, .int 55, .int 56, .int 57, .int 48, .int 49, .int 50, .int 51, .int 52, .int 53, .int 54, .int 55, .int 56, .int 57, .int 48, .int 49, .int 50, .int 51, .int 52, .int 53, .int 54, .int 55, .int 56, .int 57, .int 48, .int 49, .int 50, .int 51, .int 52, .int 53, .int 54, .int 55, .int 56, .int 57, .int 48, .int 49, .int 50, .int 51, .int 52, .int 53, .int 54, .int 55, .int 56, .int 57, .int 48, .int 49, .int 50, .int 51, .int 52, .int 53, .int 54, .int 55, .int 56, .int 57, .int 48, .int 49, .int 50, .int 51, .int 52, .int 53, .int 54, .int 55, .int 56, .int 57], vm := .none },
  { cls := 23, slots := #[.int 48, .int 48, .int 48, .int 48, .int 48, .int 48, .int 48, .int 48, .int 48, .int 48, .int 49, .int 49, .int 49, .int 49, .int 49, .int 49, .int 49, .int 49, .int 49, .int 49, .int 50, .int 50, .int 50, .int 50, .int 50, .int 50, .int 50, .int 50, .int 50, .int 50, .int 51, .int 51, .int 51, .int 51, .int 51, .int 51, .int 51, .int 51, .int 51, .int 51, .int 52, .int 52, .int 52, .int 52, .int 52, .int 52, .int 52, .int 52, .int 52, .int 52, .int 53, .int 53, .int 53, .int 53, .int 53, .int 53, .int 53, .int 53, .int 53, .int 53, .int 54, .int 54, .int 54, .int 54, .int 54, .int 54, .int 54, .int 54, .int 54, .int 54, .int 55, .int 55, .int 55, .int 55, .int 55, .int 55, .int 55, .int 55, .int 55, .int 55, .int 56, .int 56, .int 56, .int 56, .int 56, .int 56, .int 56, .int 56, .int 56, .int 56, .int 57, .int 57, .int 57, .int 57, .int 57, .int 57, .int 57, .int 57, .int 57, .int 57], vm := .none }]
def classes : Array Class := #[k0, k1, k2, k3, k4, k5, k6, k7, k8, k9, k10, k11, k12, k13, k14, k15, k16, k17, k18, k19, k20, k21, k22, k23, k24, k25, k26, k27]
def interned : List (Array UInt16 × Addr) := []
def slotsUsed : Nat := 219
def theMethod : MethodId := ⟨1, 1⟩
def args0 : Array Value := #[.int 0, .int 0, .int 0]
def aboutOver (below : List Frame) : State where
  vm := { classes := classes, interned := interned.toArray }
  heap := heap
  slotsUsed := slotsUsed
  threads := #[{ frames := .invoking theMethod args0 :: below }]
def below0 : List Frame := [.native { method := ⟨0, 0⟩, args := #[] }]
def about1 : State := aboutOver below0
def p0 : Program := .bare "" "" ""
def e0 : Env := launch0.env 0 0 0
theorem w_frames : about1.frames = Frame.invoking theMethod args0 :: below0 := rfl
set_option maxRecDepth 65536 in
theorem w_args : argsFit about1.vm theMethod args0 = true := by decide +kernel
set_option maxRecDepth 65536 in
theorem w_heap : heapFits about1 = true := by decide +kernel
set_option maxRecDepth 65536 in
theorem w_runnable : about1.curStatus? = some .runnable := by decide +kernel
set_option maxRecDepth 65536 in
theorem w_alone : about1.alone = true := by decide +kernel
set_option maxRecDepth 65536 in
theorem w_named : about1.methodNamed? x = some theMethod := by decide +kernel
set_option maxRecDepth 65536 in
theorem w_hears : about1.hears theMethod below0 = true := by decide +kernel
set_option maxRecDepth 65536 in
theorem w_ripe : about1.ripe theMethod args0 below0 = true := by decide +kernel
theorem w_running : about1.status = .running := rfl
set_option maxRecDepth 65536 in
theorem w_room : about1.hasRoom e0.platform room_1 = true :=
  launch0.hasRoom_least _ room_1 (by decide +kernel) (by decide +kernel) (by decide +kernel) (by decide +kernel) (by decide +kernel) (by decide +kernel)
theorem allAtoms_all (ts : List Jvm.Cond) (a : Array Jvm.Value) (st : Jvm.State) : (allAtoms ts).before a st = ts.all (fun c => c.before a st) := by
  induction ts with
  | nil => rfl
  | cons c t ih =>
    show (Jvm.Cond.and c (allAtoms t)).before a st = _
    rw [Jvm.Cond.before_and, ih, List.all_cons]
def words1 : List Jvm.Cond := Jvm.Cond.code x code maxLocals ret :: tables_1
/-- a 'code' word, met by the world's own term for the bytes: nothing is compared byte by byte -/
theorem code_word {y : MethodName} {bytes : ByteArray} {mx : Nat} {rt : Option FieldType} {a : Array Value} {s : State} {m : MethodId} {meth : Method} {c : Code} (h1 : s.methodNamed? y = some m) (h2 : s.vm.method? m = some meth) (h3 : meth.code = some c) (h4 : c.code = bytes)
    (h5 : (c.maxLocals == mx && c.exceptionTable.isEmpty && decide (c.maxStack ≤ mostOperands) && decide (meth.sig.returnType = rt) && !meth.locks && decide (parseMethodDescriptor y.desc = some meth.sig)) = true) : (Jvm.Cond.code y bytes mx rt).before a s = true := by
  simp only [Bool.and_eq_true, beq_iff_eq, Bool.not_eq_true', decide_eq_true_eq] at h5
  obtain ⟨⟨⟨⟨⟨g1, g2⟩, g3⟩, g4⟩, g5⟩, g6⟩ := h5
  simp [Cond.before, Cond.holds, Cond.value, h1, h2, h3, h4, g1, g2, g3, g4, g5, g6]
def isCode : Jvm.Cond → Bool
  | .code _ _ _ _ => true
  | _ => false
theorem all_split {L : List Jvm.Cond} {P : Jvm.Cond → Bool} (h1 : L.all (fun c => isCode c || P c) = true) (h2 : ∀ c ∈ L.filter isCode, P c = true) : L.all P = true := by
  refine List.all_eq_true.mpr fun c hc => ?_
  have h := List.all_eq_true.mp h1 c hc
  rcases Bool.eq_false_or_eq_true (isCode c) with hi | hi
  · exact h2 c (List.mem_filter.mpr ⟨hc, hi⟩)
  · simpa [hi] using h
set_option maxRecDepth 65536 in
theorem w_c0 : (Jvm.Cond.code x code maxLocals ret).before args0 about1 = true := code_word (m := ⟨1, 1⟩) (meth := k1m1) (c := k1c1) (by decide +kernel) rfl rfl rfl (by decide +kernel)
set_option maxRecDepth 65536 in
theorem w_c1 : (Jvm.Cond.code ({ cls := "java/lang/String", name := "<init>", desc := "([C)V" } : Jvm.MethodName) jdk_42_method_3_code (2 : Nat) (Option.none : Option Jvm.ClassFile.FieldType)).before args0 about1 = true := code_word (m := ⟨7, 1⟩) (meth := k7m1) (c := k7c1) (by decide +kernel) rfl rfl rfl (by decide +kernel)
set_option maxRecDepth 65536 in
theorem w_c2 : (Jvm.Cond.code ({ cls := "java/lang/String", name := "<init>", desc := "([CIILjava/lang/Void;)V" } : Jvm.MethodName) jdk_42_method_149_code (6 : Nat) (Option.none : Option Jvm.ClassFile.FieldType)).before args0 about1 = true := code_word (m := ⟨7, 6⟩) (meth := k7m6) (c := k7c6) (by decide +kernel) rfl rfl rfl (by decide +kernel)
set_option maxRecDepth 65536 in
theorem w_c3 : (Jvm.Cond.code ({ cls := "java/lang/Object", name := "<init>", desc := "()V" } : Jvm.MethodName) object_method_1_code (1 : Nat) (Option.none : Option Jvm.ClassFile.FieldType)).before args0 about1 = true := code_word (m := ⟨0, 0⟩) (meth := k0m0) (c := k0c0) (by decide +kernel) rfl rfl rfl (by decide +kernel)
set_option maxRecDepth 65536 in
theorem w_c4 : (Jvm.Cond.code ({ cls := "java/lang/StringUTF16", name := "compress", desc := "([CII)[B" } : Jvm.MethodName) jdk_52_method_16_code (6 : Nat) (Option.some (Jvm.ClassFile.FieldType.array Jvm.ClassFile.FieldType.byte))).before args0 about1 = true := code_word (m := ⟨8, 2⟩) (meth := k8m2) (c := k8c2) (by decide +kernel) rfl rfl rfl (by decide +kernel)
set_option maxRecDepth 65536 in
theorem w_c5 : (Jvm.Cond.code ({ cls := "java/lang/StringUTF16", name := "compress", desc := "([CI[BII)I" } : Jvm.MethodName) jdk_52_method_21_code (7 : Nat) (Option.some Jvm.ClassFile.FieldType.int)).before args0 about1 = true := code_word (m := ⟨8, 3⟩) (meth := k8m3) (c := k8c3) (by decide +kernel) rfl rfl rfl (by decide +kernel)
set_option maxRecDepth 65536 in
theorem w_c6 : (Jvm.Cond.code ({ cls := "java/lang/StringUTF16", name := "coderFromArrayLen", desc := "([BI)B" } : Jvm.MethodName) jdk_52_method_15_code (2 : Nat) (Option.some Jvm.ClassFile.FieldType.byte)).before args0 about1 = true := code_word (m := ⟨8, 1⟩) (meth := k8m1) (c := k8c1) (by decide +kernel) rfl rfl rfl (by decide +kernel)
set_option maxRecDepth 65536 in
theorem w_c7 : (Jvm.Cond.code ({ cls := "com/example/wachter/wachter/policy/Decision", name := "allowedBy", desc := "(I)Lcom/example/wachter/wachter/policy/Decision;" } : Jvm.MethodName) prog_13_method_2_code (1 : Nat) (Option.some (Jvm.ClassFile.FieldType.object "com/example/wachter/wachter/policy/Decision"))).before args0 about1 = true := code_word (m := ⟨9, 1⟩) (meth := k9m1) (c := k9c1) (by decide +kernel) rfl rfl rfl (by decide +kernel)
set_option maxRecDepth 65536 in
theorem w_c8 : (Jvm.Cond.code ({ cls := "com/example/wachter/wachter/policy/Decision", name := "<init>", desc := "(ZLjava/lang/String;I)V" } : Jvm.MethodName) prog_13_method_1_code (4 : Nat) (Option.none : Option Jvm.ClassFile.FieldType)).before args0 about1 = true := code_word (m := ⟨9, 0⟩) (meth := k9m0) (c := k9c0) (by decide +kernel) rfl rfl rfl (by decide +kernel)
set_option maxRecDepth 65536 in
theorem w_c9 : (Jvm.Cond.code ({ cls := "com/example/wachter/wachter/policy/Decision", name := "allowed", desc := "()Z" } : Jvm.MethodName) prog_13_method_4_code (1 : Nat) (Option.some Jvm.ClassFile.FieldType.boolean)).before args0 about1 = true := code_word (m := ⟨9, 2⟩) (meth := k9m2) (c := k9c2) (by decide +kernel) rfl rfl rfl (by decide +kernel)
set_option maxRecDepth 65536 in
theorem w_c10 : (Jvm.Cond.code ({ cls := "com/example/wachter/wachter/policy/Decision", name := "because", desc := "(Ljava/lang/String;)Ljava/lang/String;" } : Jvm.MethodName) prog_13_method_5_code (2 : Nat) (Option.some (Jvm.ClassFile.FieldType.object "java/lang/String"))).before args0 about1 = true := code_word (m := ⟨9, 3⟩) (meth := k9m3) (c := k9c3) (by decide +kernel) rfl rfl rfl (by decide +kernel)
set_option maxRecDepth 65536 in
theorem w_c11 : (Jvm.Cond.code ({ cls := "java/lang/StringBuilder", name := "<init>", desc := "()V" } : Jvm.MethodName) jdk_67_method_1_code (1 : Nat) (Option.none : Option Jvm.ClassFile.FieldType)).before args0 about1 = true := code_word (m := ⟨12, 0⟩) (meth := k12m0) (c := k12c0) (by decide +kernel) rfl rfl rfl (by decide +kernel)
set_option maxRecDepth 65536 in
theorem w_c12 : (Jvm.Cond.code ({ cls := "java/lang/AbstractStringBuilder", name := "<init>", desc := "(I)V" } : Jvm.MethodName) jdk_68_method_2_code (2 : Nat) (Option.none : Option Jvm.ClassFile.FieldType)).before args0 about1 = true := code_word (m := ⟨11, 1⟩) (meth := k11m1) (c := k11c1) (by decide +kernel) rfl rfl rfl (by decide +kernel)
set_option maxRecDepth 65536 in
theorem w_c13 : (Jvm.Cond.code ({ cls := "java/lang/StringBuilder", name := "append", desc := "(Ljava/lang/String;)Ljava/lang/StringBuilder;" } : Jvm.MethodName) jdk_67_method_7_code (2 : Nat) (Option.some (Jvm.ClassFile.FieldType.object "java/lang/StringBuilder"))).before args0 about1 = true := code_word (m := ⟨12, 1⟩) (meth := k12m1) (c := k12c1) (by decide +kernel) rfl rfl rfl (by decide +kernel)
set_option maxRecDepth 65536 in
theorem w_c14 : (Jvm.Cond.code ({ cls := "java/lang/AbstractStringBuilder", name := "append", desc := "(Ljava/lang/String;)Ljava/lang/AbstractStringBuilder;" } : Jvm.MethodName) jdk_68_method_22_code (3 : Nat) (Option.some (Jvm.ClassFile.FieldType.object "java/lang/AbstractStringBuilder"))).before args0 about1 = true := code_word (m := ⟨11, 5⟩) (meth := k11m5) (c := k11c5) (by decide +kernel) rfl rfl rfl (by decide +kernel)
set_option maxRecDepth 65536 in
theorem w_c15 : (Jvm.Cond.code ({ cls := "java/lang/String", name := "length", desc := "()I" } : Jvm.MethodName) jdk_42_method_54_code (1 : Nat) (Option.some Jvm.ClassFile.FieldType.int)).before args0 about1 = true := code_word (m := ⟨7, 3⟩) (meth := k7m3) (c := k7c3) (by decide +kernel) rfl rfl rfl (by decide +kernel)
set_option maxRecDepth 65536 in
theorem w_c16 : (Jvm.Cond.code ({ cls := "java/lang/String", name := "coder", desc := "()B" } : Jvm.MethodName) jdk_42_method_152_code (1 : Nat) (Option.some Jvm.ClassFile.FieldType.byte)).before args0 about1 = true := code_word (m := ⟨7, 8⟩) (meth := k7m8) (c := k7c8) (by decide +kernel) rfl rfl rfl (by decide +kernel)
set_option maxRecDepth 65536 in
theorem w_c17 : (Jvm.Cond.code ({ cls := "java/lang/AbstractStringBuilder", name := "ensureCapacityInternal", desc := "(I)V" } : Jvm.MethodName) jdk_68_method_9_code (3 : Nat) (Option.none : Option Jvm.ClassFile.FieldType)).before args0 about1 = true := code_word (m := ⟨11, 3⟩) (meth := k11m3) (c := k11c3) (by decide +kernel) rfl rfl rfl (by decide +kernel)
set_option maxRecDepth 65536 in
theorem w_c18 : (Jvm.Cond.code ({ cls := "java/lang/AbstractStringBuilder", name := "putStringAt", desc := "(ILjava/lang/String;)V" } : Jvm.MethodName) jdk_68_method_73_code (3 : Nat) (Option.none : Option Jvm.ClassFile.FieldType)).before args0 about1 = true := code_word (m := ⟨11, 10⟩) (meth := k11m10) (c := k11c10) (by decide +kernel) rfl rfl rfl (by decide +kernel)
set_option maxRecDepth 65536 in
theorem w_c19 : (Jvm.Cond.code ({ cls := "java/lang/AbstractStringBuilder", name := "inflateIfNeededFor", desc := "(Ljava/lang/String;)V" } : Jvm.MethodName) jdk_68_method_71_code (2 : Nat) (Option.none : Option Jvm.ClassFile.FieldType)).before args0 about1 = true := code_word (m := ⟨11, 9⟩) (meth := k11m9) (c := k11c9) (by decide +kernel) rfl rfl rfl (by decide +kernel)
set_option maxRecDepth 65536 in
theorem w_c20 : (Jvm.Cond.code ({ cls := "java/lang/String", name := "getBytes", desc := "([BIB)V" } : Jvm.MethodName) jdk_42_method_147_code (4 : Nat) (Option.none : Option Jvm.ClassFile.FieldType)).before args0 about1 = true := code_word (m := ⟨7, 5⟩) (meth := k7m5) (c := k7c5) (by decide +kernel) rfl rfl rfl (by decide +kernel)
set_option maxRecDepth 65536 in
theorem w_c21 : (Jvm.Cond.code ({ cls := "java/lang/StringBuilder", name := "append", desc := "(I)Ljava/lang/StringBuilder;" } : Jvm.MethodName) jdk_67_method_15_code (2 : Nat) (Option.some (Jvm.ClassFile.FieldType.object "java/lang/StringBuilder"))).before args0 about1 = true := code_word (m := ⟨12, 2⟩) (meth := k12m2) (c := k12c2) (by decide +kernel) rfl rfl rfl (by decide +kernel)
set_option maxRecDepth 65536 in
theorem w_c22 : (Jvm.Cond.code ({ cls := "java/lang/AbstractStringBuilder", name := "append", desc := "(I)Ljava/lang/AbstractStringBuilder;" } : Jvm.MethodName) jdk_68_method_32_code (4 : Nat) (Option.some (Jvm.ClassFile.FieldType.object "java/lang/AbstractStringBuilder"))).before args0 about1 = true := code_word (m := ⟨11, 6⟩) (meth := k11m6) (c := k11c6) (by decide +kernel) rfl rfl rfl (by decide +kernel)
set_option maxRecDepth 65536 in
theorem w_c23 : (Jvm.Cond.code ({ cls := "java/lang/Integer", name := "stringSize", desc := "(I)I" } : Jvm.MethodName) jdk_33_method_13_code (4 : Nat) (Option.some Jvm.ClassFile.FieldType.int)).before args0 about1 = true := code_word (m := ⟨15, 1⟩) (meth := k15m1) (c := k15c1) (by decide +kernel) rfl rfl rfl (by decide +kernel)
set_option maxRecDepth 65536 in
theorem w_c24 : (Jvm.Cond.code ({ cls := "java/lang/AbstractStringBuilder", name := "isLatin1", desc := "()Z" } : Jvm.MethodName) jdk_68_method_68_code (1 : Nat) (Option.some Jvm.ClassFile.FieldType.boolean)).before args0 about1 = true := code_word (m := ⟨11, 8⟩) (meth := k11m8) (c := k11c8) (by decide +kernel) rfl rfl rfl (by decide +kernel)
set_option maxRecDepth 65536 in
theorem w_c25 : (Jvm.Cond.code ({ cls := "java/lang/Integer", name := "getChars", desc := "(II[B)I" } : Jvm.MethodName) jdk_33_method_12_code (7 : Nat) (Option.some Jvm.ClassFile.FieldType.int)).before args0 about1 = true := code_word (m := ⟨15, 0⟩) (meth := k15m0) (c := k15c0) (by decide +kernel) rfl rfl rfl (by decide +kernel)
set_option maxRecDepth 65536 in
theorem w_c26 : (Jvm.Cond.code ({ cls := "java/lang/StringBuilder", name := "toString", desc := "()Ljava/lang/String;" } : Jvm.MethodName) jdk_67_method_42_code (1 : Nat) (Option.some (Jvm.ClassFile.FieldType.object "java/lang/String"))).before args0 about1 = true := code_word (m := ⟨12, 3⟩) (meth := k12m3) (c := k12c3) (by decide +kernel) rfl rfl rfl (by decide +kernel)
set_option maxRecDepth 65536 in
theorem w_c27 : (Jvm.Cond.code ({ cls := "java/lang/String", name := "<init>", desc := "(Ljava/lang/StringBuilder;)V" } : Jvm.MethodName) jdk_42_method_53_code (2 : Nat) (Option.none : Option Jvm.ClassFile.FieldType)).before args0 about1 = true := code_word (m := ⟨7, 2⟩) (meth := k7m2) (c := k7c2) (by decide +kernel) rfl rfl rfl (by decide +kernel)
set_option maxRecDepth 65536 in
theorem w_c28 : (Jvm.Cond.code ({ cls := "java/lang/String", name := "<init>", desc := "(Ljava/lang/AbstractStringBuilder;Ljava/lang/Void;)V" } : Jvm.MethodName) jdk_42_method_150_code (5 : Nat) (Option.none : Option Jvm.ClassFile.FieldType)).before args0 about1 = true := code_word (m := ⟨7, 7⟩) (meth := k7m7) (c := k7c7) (by decide +kernel) rfl rfl rfl (by decide +kernel)
set_option maxRecDepth 65536 in
theorem w_c29 : (Jvm.Cond.code ({ cls := "java/lang/AbstractStringBuilder", name := "getValue", desc := "()[B" } : Jvm.MethodName) jdk_68_method_64_code (1 : Nat) (Option.some (Jvm.ClassFile.FieldType.array Jvm.ClassFile.FieldType.byte))).before args0 about1 = true := code_word (m := ⟨11, 7⟩) (meth := k11m7) (c := k11c7) (by decide +kernel) rfl rfl rfl (by decide +kernel)
set_option maxRecDepth 65536 in
theorem w_c30 : (Jvm.Cond.code ({ cls := "java/lang/StringBuilder", name := "length", desc := "()I" } : Jvm.MethodName) jdk_67_method_93_code (1 : Nat) (Option.some Jvm.ClassFile.FieldType.int)).before args0 about1 = true := code_word (m := ⟨12, 4⟩) (meth := k12m4) (c := k12c4) (by decide +kernel) rfl rfl rfl (by decide +kernel)
set_option maxRecDepth 65536 in
theorem w_c31 : (Jvm.Cond.code ({ cls := "java/lang/AbstractStringBuilder", name := "length", desc := "()I" } : Jvm.MethodName) jdk_68_method_6_code (1 : Nat) (Option.some Jvm.ClassFile.FieldType.int)).before args0 about1 = true := code_word (m := ⟨11, 2⟩) (meth := k11m2) (c := k11c2) (by decide +kernel) rfl rfl rfl (by decide +kernel)
set_option maxRecDepth 65536 in
theorem w_c32 : (Jvm.Cond.code ({ cls := "java/util/Arrays", name := "copyOfRange", desc := "([BII)[B" } : Jvm.MethodName) jdk_65_method_132_code (3 : Nat) (Option.some (Jvm.ClassFile.FieldType.array Jvm.ClassFile.FieldType.byte))).before args0 about1 = true := code_word (m := ⟨16, 3⟩) (meth := k16m3) (c := k16c3) (by decide +kernel) rfl rfl rfl (by decide +kernel)
set_option maxRecDepth 65536 in
theorem w_c33 : (Jvm.Cond.code ({ cls := "java/util/Arrays", name := "copyOfRangeByte", desc := "([BII)[B" } : Jvm.MethodName) jdk_65_method_133_code (5 : Nat) (Option.some (Jvm.ClassFile.FieldType.array Jvm.ClassFile.FieldType.byte))).before args0 about1 = true := code_word (m := ⟨16, 4⟩) (meth := k16m4) (c := k16c4) (by decide +kernel) rfl rfl rfl (by decide +kernel)
set_option maxRecDepth 65536 in
theorem w_c34 : (Jvm.Cond.code ({ cls := "java/util/Arrays", name := "checkLength", desc := "(II)V" } : Jvm.MethodName) jdk_65_method_131_code (2 : Nat) (Option.none : Option Jvm.ClassFile.FieldType)).before args0 about1 = true := code_word (m := ⟨16, 2⟩) (meth := k16m2) (c := k16c2) (by decide +kernel) rfl rfl rfl (by decide +kernel)
set_option maxRecDepth 65536 in
theorem w_c35 : (Jvm.Cond.code ({ cls := "java/lang/Math", name := "min", desc := "(II)I" } : Jvm.MethodName) jdk_29_method_69_code (2 : Nat) (Option.some Jvm.ClassFile.FieldType.int)).before args0 about1 = true := code_word (m := ⟨17, 2⟩) (meth := k17m2) (c := k17c2) (by decide +kernel) rfl rfl rfl (by decide +kernel)
set_option maxRecDepth 65536 in
theorem w_c36 : (Jvm.Cond.code ({ cls := "com/example/wachter/wachter/policy/DecisionAllowedByPinLaw", name := "numDigits", desc := "(I)I" } : Jvm.MethodName) method_4_code (1 : Nat) (Option.some Jvm.ClassFile.FieldType.int)).before args0 about1 = true := code_word (m := ⟨1, 3⟩) (meth := k1m3) (c := k1c3) (by decide +kernel) rfl rfl rfl (by decide +kernel)
set_option maxRecDepth 65536 in
theorem w_c37 : (Jvm.Cond.code ({ cls := "com/example/wachter/wachter/policy/DecisionAllowedByPinLaw", name := "same", desc := "(Ljava/lang/String;Ljava/lang/String;I)Z" } : Jvm.MethodName) method_3_code (3 : Nat) (Option.some Jvm.ClassFile.FieldType.boolean)).before args0 about1 = true := code_word (m := ⟨1, 2⟩) (meth := k1m2) (c := k1c2) (by decide +kernel) rfl rfl rfl (by decide +kernel)
set_option maxRecDepth 65536 in
theorem w_c38 : (Jvm.Cond.code ({ cls := "java/lang/String", name := "charAt", desc := "(I)C" } : Jvm.MethodName) jdk_42_method_56_code (2 : Nat) (Option.some Jvm.ClassFile.FieldType.char)).before args0 about1 = true := code_word (m := ⟨7, 4⟩) (meth := k7m4) (c := k7c4) (by decide +kernel) rfl rfl rfl (by decide +kernel)
set_option maxRecDepth 65536 in
theorem w_c39 : (Jvm.Cond.code ({ cls := "java/lang/String", name := "isLatin1", desc := "()Z" } : Jvm.MethodName) jdk_42_method_154_code (1 : Nat) (Option.some Jvm.ClassFile.FieldType.boolean)).before args0 about1 = true := code_word (m := ⟨7, 9⟩) (meth := k7m9) (c := k7c9) (by decide +kernel) rfl rfl rfl (by decide +kernel)
set_option maxRecDepth 65536 in
theorem w_c40 : (Jvm.Cond.code ({ cls := "java/lang/StringLatin1", name := "charAt", desc := "([BI)C" } : Jvm.MethodName) jdk_43_method_2_code (2 : Nat) (Option.some Jvm.ClassFile.FieldType.char)).before args0 about1 = true := code_word (m := ⟨18, 1⟩) (meth := k18m1) (c := k18c1) (by decide +kernel) rfl rfl rfl (by decide +kernel)
set_option maxRecDepth 65536 in
theorem w_c41 : (Jvm.Cond.code ({ cls := "java/lang/String", name := "checkIndex", desc := "(II)V" } : Jvm.MethodName) jdk_42_method_155_code (2 : Nat) (Option.none : Option Jvm.ClassFile.FieldType)).before args0 about1 = true := code_word (m := ⟨7, 10⟩) (meth := k7m10) (c := k7c10) (by decide +kernel) rfl rfl rfl (by decide +kernel)
set_option maxRecDepth 65536 in
theorem w_c42 : (Jvm.Cond.code ({ cls := "jdk/internal/util/Preconditions", name := "checkIndex", desc := "(IILjava/util/function/BiFunction;)I" } : Jvm.MethodName) jdk_41_method_11_code (3 : Nat) (Option.some Jvm.ClassFile.FieldType.int)).before args0 about1 = true := code_word (m := ⟨19, 1⟩) (meth := k19m1) (c := k19c1) (by decide +kernel) rfl rfl rfl (by decide +kernel)
set_option maxRecDepth 65536 in
theorem w_c43 : (Jvm.Cond.code ({ cls := "com/example/wachter/wachter/policy/DecisionAllowedByPinLaw", name := "digitOk", desc := "(Ljava/lang/String;III)Z" } : Jvm.MethodName) method_5_code (7 : Nat) (Option.some Jvm.ClassFile.FieldType.boolean)).before args0 about1 = true := code_word (m := ⟨1, 4⟩) (meth := k1m4) (c := k1c4) (by decide +kernel) rfl rfl rfl (by decide +kernel)
set_option maxRecDepth 65536 in
theorem w_c44 : (Jvm.Cond.code ({ cls := "java/lang/AbstractStringBuilder", name := "newCapacity", desc := "(I)I" } : Jvm.MethodName) jdk_68_method_10_code (6 : Nat) (Option.some Jvm.ClassFile.FieldType.int)).before args0 about1 = true := code_word (m := ⟨11, 4⟩) (meth := k11m4) (c := k11c4) (by decide +kernel) rfl rfl rfl (by decide +kernel)
set_option maxRecDepth 65536 in
theorem w_c45 : (Jvm.Cond.code ({ cls := "jdk/internal/util/ArraysSupport", name := "newLength", desc := "(III)I" } : Jvm.MethodName) jdk_48_method_27_code (4 : Nat) (Option.some Jvm.ClassFile.FieldType.int)).before args0 about1 = true := code_word (m := ⟨20, 1⟩) (meth := k20m1) (c := k20c1) (by decide +kernel) rfl rfl rfl (by decide +kernel)
set_option maxRecDepth 65536 in
theorem w_c46 : (Jvm.Cond.code ({ cls := "java/lang/Math", name := "max", desc := "(II)I" } : Jvm.MethodName) jdk_29_method_65_code (2 : Nat) (Option.some Jvm.ClassFile.FieldType.int)).before args0 about1 = true := code_word (m := ⟨17, 1⟩) (meth := k17m1) (c := k17c1) (by decide +kernel) rfl rfl rfl (by decide +kernel)
set_option maxRecDepth 65536 in
theorem w_c47 : (Jvm.Cond.code ({ cls := "java/util/Arrays", name := "copyOf", desc := "([BI)[B" } : Jvm.MethodName) jdk_65_method_121_code (3 : Nat) (Option.some (Jvm.ClassFile.FieldType.array Jvm.ClassFile.FieldType.byte))).before args0 about1 = true := code_word (m := ⟨16, 1⟩) (meth := k16m1) (c := k16c1) (by decide +kernel) rfl rfl rfl (by decide +kernel)
def codes1 : List Jvm.Cond := [Jvm.Cond.code x code maxLocals ret, Jvm.Cond.code ({ cls := "java/lang/String", name := "<init>", desc := "([C)V" } : Jvm.MethodName) jdk_42_method_3_code (2 : Nat) (Option.none : Option Jvm.ClassFile.FieldType), Jvm.Cond.code ({ cls := "java/lang/String", name := "<init>", desc := "([CIILjava/lang/Void;)V" } : Jvm.MethodName) jdk_42_method_149_code (6 : Nat) (Option.none : Option Jvm.ClassFile.FieldType), Jvm.Cond.code ({ cls := "java/lang/Object", name := "<init>", desc := "()V" } : Jvm.MethodName) object_method_1_code (1 : Nat) (Option.none : Option Jvm.ClassFile.FieldType), Jvm.Cond.code ({ cls := "java/lang/StringUTF16", name := "compress", desc := "([CII)[B" } : Jvm.MethodName) jdk_52_method_16_code (6 : Nat) (Option.some (Jvm.ClassFile.FieldType.array Jvm.ClassFile.FieldType.byte)), Jvm.Cond.code ({ cls := "java/lang/StringUTF16", name := "compress", desc := "([CI[BII)I" } : Jvm.MethodName) jdk_52_method_21_code (7 : Nat) (Option.some Jvm.ClassFile.FieldType.int), Jvm.Cond.code ({ cls := "java/lang/StringUTF16", name := "coderFromArrayLen", desc := "([BI)B" } : Jvm.MethodName) jdk_52_method_15_code (2 : Nat) (Option.some Jvm.ClassFile.FieldType.byte), Jvm.Cond.code ({ cls := "com/example/wachter/wachter/policy/Decision", name := "allowedBy", desc := "(I)Lcom/example/wachter/wachter/policy/Decision;" } : Jvm.MethodName) prog_13_method_2_code (1 : Nat) (Option.some (Jvm.ClassFile.FieldType.object "com/example/wachter/wachter/policy/Decision")), Jvm.Cond.code ({ cls := "com/example/wachter/wachter/policy/Decision", name := "<init>", desc := "(ZLjava/lang/String;I)V" } : Jvm.MethodName) prog_13_method_1_code (4 : Nat) (Option.none : Option Jvm.ClassFile.FieldType), Jvm.Cond.code ({ cls := "com/example/wachter/wachter/policy/Decision", name := "allowed", desc := "()Z" } : Jvm.MethodName) prog_13_method_4_code (1 : Nat) (Option.some Jvm.ClassFile.FieldType.boolean), Jvm.Cond.code ({ cls := "com/example/wachter/wachter/policy/Decision", name := "because", desc := "(Ljava/lang/String;)Ljava/lang/String;" } : Jvm.MethodName) prog_13_method_5_code (2 : Nat) (Option.some (Jvm.ClassFile.FieldType.object "java/lang/String")), Jvm.Cond.code ({ cls := "java/lang/StringBuilder", name := "<init>", desc := "()V" } : Jvm.MethodName) jdk_67_method_1_code (1 : Nat) (Option.none : Option Jvm.ClassFile.FieldType), Jvm.Cond.code ({ cls := "java/lang/AbstractStringBuilder", name := "<init>", desc := "(I)V" } : Jvm.MethodName) jdk_68_method_2_code (2 : Nat) (Option.none : Option Jvm.ClassFile.FieldType), Jvm.Cond.code ({ cls := "java/lang/StringBuilder", name := "append", desc := "(Ljava/lang/String;)Ljava/lang/StringBuilder;" } : Jvm.MethodName) jdk_67_method_7_code (2 : Nat) (Option.some (Jvm.ClassFile.FieldType.object "java/lang/StringBuilder")), Jvm.Cond.code ({ cls := "java/lang/AbstractStringBuilder", name := "append", desc := "(Ljava/lang/String;)Ljava/lang/AbstractStringBuilder;" } : Jvm.MethodName) jdk_68_method_22_code (3 : Nat) (Option.some (Jvm.ClassFile.FieldType.object "java/lang/AbstractStringBuilder")), Jvm.Cond.code ({ cls := "java/lang/String", name := "length", desc := "()I" } : Jvm.MethodName) jdk_42_method_54_code (1 : Nat) (Option.some Jvm.ClassFile.FieldType.int), Jvm.Cond.code ({ cls := "java/lang/String", name := "coder", desc := "()B" } : Jvm.MethodName) jdk_42_method_152_code (1 : Nat) (Option.some Jvm.ClassFile.FieldType.byte), Jvm.Cond.code ({ cls := "java/lang/AbstractStringBuilder", name := "ensureCapacityInternal", desc := "(I)V" } : Jvm.MethodName) jdk_68_method_9_code (3 : Nat) (Option.none : Option Jvm.ClassFile.FieldType), Jvm.Cond.code ({ cls := "java/lang/AbstractStringBuilder", name := "putStringAt", desc := "(ILjava/lang/String;)V" } : Jvm.MethodName) jdk_68_method_73_code (3 : Nat) (Option.none : Option Jvm.ClassFile.FieldType), Jvm.Cond.code ({ cls := "java/lang/AbstractStringBuilder", name := "inflateIfNeededFor", desc := "(Ljava/lang/String;)V" } : Jvm.MethodName) jdk_68_method_71_code (2 : Nat) (Option.none : Option Jvm.ClassFile.FieldType), Jvm.Cond.code ({ cls := "java/lang/String", name := "getBytes", desc := "([BIB)V" } : Jvm.MethodName) jdk_42_method_147_code (4 : Nat) (Option.none : Option Jvm.ClassFile.FieldType), Jvm.Cond.code ({ cls := "java/lang/StringBuilder", name := "append", desc := "(I)Ljava/lang/StringBuilder;" } : Jvm.MethodName) jdk_67_method_15_code (2 : Nat) (Option.some (Jvm.ClassFile.FieldType.object "java/lang/StringBuilder")), Jvm.Cond.code ({ cls := "java/lang/AbstractStringBuilder", name := "append", desc := "(I)Ljava/lang/AbstractStringBuilder;" } : Jvm.MethodName) jdk_68_method_32_code (4 : Nat) (Option.some (Jvm.ClassFile.FieldType.object "java/lang/AbstractStringBuilder")), Jvm.Cond.code ({ cls := "java/lang/Integer", name := "stringSize", desc := "(I)I" } : Jvm.MethodName) jdk_33_method_13_code (4 : Nat) (Option.some Jvm.ClassFile.FieldType.int), Jvm.Cond.code ({ cls := "java/lang/AbstractStringBuilder", name := "isLatin1", desc := "()Z" } : Jvm.MethodName) jdk_68_method_68_code (1 : Nat) (Option.some Jvm.ClassFile.FieldType.boolean), Jvm.Cond.code ({ cls := "java/lang/Integer", name := "getChars", desc := "(II[B)I" } : Jvm.MethodName) jdk_33_method_12_code (7 : Nat) (Option.some Jvm.ClassFile.FieldType.int), Jvm.Cond.code ({ cls := "java/lang/StringBuilder", name := "toString", desc := "()Ljava/lang/String;" } : Jvm.MethodName) jdk_67_method_42_code (1 : Nat) (Option.some (Jvm.ClassFile.FieldType.object "java/lang/String")), Jvm.Cond.code ({ cls := "java/lang/String", name := "<init>", desc := "(Ljava/lang/StringBuilder;)V" } : Jvm.MethodName) jdk_42_method_53_code (2 : Nat) (Option.none : Option Jvm.ClassFile.FieldType), Jvm.Cond.code ({ cls := "java/lang/String", name := "<init>", desc := "(Ljava/lang/AbstractStringBuilder;Ljava/lang/Void;)V" } : Jvm.MethodName) jdk_42_method_150_code (5 : Nat) (Option.none : Option Jvm.ClassFile.FieldType), Jvm.Cond.code ({ cls := "java/lang/AbstractStringBuilder", name := "getValue", desc := "()[B" } : Jvm.MethodName) jdk_68_method_64_code (1 : Nat) (Option.some (Jvm.ClassFile.FieldType.array Jvm.ClassFile.FieldType.byte)), Jvm.Cond.code ({ cls := "java/lang/StringBuilder", name := "length", desc := "()I" } : Jvm.MethodName) jdk_67_method_93_code (1 : Nat) (Option.some Jvm.ClassFile.FieldType.int), Jvm.Cond.code ({ cls := "java/lang/AbstractStringBuilder", name := "length", desc := "()I" } : Jvm.MethodName) jdk_68_method_6_code (1 : Nat) (Option.some Jvm.ClassFile.FieldType.int), Jvm.Cond.code ({ cls := "java/util/Arrays", name := "copyOfRange", desc := "([BII)[B" } : Jvm.MethodName) jdk_65_method_132_code (3 : Nat) (Option.some (Jvm.ClassFile.FieldType.array Jvm.ClassFile.FieldType.byte)), Jvm.Cond.code ({ cls := "java/util/Arrays", name := "copyOfRangeByte", desc := "([BII)[B" } : Jvm.MethodName) jdk_65_method_133_code (5 : Nat) (Option.some (Jvm.ClassFile.FieldType.array Jvm.ClassFile.FieldType.byte)), Jvm.Cond.code ({ cls := "java/util/Arrays", name := "checkLength", desc := "(II)V" } : Jvm.MethodName) jdk_65_method_131_code (2 : Nat) (Option.none : Option Jvm.ClassFile.FieldType), Jvm.Cond.code ({ cls := "java/lang/Math", name := "min", desc := "(II)I" } : Jvm.MethodName) jdk_29_method_69_code (2 : Nat) (Option.some Jvm.ClassFile.FieldType.int), Jvm.Cond.code ({ cls := "com/example/wachter/wachter/policy/DecisionAllowedByPinLaw", name := "numDigits", desc := "(I)I" } : Jvm.MethodName) method_4_code (1 : Nat) (Option.some Jvm.ClassFile.FieldType.int), Jvm.Cond.code ({ cls := "com/example/wachter/wachter/policy/DecisionAllowedByPinLaw", name := "same", desc := "(Ljava/lang/String;Ljava/lang/String;I)Z" } : Jvm.MethodName) method_3_code (3 : Nat) (Option.some Jvm.ClassFile.FieldType.boolean), Jvm.Cond.code ({ cls := "java/lang/String", name := "charAt", desc := "(I)C" } : Jvm.MethodName) jdk_42_method_56_code (2 : Nat) (Option.some Jvm.ClassFile.FieldType.char), Jvm.Cond.code ({ cls := "java/lang/String", name := "isLatin1", desc := "()Z" } : Jvm.MethodName) jdk_42_method_154_code (1 : Nat) (Option.some Jvm.ClassFile.FieldType.boolean), Jvm.Cond.code ({ cls := "java/lang/StringLatin1", name := "charAt", desc := "([BI)C" } : Jvm.MethodName) jdk_43_method_2_code (2 : Nat) (Option.some Jvm.ClassFile.FieldType.char), Jvm.Cond.code ({ cls := "java/lang/String", name := "checkIndex", desc := "(II)V" } : Jvm.MethodName) jdk_42_method_155_code (2 : Nat) (Option.none : Option Jvm.ClassFile.FieldType), Jvm.Cond.code ({ cls := "jdk/internal/util/Preconditions", name := "checkIndex", desc := "(IILjava/util/function/BiFunction;)I" } : Jvm.MethodName) jdk_41_method_11_code (3 : Nat) (Option.some Jvm.ClassFile.FieldType.int), Jvm.Cond.code ({ cls := "com/example/wachter/wachter/policy/DecisionAllowedByPinLaw", name := "digitOk", desc := "(Ljava/lang/String;III)Z" } : Jvm.MethodName) method_5_code (7 : Nat) (Option.some Jvm.ClassFile.FieldType.boolean), Jvm.Cond.code ({ cls := "java/lang/AbstractStringBuilder", name := "newCapacity", desc := "(I)I" } : Jvm.MethodName) jdk_68_method_10_code (6 : Nat) (Option.some Jvm.ClassFile.FieldType.int), Jvm.Cond.code ({ cls := "jdk/internal/util/ArraysSupport", name := "newLength", desc := "(III)I" } : Jvm.MethodName) jdk_48_method_27_code (4 : Nat) (Option.some Jvm.ClassFile.FieldType.int), Jvm.Cond.code ({ cls := "java/lang/Math", name := "max", desc := "(II)I" } : Jvm.MethodName) jdk_29_method_65_code (2 : Nat) (Option.some Jvm.ClassFile.FieldType.int), Jvm.Cond.code ({ cls := "java/util/Arrays", name := "copyOf", desc := "([BI)[B" } : Jvm.MethodName) jdk_65_method_121_code (3 : Nat) (Option.some (Jvm.ClassFile.FieldType.array Jvm.ClassFile.FieldType.byte))]
set_option maxRecDepth 65536 in
theorem codes_eq : words1.filter isCode = codes1 := rfl
theorem w_codes : ∀ c ∈ words1.filter isCode, c.before args0 about1 = true := by
  rw [codes_eq]
  intro c hc
  simp only [codes1, List.mem_cons, List.not_mem_nil, or_false] at hc
  rcases hc with rfl | rfl | rfl | rfl | rfl | rfl | rfl | rfl | rfl | rfl | rfl | rfl | rfl | rfl | rfl | rfl | rfl | rfl | rfl | rfl | rfl | rfl | rfl | rfl | rfl | rfl | rfl | rfl | rfl | rfl | rfl | rfl | rfl | rfl | rfl | rfl | rfl | rfl | rfl | rfl | rfl | rfl | rfl | rfl | rfl | rfl | rfl | rfl
  · exact w_c0
  · exact w_c1
  · exact w_c2
  · exact w_c3
  · exact w_c4
  · exact w_c5
  · exact w_c6
  · exact w_c7
  · exact w_c8
  · exact w_c9
  · exact w_c10
  · exact w_c11
  · exact w_c12
  · exact w_c13
  · exact w_c14
  · exact w_c15
  · exact w_c16
  · exact w_c17
  · exact w_c18
  · exact w_c19
  · exact w_c20
  · exact w_c21
  · exact w_c22
  · exact w_c23
  · exact w_c24
  · exact w_c25
  · exact w_c26
  · exact w_c27
  · exact w_c28
  · exact w_c29
  · exact w_c30
  · exact w_c31
  · exact w_c32
  · exact w_c33
  · exact w_c34
  · exact w_c35
  · exact w_c36
  · exact w_c37
  · exact w_c38
  · exact w_c39
  · exact w_c40
  · exact w_c41
  · exact w_c42
  · exact w_c43
  · exact w_c44
  · exact w_c45
  · exact w_c46
  · exact w_c47
set_option maxRecDepth 65536 in
theorem w_t1 : (words1.take 24).all (fun c => isCode c || c.before args0 about1) = true := by decide +kernel
set_option maxRecDepth 65536 in
theorem w_t2 : ((words1.drop 24).take 24).all (fun c => isCode c || c.before args0 about1) = true := by decide +kernel
set_option maxRecDepth 65536 in
theorem w_t3 : (((words1.drop 24).drop 24).take 24).all (fun c => isCode c || c.before args0 about1) = true := by decide +kernel
set_option maxRecDepth 65536 in
theorem w_t4 : ((((words1.drop 24).drop 24).drop 24).take 24).all (fun c => isCode c || c.before args0 about1) = true := by decide +kernel
set_option maxRecDepth 65536 in
theorem w_t5 : (((((words1.drop 24).drop 24).drop 24).drop 24).take 24).all (fun c => isCode c || c.before args0 about1) = true := by decide +kernel
set_option maxRecDepth 65536 in
theorem w_t6 : ((((((words1.drop 24).drop 24).drop 24).drop 24).drop 24).take 24).all (fun c => isCode c || c.before args0 about1) = true := by decide +kernel
set_option maxRecDepth 65536 in
theorem w_t7 : (((((((words1.drop 24).drop 24).drop 24).drop 24).drop 24).drop 24).take 24).all (fun c => isCode c || c.before args0 about1) = true := by decide +kernel
set_option maxRecDepth 65536 in
theorem w_t8 : ((((((((words1.drop 24).drop 24).drop 24).drop 24).drop 24).drop 24).drop 24).take 24).all (fun c => isCode c || c.before args0 about1) = true := by decide +kernel
set_option maxRecDepth 65536 in
theorem w_t9 : (((((((((words1.drop 24).drop 24).drop 24).drop 24).drop 24).drop 24).drop 24).drop 24).take 24).all (fun c => isCode c || c.before args0 about1) = true := by decide +kernel
set_option maxRecDepth 65536 in
theorem w_t10 : ((((((((((words1.drop 24).drop 24).drop 24).drop 24).drop 24).drop 24).drop 24).drop 24).drop 24).take 24).all (fun c => isCode c || c.before args0 about1) = true := by decide +kernel
set_option maxRecDepth 65536 in
theorem w_t11 : ((((((((((words1.drop 24).drop 24).drop 24).drop 24).drop 24).drop 24).drop 24).drop 24).drop 24).drop 24).all (fun c => isCode c || c.before args0 about1) = true := by decide +kernel
theorem w_tables : (allAtoms (Jvm.Cond.code x code maxLocals ret :: tables_1)).before args0 about1 = true := by
  rw [allAtoms_all]
  show words1.all (fun c => c.before args0 about1) = true
  refine all_split ?_ w_codes
  rw [← List.take_append_drop 24 words1, List.all_append, w_t1, ← List.take_append_drop 24 (words1.drop 24), List.all_append, w_t2, ← List.take_append_drop 24 ((words1.drop 24).drop 24), List.all_append, w_t3, ← List.take_append_drop 24 (((words1.drop 24).drop 24).drop 24), List.all_append, w_t4, ← List.take_append_drop 24 ((((words1.drop 24).drop 24).drop 24).drop 24), List.all_append, w_t5, ← List.take_append_drop 24 (((((words1.drop 24).drop 24).drop 24).drop 24).drop 24), List.all_append, w_t6, ← List.take_append_drop 24 ((((((words1.drop 24).drop 24).drop 24).drop 24).drop 24).drop 24), List.all_append, w_t7, ← List.take_append_drop 24 (((((((words1.drop 24).drop 24).drop 24).drop 24).drop 24).drop 24).drop 24), List.all_append, w_t8, ← List.take_append_drop 24 ((((((((words1.drop 24).drop 24).drop 24).drop 24).drop 24).drop 24).drop 24).drop 24), List.all_append, w_t9, ← List.take_append_drop 24 (((((((((words1.drop 24).drop 24).drop 24).drop 24).drop 24).drop 24).drop 24).drop 24).drop 24), List.all_append, w_t10, w_t11]
  rfl
set_option maxRecDepth 65536 in
theorem w_rest : rest_1_c.before args0 about1 = true := by decide +kernel
set_option maxRecDepth 65536 in
theorem w_case : (Jvm.Cond.and given_1 narrow_1).before args0 about1 = true := by decide +kernel
set_option maxRecDepth 65536 in
theorem w_consts : constsHeld consts_1 about1 := Jvm.Lit.constsHeldB_iff.mp (by decide +kernel)
theorem w_applies : (headSpec (Jvm.Cond.code x code maxLocals ret :: tables_1) room_1).applies x e0.platform about1 = true :=
  (Spec.applies_iff w_frames).mpr ⟨w_running, w_runnable, w_alone, w_named, w_hears, w_ripe, w_room, w_tables⟩
theorem atStart : AtStart classFile x code maxLocals ret World_1 tables_1 room_1 Calls_1 rest_1 Pre_1 launch0 p0 e0 about1 theMethod args0 below0 :=
  ⟨lists_1, trivial, launch0.admits_env _ _ _, launch0.least_env, fairChoices_fair.cas, fairChoices_fair.clock, w_frames, w_args, w_heap, w_applies, ⟨w_consts, trivial⟩, w_rest, w_case⟩
end start1
theorem witness_1 : WitnessClaimed_1 := ⟨start1.p0, start1.e0, start1.about1, start1.theMethod, start1.args0, start1.below0, start1.atStart⟩
end Jvm.Pilot.@@N@@
