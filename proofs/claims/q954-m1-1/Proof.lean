import JvmDerived
import JvmDerived.Pilot.@@N@@Statement
import JvmDerived.Pilot.@@N@@Code
set_option linter.unusedVariables false
set_option linter.unusedSimpArgs false
namespace Jvm.OwnKit
open Jvm Sem ClassFile Op Lib Jvm.Stand Jvm.Free Jvm.LawKit Jvm.RoadKit Bundle
/-- the rest of the walk comes to an end that Q allows -/
def Go (p : Program) (e : Env) (below : List Frame) (Q : Outcome → State → Prop) (t : State) : Prop :=
  ∃ s₂ o, Steps p.tables e below t s₂ ∧ s₂.status = .running ∧ Ended s₂ below o ∧ Q o s₂
theorem Go.of {p : Program} {e : Env} {below : List Frame} {Q : Outcome → State → Prop} {t t' : State} (h : ∀ target, Steps p.tables e below t' target → Steps p.tables e below t target) (g : Go p e below Q t') : Go p e below Q t := by
  obtain ⟨s₂, o, h1, r⟩ := g
  exact ⟨s₂, o, h _ h1, r⟩
def VW (vm vm1 : Vm) : Prop := ∀ s : State, s.vm = vm → s.WarmedH vm1
theorem wh_vm {s s' : State} (e : s'.vm = s.vm) {vm1 : Vm} (h : s.WarmedH vm1) : s'.WarmedH vm1 := by
  have q : ∀ d i r, s'.rightAt d i r = s.rightAt d i r := fun d i r => by
    unfold State.rightAt State.methodFound? State.fieldFound?; rw [e]
  obtain ⟨h1, h2, h3⟩ := h
  refine ⟨by rw [e]; exact h1, by rw [e]; exact h2, fun d k hk => ?_⟩
  rw [e] at hk
  obtain ⟨k', a1, a2, a3, a4, a5⟩ := h3 d k hk
  exact ⟨k', a1, a2, a3, fun i => (a4 i).imp id fun ⟨b1, r, b2, b3⟩ => ⟨b1, r, b2, by rw [q]; exact b3⟩, by rw [e]; exact a5⟩
theorem VW.of {s : State} {vm vm1 : Vm} (e : s.vm = vm) (h : s.WarmedH vm1) : VW vm vm1 := fun s' q => wh_vm (q.trans e.symm) h
theorem VW.refl (vm : Vm) : VW vm vm := fun s q => by rw [← q]; exact State.WarmedH.refl s
theorem VW.trans {vm vm1 vm2 : Vm} (A : VW vm vm1) (B : VW vm1 vm2) : VW vm vm2 := fun s q => State.WarmedH.trans (t := s.setVm vm1) (A s q) (B _ rfl)
/-- CHr for a walk that interns nothing -/
def CHn (Z : State) (EL : List (String × Nat)) (vm : Vm) (h : Heap) (vm1 : Vm) (h' : Heap) : Prop := CHv Z EL vm1 h' ∧ CHr Z EL vm h vm1 h' ∧ VW vm vm1
section CHn
variable {Z : State} {EL : List (String × Nat)} {vm vm1 vm2 : Vm} {h h' h2 : Heap}
theorem CHn.refl (H : CHv Z EL vm h) : CHn Z EL vm h vm h := ⟨H, CHr.refl H, VW.refl _⟩
theorem CHn.trans (A : CHn Z EL vm h vm1 h') (B : CHn Z EL vm1 h' vm2 h2) : CHn Z EL vm h vm2 h2 := ⟨B.1, A.2.1.trans B.2.1, A.2.2.trans B.2.2⟩
theorem CHn.safe (A : CHn Z EL vm h vm1 h') {x : Addr} (hx : x < h.size) (S : Safe Z EL vm h x) : Safe Z EL vm1 h' x := A.2.1.safe hx S
theorem CHn.ext (E : Ext h h') (H : CHv Z EL vm h) : CHn Z EL vm h vm h' := ⟨H.ext E, CHr.ext E H, VW.refl _⟩
theorem CHn.keep {ws : List Addr} (K : Keep h h' ws) (hs : ∀ x ∈ ws, Safe Z EL vm h x) (H : CHv Z EL vm h) : CHn Z EL vm h vm h' := ⟨H.keep K hs, CHr.keep K hs H, VW.refl _⟩
theorem CHn.wr {a : Addr} {sl : Nat} {v : Value} (W : Wr h h' a sl v) (S : Safe Z EL vm h a) (H : CHv Z EL vm h) : CHn Z EL vm h vm h' := ⟨H.wr W S, CHr.wr W S H, VW.refl _⟩
theorem CHv.atN {p : Program} {l : Launch} {e : Env} {R : Room} {s : State} {m : MethodId} {args a0 : Array Value} {below : List Frame} {meth : Method} {c : Code} {T : State} {locs : List Loc} {cells slots : Nat} {vm0 : Vm} (X : Stand p l e R (s.setVm vm0) m args below meth c T locs cells slots) (hZ : Z.Warmed39 vm0) (w : EW Z a0 EL) (H : CHv Z EL vm0 h) : CHn Z EL vm0 h T.vm h := ⟨(CHv.at X hZ w H).1, CHv.at X hZ w H, VW.of (s := s.setVm vm0) rfl X.warmed⟩
end CHn
/-- where the walk stands: T the state, V the tables on which it leans, h the heap, k cells and n slots booked -/
def St (p : Program) (l : Launch) (e : Env) (R : Room) (s : State) (m : MethodId) (args : Array Value) (below : List Frame) (meth : Method) (c : Code) (Z : State) (a0 : Array Value) (EL : List (String × Nat)) (n0 : Nat) (own : String) (T : State) (V : Vm) (h : Heap) (k n : Nat) : Prop :=
  p.tables.exec = Jvm.exec ∧ T.heap = h ∧ Z.Warmed39 V ∧ V.findClass own = some m.cls ∧ Old Z n0 h ∧ EW Z a0 EL ∧ CHn Z EL s.vm s.heap V h ∧ meth.locks = false ∧
  ∃ locs k0, Stand p l e R (s.setVm V) m args below meth c T locs k n ∧ s.Since V k0 ∧ k0 ≤ h.size ∧ Fr n0 locs
/-- the end of a walk -/
def FiniV (Z : State) (EL : List (String × Nat)) (n0 : Nat) (s : State) (rm : Room) (Q : Option Value → Heap → Vm → Prop) (o : Outcome) (U : State) : Prop :=
  ∃ v L, o = .returned v ∧ (Q v U.heap U.vm ∧ Fr n0 L ∧ Old Z n0 U.heap) ∧ CHn Z EL s.vm s.heap U.vm U.heap ∧ ReturnedEndW s o U L rm.cells rm.slots
abbrev Fini (Z : State) (EL : List (String × Nat)) (n0 : Nat) (s : State) (rm : Room) (Q : Option Value → Heap → Prop) : Outcome → State → Prop := FiniV Z EL n0 s rm (fun v h _ => Q v h)
/-- a callee's contract: handed as' at the heap h it returns v at a heap h' with Q v h' (and the tables there) -/
def CtrV (l : Launch) (Z : State) (EL : List (String × Nat)) (n0 : Nat) (y : MethodName) (bytes : ByteArray) (maxL : Nat) (ret : Option FieldType) (rm : Room) (as' : Array Value) (h : Heap) (sfs : List Addr) (Q : Option Value → Heap → Vm → Prop) : Prop :=
  ∀ ws : List Cond, MetFree l y (head1 (Cond.code y bytes maxL ret :: ws) rm) (fun a U => a = as' ∧ Z.Warmed39 U.vm ∧ U.heap = h ∧ CHv Z EL U.vm h ∧ ∀ x ∈ sfs, Safe Z EL U.vm h x) (fun _ _ _ _ _ => True) (fun _ U o U' => FiniV Z EL n0 U rm Q o U')
abbrev Ctr (l : Launch) (Z : State) (EL : List (String × Nat)) (n0 : Nat) (y : MethodName) (bytes : ByteArray) (maxL : Nat) (ret : Option FieldType) (rm : Room) (as' : Array Value) (h : Heap) (sfs : List Addr) (Q : Option Value → Heap → Prop) : Prop := CtrV l Z EL n0 y bytes maxL ret rm as' h sfs (fun v h _ => Q v h)
theorem ext_refl (h : Heap) : Ext h h := ⟨Nat.le_refl _, fun _ _ q => q⟩
theorem ext_trans {h h' h2 : Heap} (E : Ext h h') (F : Ext h' h2) : Ext h h2 := ⟨Nat.le_trans E.1 F.1, fun a c q => F.2 a c (E.2 a c q)⟩
theorem ext_keep {h h' h2 : Heap} {ws : List Addr} (E : Ext h h') (K : Keep h' h2 ws) (q : ∀ x ∈ ws, h.size ≤ x) : Ext h h2 := ⟨Nat.le_trans E.1 K.1, fun a c r => K.2.1 a c (E.2 a c r) fun z => absurd (Array.getElem?_eq_some_iff.mp r).1 (Nat.not_lt.mpr (q a z))⟩
theorem ext_keep1 {h h' h2 : Heap} {a : Addr} (E : Ext h h') (K : Keep h' h2 [a]) (q : h.size ≤ a) : Ext h h2 := ext_keep E K (allS q all0)
/-- arrays of two kinds are two -/
theorem arv_kne {Z : State} {h : Heap} {a b : Addr} {k1 k2 : ClassId} {t1 t2 : FieldType} {z1 z2 : Int32} {v1 v2 : List Value} {d1 d2 : Value} (A : Arv Z h a k1 t1 z1 v1 d1) (B : Arv Z h b k2 t2 z2 v2 d2) (hn : t1 ≠ t2) : a ≠ b := fun e => by
  subst e
  obtain ⟨c1, ⟨a1, ⟨-, kA, hkA, compA, hkindA⟩, -⟩, -⟩ := A
  obtain ⟨c2, ⟨b1, ⟨-, kB, hkB, compB, hkindB⟩, -⟩, -⟩ := B
  cases a1.symm.trans b1
  cases hkA.symm.trans hkB
  have q := hkindA.symm.trans hkindB
  injection q with _ e
  exact hn e
theorem faS {P : Int32 → Prop} {y : Int32} {L : List Int32} (q : P y) (r : ∀ x ∈ L, P x) : ∀ x ∈ y :: L, P x := fun x z => (List.mem_cons.mp z).elim (fun u => u ▸ q) (r x)
theorem fa0 {P : Int32 → Prop} : ∀ x ∈ ([] : List Int32), P x := fun _ q => nomatch q
theorem sf1 {Z : State} {EL : List (String × Nat)} {V : Vm} {h : Heap} {x : Addr} (q : x < h.size) (r : Safe Z EL V h x) : ∀ y ∈ [x], y < h.size ∧ Safe Z EL V h y := fun y z => by cases List.mem_singleton.mp z; exact ⟨q, r⟩
theorem narC {x : Int32} (h : ¬ x < 0 ∧ ¬ (65535 : Int32) < x) : nar .char x = x := by
  obtain ⟨h1, h2⟩ := h
  have q := c_i2c x
  rw [Int32.lt_iff_toInt_lt] at h1 h2
  have e1 : (65535 : Int32).toInt = 65535 := rfl
  have e2 : (0 : Int32).toInt = 0 := rfl
  show x.toUInt32.toUInt16.toUInt32.toInt32 = x
  apply Int32.toInt_inj.mp
  omega
theorem narC8 {x : Int32} (h : ¬ x < 0 ∧ ¬ (255 : Int32) < x) : nar .char x = x := narC ⟨h.1, fun q => h.2 (by rw [Int32.lt_iff_toInt_lt] at q ⊢; have e1 : (65535 : Int32).toInt = 65535 := rfl; have e2 : (255 : Int32).toInt = 255 := rfl; omega)⟩
/-- x & 255 -/
theorem and255 (x : Int32) : ¬ (x &&& 255) < 0 ∧ ¬ (255 : Int32) < (x &&& 255) := by
  have q := c_mask x 255 8 (by decide) (by decide)
  have e1 : (255 : Int32).toInt = 255 := rfl
  have e2 : (0 : Int32).toInt = 0 := rfl
  rw [Int32.lt_iff_toInt_lt, Int32.lt_iff_toInt_lt]
  omega
theorem and255L (x : Int64) : ¬ (x &&& 255).toInt32 < 0 ∧ ¬ (255 : Int32) < (x &&& 255).toInt32 := by
  have q := c_maskL x 255 8 (by decide) (by decide)
  have r := c_l2i (x &&& 255)
  have s := rng32 (x &&& 255).toInt32
  have e1 : (255 : Int32).toInt = 255 := rfl
  have e2 : (0 : Int32).toInt = 0 := rfl
  rw [Int32.lt_iff_toInt_lt, Int32.lt_iff_toInt_lt]
  omega
/-- an object of a class right under the root is none of another class -/
theorem noSub1 {Z : State} {a0 : Array Value} {C O K : String} {n : Nat} (w : (Cond.superclass C O).before a0 Z = true) (wo : (Cond.noSuperclass O).before a0 Z = true) (wi : (Cond.instantiable K n).before a0 Z = true) (h1 : C ≠ K) (h2 : O ≠ K) : ∃ c t, Z.vm.findClass C = some c ∧ Z.vm.findClass K = some t ∧ Z.vm.assignable c t = false := by
  obtain ⟨t, kt, g1, g2, g3, g4, -⟩ := Cond.instantiable_spec wi
  obtain ⟨co, ko, o1, o2, o3, -, -⟩ := Cond.noSuperclass_spec wo
  have g5 : kt.isInterface = false := (Bool.or_eq_false_iff.mp g4).1
  have nO : NS Z O K := ⟨co, t, o1, g1, fun fuel => by
    cases fuel with
    | zero => rfl
    | succ f => simp [Vm.isSubclassAux, ids_ne o1 g1 h2, o2, o3]⟩
  obtain ⟨c, t', h0, g0, n3⟩ := NS.step w nO h1
  cases g1.symm.trans g0
  obtain ⟨p, k, kp, q1, q2, q3, q4, q5, -, q7⟩ := Cond.superclass_spec h0 w
  refine ⟨c, t, h0, g1, ?_⟩
  show Z.vm.assignableAux (255 + 1) c t = false
  simp [Vm.assignableAux, ids_ne h0 g1 h1, q2, g2, q5, g3, g5, Vm.isSubclass, n3]
/-- a class that is no interface -/
def NI (Z : State) (K : String) : Prop := ∃ c k, Z.vm.findClass K = some c ∧ Z.vm.classes[c]? = some k ∧ k.isInterface = false
theorem ni_inst {Z : State} {a0 : Array Value} {K : String} {n : Nat} (w : (Cond.instantiable K n).before a0 Z = true) : NI Z K := by
  obtain ⟨c, k, g1, g2, -, g4, -⟩ := Cond.instantiable_spec w
  exact ⟨c, k, g1, g2, (Bool.or_eq_false_iff.mp g4).1⟩
theorem ni_sel {Z : State} {a0 : Array Value} {C : String} {y z : MethodName} (w : (Cond.selects C y z).before a0 Z = true) {K : String} (e : z.cls = K) : NI Z K := by
  subst e
  obtain ⟨-, -, m, -, -, g3, -, mk, g5, g6⟩ := Cond.selects_spec w
  exact ⟨m.cls, mk, findClass_of_methodNamed g3, g5, g6⟩
theorem NI.mv {Z : State} {V : Vm} {K : String} (N : NI Z K) (hZ : Z.Warmed39 V) : ∃ c k, V.findClass K = some c ∧ V.classes[c]? = some k ∧ k.isInterface = false := by
  obtain ⟨c, k, g1, g2, g3⟩ := N
  obtain ⟨k', hk', ek⟩ := hZ.alike.2.2 _ _ g2
  exact ⟨c, k', by rw [hZ.alike.findClass]; exact g1, hk', by rw [ek]; exact g3⟩
theorem same_own {Z : State} {a0 : Array Value} {y : MethodName} (N : NI Z y.cls) (wi : (Cond.instanceMethod y).before a0 Z = true) (hy : y.cls ≠ "java/lang/invoke/MethodHandle" ∧ y.cls ≠ "java/lang/invoke/VarHandle") : (Cond.sameMethod y.cls y.cls y.name y.desc).before a0 Z = true := by
  obtain ⟨c, k, g1, g2, g3⟩ := N
  obtain ⟨m, meth, h1, -⟩ := Cond.instanceMethod_spec wi
  have h2 := State.methodFound?_of_named h1 hy
  simp [Cond.before, Cond.holds, Cond.value, g1, h1, h2, g2, g3]
theorem sel_own {Z : State} {a0 : Array Value} {V : Vm} (hZ : Z.Warmed39 V) {s : State} (e : s.vm = V) {args : Array Value} {y : MethodName} (N : NI Z y.cls) (wi : (Cond.instanceMethod y).before args s = true) (wp : s.PrivateAt y) (hy : y.cls ≠ "java/lang/invoke/MethodHandle" ∧ y.cls ≠ "java/lang/invoke/VarHandle") : (Cond.selects y.cls y y).before args s = true := by
  subst e
  obtain ⟨c, k, g1, g2, g3⟩ := N.mv hZ
  obtain ⟨m, meth, h1, h3, -⟩ := Cond.instanceMethod_spec wi
  have h2 := State.methodFound?_of_named h1 hy
  have h4 : selectMethod {} s.vm c m = .method m := selectMethod_private h3 (wp m meth h1 h3)
  have h5 := findClass_of_methodNamed h1
  cases g1.symm.trans h5
  simp [Cond.before, Cond.holds, Cond.value, g1, h1, h2, h4, g2, g3]
section Steps
variable {p : Program} {l : Launch} {e : Env} {R : Room} {s : State} {m : MethodId} {args : Array Value} {below : List Frame} {meth : Method} {c : Code} {Z : State} {a0 : Array Value} {EL : List (String × Nat)} {n0 : Nat} {own : String} {T : State} {V : Vm} {h : Heap} {k n : Nat} {Q : Outcome → State → Prop} {pc : Nat} {Ls : Array Slot} {rest : List Value}
theorem St.hx (S : St p l e R s m args below meth c Z a0 EL n0 own T V h k n) : p.tables.exec = Jvm.exec := S.1
theorem St.here (S : St p l e R s m args below meth c Z a0 EL n0 own T V h k n) : At T m c below := by
  obtain ⟨-, -, -, -, -, -, -, -, locs, k0, X, -⟩ := S; exact X.here
theorem St.old (S : St p l e R s m args below meth c Z a0 EL n0 own T V h k n) : Old Z n0 h := S.2.2.2.2.1
theorem St.chv (S : St p l e R s m args below meth c Z a0 EL n0 own T V h k n) : CHv Z EL V h := S.2.2.2.2.2.2.1.1
theorem St.warm (S : St p l e R s m args below meth c Z a0 EL n0 own T V h k n) : Z.Warmed39 V := S.2.2.1
theorem St.ew (S : St p l e R s m args below meth c Z a0 EL n0 own T V h k n) : EW Z a0 EL := S.2.2.2.2.2.1
theorem St.le (S : St p l e R s m args below meth c Z a0 EL n0 own T V h k n) : n0 ≤ h.size := S.old.1 ▸ S.old.2.1
theorem St.mono (S : St p l e R s m args below meth c Z a0 EL n0 own T V h k n) {k' n' : Nat} (hk' : k ≤ k') (hn' : n ≤ n') : St p l e R s m args below meth c Z a0 EL n0 own T V h k' n' := by
  obtain ⟨hx, eT, hZ, hown, hO, hE, hC, hlk, locs, k0, X, hS, hk, hF⟩ := S
  exact ⟨hx, eT, hZ, hown, hO, hE, hC, hlk, locs, k0, X.mono hk' hn', hS, hk, hF⟩
/-- a callee is entered -/
theorem CtrV.intro {y : MethodName} {bytes : ByteArray} {maxL : Nat} {ret : Option FieldType} {rm : Room} {as' : Array Value} {sfs : List Addr} {QQ : Option Value → Heap → Vm → Prop} (hp : plainFor y = true) (hO : Old Z n0 h) (hE : EW Z a0 EL)
    (body : ∀ (p : Program) (e : Env) (s : State) (m : MethodId) (below : List Frame) (meth : Method) (c : Code) (T : State) (V : Vm), St p l e rm s m as' below meth c Z a0 EL n0 y.cls T V h 0 0 → c.code = bytes → c.maxLocals = maxL → meth.sig.returnType = ret → meth.name = y.name → (∀ x ∈ sfs, Safe Z EL V h x) →
      Go p e below (FiniV Z EL n0 s rm QQ) (T.setTop (entryFrame m as' maxL))) :
    CtrV l Z EL n0 y bytes maxL ret rm as' h sfs QQ := by
  intro ws
  refine MetFree.of_bodySF hp hisR ?_
  intro p e s m args below meth c s₁ Bd hml0 hP hK
  obtain ⟨rfl, hZ, hh, hC, hsf⟩ := hP
  have X0 : Stand p l e rm s m args below meth c s₁ [] 0 0 := Stand.of_body Bd
  have e0 : s₁.heap = h := by rw [← hh, Bd.state]; rfl
  have hC0 : CHn Z EL s.vm s.heap s.vm h := by rw [hh]; exact CHn.refl hC
  exact body p e s m below meth c s₁ s.vm ⟨Bd.exec, e0, hZ, findClass_of_methodNamed Bd.named, hO, hE, hC0, Bd.notSynchronized, [], h.size, X0, (State.WarmedH.refl s).since _, Nat.le_refl _, Fr.nil n0⟩ Bd.bytes hml0 Bd.returns (name_of_methodNamed Bd.named Bd.method).1 hsf
theorem Ctr.intro {y : MethodName} {bytes : ByteArray} {maxL : Nat} {ret : Option FieldType} {rm : Room} {as' : Array Value} {sfs : List Addr} {QQ : Option Value → Heap → Prop} (hp : plainFor y = true) (hO : Old Z n0 h) (hE : EW Z a0 EL)
    (body : ∀ (p : Program) (e : Env) (s : State) (m : MethodId) (below : List Frame) (meth : Method) (c : Code) (T : State) (V : Vm), St p l e rm s m as' below meth c Z a0 EL n0 y.cls T V h 0 0 → c.code = bytes → c.maxLocals = maxL → meth.sig.returnType = ret → meth.name = y.name → (∀ x ∈ sfs, Safe Z EL V h x) →
      Go p e below (Fini Z EL n0 s rm QQ) (T.setTop (entryFrame m as' maxL))) :
    Ctr l Z EL n0 y bytes maxL ret rm as' h sfs QQ := CtrV.intro hp hO hE body
theorem St.endV {QQ : Option Value → Heap → Vm → Prop} (S : St p l e R s m args below meth c Z a0 EL n0 own T V h k n) {v : Option Value} (hv : meth.sig.returnType = none → v = none) (q : (∀ x, x < h.size → Safe Z EL V h x → Safe Z EL T.vm h x) → QQ v h T.vm) (hc : k ≤ R.cells) (hl : n ≤ R.slots) {t : State}
    (st : ∀ fs, (∀ (f : JFrame) (acts : List Action), f.method = m → f.locked = none → f.entered = [] → (doReturn e (T.setTop f) acts v).1 = T.setFrames fs) → Steps p.tables e below t (T.setFrames fs)) : Go p e below (FiniV Z EL n0 s R QQ) t := by
  obtain ⟨hx, eT, hZ, hown, hO, hE, hC, hlk, locs, k0, X, hS, hk, hF⟩ := S
  subst eT
  obtain ⟨fs, hr, hrun, hend, hw⟩ := X.leaveW hS hk hv hlk
  have qc := CHv.atN X hZ hE hC.1
  refine ⟨_, _, st fs hr, hrun, hend, v, locs, rfl, ⟨q fun x hx sx => qc.safe hx sx, hF, hO⟩, (show CHn Z EL s.vm s.heap T.vm T.heap from hC.trans (CHv.atN X hZ hE hC.1)), ?_⟩
  obtain ⟨w1, w2, w3, w4⟩ := hw
  exact ⟨w1, w2, w3, w4.mono hc hl⟩
theorem St.end_ {QQ : Option Value → Heap → Prop} (S : St p l e R s m args below meth c Z a0 EL n0 own T V h k n) {v : Option Value} (hv : meth.sig.returnType = none → v = none) (q : QQ v h) (hc : k ≤ R.cells) (hl : n ≤ R.slots) {t : State}
    (st : ∀ fs, (∀ (f : JFrame) (acts : List Action), f.method = m → f.locked = none → f.entered = [] → (doReturn e (T.setTop f) acts v).1 = T.setFrames fs) → Steps p.tables e below t (T.setFrames fs)) : Go p e below (Fini Z EL n0 s R QQ) t := S.endV (QQ := fun v h _ => QQ v h) hv (fun _ => q) hc hl st
theorem g_aretV {QQ : Option Value → Heap → Vm → Prop} {v : Value} (S : St p l e R s m args below meth c Z a0 EL n0 own T V h k n) (hd : decode c.code pc = .ok (.areturn, 1)) {t : FieldType} (hret : meth.sig.returnType = some t) (ht : t.isReference = true) (hn : narrow t v = v) (hv : v.isRef = true) (q : (∀ x, x < h.size → Safe Z EL V h x → Safe Z EL T.vm h x) → QQ (some v) h T.vm) (hc : k ≤ R.cells := by exact Nat.le_of_ble_eq_true rfl) (hl : n ≤ R.slots := by exact Nat.le_of_ble_eq_true rfl) : Go p e below (FiniV Z EL n0 s R QQ) (T.setTop (mkF m pc Ls (v :: rest))) := by
  refine S.endV (v := some v) (fun h => by rw [hret] at h; cases h) q hc hl fun fs hr => ?_
  obtain ⟨hx, eT, hZ, hown, hO, hE, hC, hlk, locs, k0, X, hS, hk, hF⟩ := S
  exact retOut X hx hret hn (Or.inr (Or.inr (Or.inr (Or.inr ⟨rfl, ht, hv⟩)))) hd hr
theorem g_retV {QQ : Option Value → Heap → Vm → Prop} (S : St p l e R s m args below meth c Z a0 EL n0 own T V h k n) (hd : decode c.code pc = .ok (.return_, 1)) (hret : meth.sig.returnType = none) (q : (∀ x, x < h.size → Safe Z EL V h x → Safe Z EL T.vm h x) → QQ none h T.vm) (hc : k ≤ R.cells := by exact Nat.le_of_ble_eq_true rfl) (hl : n ≤ R.slots := by exact Nat.le_of_ble_eq_true rfl) : Go p e below (FiniV Z EL n0 s R QQ) (T.setTop (mkF m pc Ls [])) := by
  refine S.endV (v := none) (fun _ => rfl) q hc hl fun fs hr => ?_
  obtain ⟨hx, eT, hZ, hown, hO, hE, hC, hlk, locs, k0, X, hS, hk, hF⟩ := S
  exact X.returnOut hx hret hd hr
theorem g_ret {QQ : Option Value → Heap → Prop} (S : St p l e R s m args below meth c Z a0 EL n0 own T V h k n) (hd : decode c.code pc = .ok (.return_, 1)) (hret : meth.sig.returnType = none) (q : QQ none h) (hc : k ≤ R.cells := by exact Nat.le_of_ble_eq_true rfl) (hl : n ≤ R.slots := by exact Nat.le_of_ble_eq_true rfl) : Go p e below (Fini Z EL n0 s R QQ) (T.setTop (mkF m pc Ls [])) := by
  refine S.end_ (v := none) (fun _ => rfl) q hc hl fun fs hr => ?_
  obtain ⟨hx, eT, hZ, hown, hO, hE, hC, hlk, locs, k0, X, hS, hk, hF⟩ := S
  exact X.returnOut hx hret hd hr
theorem g_iretN {QQ : Option Value → Heap → Prop} {z : Int32} (S : St p l e R s m args below meth c Z a0 EL n0 own T V h k n) (hd : decode c.code pc = .ok (.ireturn, 1)) {t : FieldType} (hret : meth.sig.returnType = some t) (ht : t = .boolean ∨ t = .byte ∨ t = .char ∨ t = .short) (q : QQ (some (.int (nar t z))) h) (hc : k ≤ R.cells := by exact Nat.le_of_ble_eq_true rfl) (hl : n ≤ R.slots := by exact Nat.le_of_ble_eq_true rfl) : Go p e below (Fini Z EL n0 s R QQ) (T.setTop (mkF m pc Ls (.int z :: rest))) := by
  refine S.end_ (v := some (.int (nar t z))) (fun h => by rw [hret] at h; cases h) q hc hl fun fs hr => ?_
  obtain ⟨hx, eT, hZ, hown, hO, hE, hC, hlk, locs, k0, X, hS, hk, hF⟩ := S
  exact retN X hx hret ht hd hr
theorem g_iret {QQ : Option Value → Heap → Prop} {z : Int32} (S : St p l e R s m args below meth c Z a0 EL n0 own T V h k n) (hd : decode c.code pc = .ok (.ireturn, 1)) (hret : meth.sig.returnType = some .int) (q : QQ (some (.int z)) h) (hc : k ≤ R.cells := by exact Nat.le_of_ble_eq_true rfl) (hl : n ≤ R.slots := by exact Nat.le_of_ble_eq_true rfl) : Go p e below (Fini Z EL n0 s R QQ) (T.setTop (mkF m pc Ls (.int z :: rest))) := by
  refine S.end_ (v := some (.int z)) (fun h => by rw [hret] at h; cases h) q hc hl fun fs hr => ?_
  obtain ⟨hx, eT, hZ, hown, hO, hE, hC, hlk, locs, k0, X, hS, hk, hF⟩ := S
  exact retOut X hx hret rfl (Or.inl ⟨rfl, Or.inl rfl, z, rfl⟩) hd hr
theorem g_lret {QQ : Option Value → Heap → Prop} {z : Int64} (S : St p l e R s m args below meth c Z a0 EL n0 own T V h k n) (hd : decode c.code pc = .ok (.lreturn, 1)) (hret : meth.sig.returnType = some .long) (q : QQ (some (.long z)) h) (hc : k ≤ R.cells := by exact Nat.le_of_ble_eq_true rfl) (hl : n ≤ R.slots := by exact Nat.le_of_ble_eq_true rfl) : Go p e below (Fini Z EL n0 s R QQ) (T.setTop (mkF m pc Ls (.long z :: rest))) := by
  refine S.end_ (v := some (.long z)) (fun h => by rw [hret] at h; cases h) q hc hl fun fs hr => ?_
  obtain ⟨hx, eT, hZ, hown, hO, hE, hC, hlk, locs, k0, X, hS, hk, hF⟩ := S
  exact retOut X hx hret rfl (Or.inr (Or.inl ⟨rfl, rfl, z, rfl⟩)) hd hr
theorem g_aret {QQ : Option Value → Heap → Prop} {v : Value} (S : St p l e R s m args below meth c Z a0 EL n0 own T V h k n) (hd : decode c.code pc = .ok (.areturn, 1)) {t : FieldType} (hret : meth.sig.returnType = some t) (ht : t.isReference = true) (hn : narrow t v = v) (hv : v.isRef = true) (q : QQ (some v) h) (hc : k ≤ R.cells := by exact Nat.le_of_ble_eq_true rfl) (hl : n ≤ R.slots := by exact Nat.le_of_ble_eq_true rfl) : Go p e below (Fini Z EL n0 s R QQ) (T.setTop (mkF m pc Ls (v :: rest))) := by
  refine S.end_ (v := some v) (fun h => by rw [hret] at h; cases h) q hc hl fun fs hr => ?_
  obtain ⟨hx, eT, hZ, hown, hO, hE, hC, hlk, locs, k0, X, hS, hk, hF⟩ := S
  exact retOut X hx hret hn (Or.inr (Or.inr (Or.inr (Or.inr ⟨rfl, ht, hv⟩)))) hd hr
theorem g_getF (S : St p l e R s m args below meth c Z a0 EL n0 own T V h k n) {R0 O nm d : String} {index : Nat} (w : (Cond.fieldLink own index R0 nm d).before a0 Z = true) (via : Via Z R0 O nm d) {a : Addr} {v : Value} (F : Fld Z h a O nm d v) (hd : decode c.code pc = .ok (.getfield index, 3))
    (go : ∀ T', St p l e R s m args below meth c Z a0 EL n0 own T' V h k n → Go p e below Q (T'.setTop (mkF m (pc + 3) Ls (v :: rest)))) : Go p e below Q (T.setTop (mkF m pc Ls (.ref a :: rest))) := by
  obtain ⟨hx, eT, hZ, hown, hO, hE, hC, hlk, locs, k0, X, hS, hk, hF⟩ := S
  obtain ⟨T', X', e', st⟩ := getF X hx hZ hown (host := "") (Or.inl w) via eT F (g := mkF m pc Ls (.ref a :: rest)) rfl rfl hd
  exact Go.of st (go T' ⟨hx, e', hZ, hown, hO, hE, hC, hlk, locs, k0, X', hS, hk, hF⟩)
theorem g_getS (S : St p l e R s m args below meth c Z a0 EL n0 own T V h k n) {R0 O nm d : String} {index : Nat} (w : (Cond.fieldLink own index R0 nm d).before a0 Z = true) (via : Via Z R0 O nm d) {v : Value} (F : Sta Z h O nm d v) (hd : decode c.code pc = .ok (.getstatic index, 3))
    (go : ∀ T', St p l e R s m args below meth c Z a0 EL n0 own T' V h k n → Go p e below Q (T'.setTop (mkF m (pc + 3) Ls (v :: rest)))) : Go p e below Q (T.setTop (mkF m pc Ls rest)) := by
  obtain ⟨hx, eT, hZ, hown, hO, hE, hC, hlk, locs, k0, X, hS, hk, hF⟩ := S
  obtain ⟨T', X', e', st⟩ := getS X hx hZ hown (host := "") w via eT F (g := mkF m pc Ls rest) rfl hd
  exact Go.of st (go T' ⟨hx, e', hZ, hown, hO, hE, hC, hlk, locs, k0, X', hS, hk, hF⟩)
theorem g_cast (S : St p l e R s m args below meth c Z a0 EL n0 own T V h k n) {K : String} {index : Nat} (w : (Cond.classLink own index K).before a0 Z = true) {a : Addr} (F : Ins Z h a K true) (hd : decode c.code pc = .ok (.checkcast index, 3))
    (go : ∀ T', St p l e R s m args below meth c Z a0 EL n0 own T' V h k n → Go p e below Q (T'.setTop (mkF m (pc + 3) Ls (.ref a :: rest)))) : Go p e below Q (T.setTop (mkF m pc Ls (.ref a :: rest))) := by
  obtain ⟨hx, eT, hZ, hown, hO, hE, hC, hlk, locs, k0, X, hS, hk, hF⟩ := S
  obtain ⟨T', X', e', st⟩ := castY X hx hZ hown w eT F (g := mkF m pc Ls (.ref a :: rest)) rfl rfl hd
  exact Go.of st (go T' ⟨hx, e', hZ, hown, hO, hE, hC, hlk, locs, k0, X', hS, hk, hF⟩)
theorem g_inst (S : St p l e R s m args below meth c Z a0 EL n0 own T V h k n) {K : String} {index : Nat} (w : (Cond.classLink own index K).before a0 Z = true) {a : Addr} (F : Ins Z h a K true) (hd : decode c.code pc = .ok (.instanceof index, 3))
    (go : ∀ T', St p l e R s m args below meth c Z a0 EL n0 own T' V h k n → Go p e below Q (T'.setTop (mkF m (pc + 3) Ls (.int 1 :: rest)))) : Go p e below Q (T.setTop (mkF m pc Ls (.ref a :: rest))) := by
  obtain ⟨hx, eT, hZ, hown, hO, hE, hC, hlk, locs, k0, X, hS, hk, hF⟩ := S
  obtain ⟨T', X', e', st⟩ := instY X hx hZ hown w eT F (g := mkF m pc Ls (.ref a :: rest)) rfl rfl hd
  exact Go.of st (go T' ⟨hx, e', hZ, hown, hO, hE, hC, hlk, locs, k0, X', hS, hk, hF⟩)
theorem g_new (S : St p l e R s m args below meth c Z a0 EL n0 own T V h k n) {C : String} {index sz : Nat} (w : (Cond.classLink own index C).before a0 Z = true) (wi : (Cond.instantiable C sz).before a0 Z = true) (wz : (Cond.initialized C).before a0 Z = true) (hd : decode c.code pc = .ok (.new index, 3)) (hc : k + 1 ≤ R.cells) (hl : n + sz ≤ R.slots)
    (go : ∀ T' h' a, St p l e R s m args below meth c Z a0 EL n0 own T' V h' (k + 1) (n + sz) → Ext h h' → h.size ≤ a → a < h'.size → n0 ≤ a → Safe Z EL V h' a → Exa Z h' a C → (∀ {O nm d : String} {ty : FieldType}, Laid Z a0 C O nm d → parseFieldDescriptor d = some ty → Fld Z h' a O nm d (defaultValue ty)) →
      Go p e below Q (T'.setTop (mkF m (pc + 3) Ls (.ref a :: rest)))) : Go p e below Q (T.setTop (mkF m pc Ls rest)) := by
  have hle := S.le
  obtain ⟨hx, eT, hZ, hown, hO, hE, hC, hlk, locs, k0, X, hS, hk, hF⟩ := S
  obtain ⟨T', h', X', e', E, A, D, -, st⟩ := newO X hx hZ hown w wi wz eT (g := mkF m pc Ls rest) rfl hd hc hl
  exact Go.of st (go T' h' h.size ⟨hx, e', hZ, hown, hO.ext E, hE, hC.trans (CHn.ext E hC.1), hlk, locs, k0, X', hS, Nat.le_trans hk E.1, hF⟩ E (Nat.le_refl _) A.lt hle ((Safe.new (Nat.le_refl _)).ext E hC.1) A D)
theorem g_newarr (S : St p l e R s m args below meth c Z a0 EL n0 own T V h k n) {aty : ArrayType} (w : (Cond.arrayClass (newarray.typeOf aty)).before a0 Z = true) (hd : decode c.code pc = .ok (.newarray aty, 2)) {z : Int32} (hz : ¬ z < 0) {cap : Nat} (hcap : z.toNatClampNeg ≤ cap) (hb : cap * 8 ≤ 536870912) (hc : k + 1 ≤ R.cells) (hl : n + cap ≤ R.slots)
    (go : ∀ T' h' a kc, St p l e R s m args below meth c Z a0 EL n0 own T' V h' (k + 1) (n + cap) → Ext h h' → h.size ≤ a → a < h'.size → n0 ≤ a → Safe Z EL V h' a → (∀ j, Arv Z h' a kc (newarray.typeOf aty) z (List.replicate j (defaultValue (newarray.typeOf aty))) (defaultValue (newarray.typeOf aty))) →
      Go p e below Q (T'.setTop (mkF m (pc + 2) Ls (.ref a :: rest)))) : Go p e below Q (T.setTop (mkF m pc Ls (.int z :: rest))) := by
  have hle := S.le
  obtain ⟨hx, eT, hZ, hown, hO, hE, hC, hlk, locs, k0, X, hS, hk, hF⟩ := S
  obtain ⟨T', h', kc, X', e', E, A, st⟩ := newP X hx hZ w eT (g := mkF m pc Ls (.int z :: rest)) rfl hd rfl hz hcap hb hc hl
  exact Go.of st (go T' h' h.size kc ⟨hx, e', hZ, hown, hO.ext E, hE, hC.trans (CHn.ext E hC.1), hlk, locs, k0, X', hS, Nat.le_trans hk E.1, hF⟩ E (Nat.le_refl _) A.lt hle ((Safe.new (Nat.le_refl _)).ext E hC.1) fun j => (Arv.new A hz).pad (pad_rep [] _ j))
theorem g_castore (S : St p l e R s m args below meth c Z a0 EL n0 own T V h k n) {a : Addr} {kc : ClassId} {z : Int32} {vs : List Value} {dv : Value} (A : Arv Z h a kc .char z vs dv) {j x : Int32} (hj : ¬ j < 0 ∧ j < z) (i : Nat) (hi : j.toNatClampNeg = i) (hlt : i < vs.length) (na : n0 ≤ a) (hd : decode c.code pc = .ok (.castore, 1))
    (go : ∀ T' h', St p l e R s m args below meth c Z a0 EL n0 own T' V h' k n → Keep h h' [a] → Arv Z h' a kc .char z (vs.set i (.int (nar .char x))) dv → Go p e below Q (T'.setTop (mkF m (pc + 1) Ls rest))) : Go p e below Q (T.setTop (mkF m pc Ls (.int x :: .int j :: .ref a :: rest))) := by
  obtain ⟨hx, eT, hZ, hown, hO, hE, hC, hlk, locs, k0, X, hS, hk, hF⟩ := S
  have sf : Safe Z EL V h a := Safe.arv hZ.alike A (by decide)
  obtain ⟨cl, Ar, q1, q2, q3, q4, q5⟩ := A
  obtain ⟨T', h', X', e', W, st⟩ := stC X hx hZ eT Ar (j := j) (x := x) (inb_of q2 hj) (g := mkF m pc Ls (.int x :: .int j :: .ref a :: rest)) rfl rfl hd
  have K := Keep.of_wr W
  exact Go.of st (go T' h' ⟨hx, e', hZ, hown, hO.wr W na, hE, hC.trans (CHn.wr W sf hC.1), hlk, _, k0, X', hS, Nat.le_trans hk K.1, Fr.snoc X' hF na⟩ K (Arv.set Ar q1 q2 q3 q4 q5 (fits_nar_char x) W i hi hlt))
theorem g_putF (S : St p l e R s m args below meth c Z a0 EL n0 own T V h k n) {R0 O nm d C : String} {index kk : Nat} {ty : FieldType} (w : (Cond.fieldLink own index R0 nm d).before a0 Z = true) (via : Via Z R0 O nm d) {a : Addr} {v v' old : Value} (F : Fld Z h a O nm d old) (E : Exa Z h a C)
    (L : (Cond.lays C O nm d).before a0 Z = true ∨ ((Cond.laysFinal C O nm d).before a0 Z = true ∧ own = O ∧ meth.name = "<init>")) (wi : (Cond.instantiable C kk).before a0 Z = true) (hty : parseFieldDescriptor d = some ty) (hn : narrow ty v = v') (hf : fits ty v' = true) (na : n0 ≤ a) (sf : Safe Z EL V h a) (hd : decode c.code pc = .ok (.putfield index, 3))
    (go : ∀ T' h', St p l e R s m args below meth c Z a0 EL n0 own T' V h' k n → Keep h h' [a] → Wr h h' a (Jvm.RoadKit.slotOf Z O nm d) v' → Exa Z h' a C → Fld Z h' a O nm d v' → Safe Z EL V h' a → Go p e below Q (T'.setTop (mkF m (pc + 3) Ls rest))) : Go p e below Q (T.setTop (mkF m pc Ls (v :: .ref a :: rest))) := by
  obtain ⟨hx, eT, hZ, hown, hO, hE, hC, hlk, locs, k0, X, hS, hk, hF⟩ := S
  obtain ⟨T', h', X', e', W, st⟩ := putFN X hx hZ hown w via eT F E L wi hty hn hf (g := mkF m pc Ls (v :: .ref a :: rest)) rfl rfl hd
  have K := Keep.of_wr W
  exact Go.of st (go T' h' ⟨hx, e', hZ, hown, hO.wr W na, hE, hC.trans (CHn.wr W sf hC.1), hlk, _, k0, X', hS, Nat.le_trans hk K.1, Fr.snoc X' hF na⟩ K W (E.wr W) (F.same W) (Safe.wr W sf hC.1 sf))
theorem g_initO (S : St p l e R s m args below meth c Z a0 EL n0 own T V h k n) {index : Nat} (w1 : (Cond.methodLink own index Lib.objectInit).before a0 Z = true) (w2 : (Cond.instanceMethod Lib.objectInit).before a0 Z = true) (w3 : (Cond.code Lib.objectInit ⟨#[0xb1]⟩ 1 none).before a0 Z = true) (hsz : Ls.size = c.maxLocals) {a : Addr} (hd : decode c.code pc = .ok (.invokespecial index, 3)) (hf : 1 ≤ R.frames) (hl : (rest.map fun v => v.category).sum + 12 ≤ R.locals)
    (go : ∀ T', St p l e R s m args below meth c Z a0 EL n0 own T' V h k n → Go p e below Q (T'.setTop (mkF m (pc + 3) Ls rest))) : Go p e below Q (T.setTop (mkF m pc Ls (.ref a :: rest))) := by
  obtain ⟨hx, eT, hZ, hown, hO, hE, hC, hlk, locs, k0, X, hS, hk, hF⟩ := S
  obtain ⟨T', X', e', st⟩ := initO X hx hZ hown w1 w2 w3 eT (g := mkF m pc Ls (.ref a :: rest)) rfl hsz rfl hd hf (W := (rest.map fun v => v.category).sum) (by show 2 * 0 + _ ≤ _; omega) hl
  exact Go.of st (go T' ⟨hx, e', hZ, hown, hO, hE, hC, hlk, locs, k0, X', hS, hk, hF⟩)
theorem g_ldcI (S : St p l e R s m args below meth c Z a0 EL n0 own T V h k n) {index : Nat} {v : Int32} (w : (Cond.constant own index v).before a0 Z = true) (hd : decode c.code pc = .ok (.ldc index, 2)) (go : Go p e below Q (T.setTop (mkF m (pc + 2) Ls (.int v :: rest)))) : Go p e below Q (T.setTop (mkF m pc Ls rest)) := by
  obtain ⟨hx, eT, hZ, hown, hO, hE, hC, hlk, locs, k0, X, hS, hk, hF⟩ := S
  exact Go.of (fun _ q => X.ldcInt hx hown (mvT hZ w) (g := mkF m pc Ls rest) rfl hd _ q) go
theorem g_ldcJ (S : St p l e R s m args below meth c Z a0 EL n0 own T V h k n) {index : Nat} {v : Int64} (w : (Cond.constantLong own index v).before a0 Z = true) (hd : decode c.code pc = .ok (.ldc2_w index, 3)) (go : Go p e below Q (T.setTop (mkF m (pc + 3) Ls (.long v :: rest)))) : Go p e below Q (T.setTop (mkF m pc Ls rest)) := by
  obtain ⟨hx, eT, hZ, hown, hO, hE, hC, hlk, locs, k0, X, hS, hk, hF⟩ := S
  exact Go.of (fun _ q => X.ldc2Long hx hown (mvT hZ w) (g := mkF m pc Ls rest) rfl hd _ q) go
section Calls
variable {y z : MethodName} {bytes : ByteArray} {maxL : Nat} {ret : Option FieldType} {rm : Room} {as' : Array Value} {sfs : List Addr} {QQ : Option Value → Heap → Vm → Prop} {index : Nat} {stk : List Value}
/-- the library's backOfSH with objects that are no literal's -/
theorem backOfSf {W : Nat} {vm0 : Vm} {QB : Option Value → Heap → Vm → List Loc → Prop}
    (hM : MetFree l y (head1 [Cond.code y bytes maxL ret] rm) (fun a U => a = as' ∧ Z.Warmed39 U.vm ∧ U.heap = h ∧ CHv Z EL U.vm h ∧ ∀ x ∈ sfs, Safe Z EL U.vm h x) (fun _ _ _ _ _ => True) (fun _ U o U' => ∃ v L, o = .returned v ∧ QB v U'.heap U'.vm L ∧ CHn Z EL U.vm U.heap U'.vm U'.heap ∧ ReturnedEndW U o U' L rm.cells rm.slots))
    (hZ : Z.Warmed39 vm0) (wc : (Cond.code y bytes maxL ret).before a0 Z = true) (wz : (Cond.initialized y.cls).before a0 Z = true) (hf : rm.frames + 1 ≤ R.frames) (hl : W + (maxL + 11) + rm.locals ≤ R.locals) (hEL : EW Z a0 EL) (H : CHv Z EL vm0 h) (hsf : ∀ x ∈ sfs, x < h.size ∧ Safe Z EL vm0 h x) :
    BackS l R p e below (s.setVm vm0) args y 3 W (fun A a => a = as' ∧ A.U.heap = h ∧ A.cells + rm.cells ≤ R.cells ∧ A.slots + rm.slots ≤ R.slots)
      (fun A _ v B => ∃ L, QB v B.U.heap B.U.vm L ∧ B.locs = A.locs ++ L ∧ B.cells = A.cells + rm.cells ∧ B.slots = A.slots + rm.slots ∧ CHn Z EL vm0 h B.U.vm B.U.heap) := by
  refine BackS.of_freeW (bytes := bytes) (maxL := maxL) (ret := ret) (E := fun _ first o t L k n => (k = rm.cells ∧ n = rm.slots) ∧ (∃ v, o = .returned v ∧ QB v t.heap t.vm L) ∧ CHn Z EL first.vm first.heap t.vm t.heap) hM hf hl ?_ ?_ (fun _ _ _ _ _ _ _ _ _ => trivial) ?_ ?_
  · intro m meth c A a Y hp
    have hU : Z.Warmed39 A.U.vm := wtrans (s := s.setVm vm0) hZ Y.warmed
    exact ⟨by show (Cond.and _ .tt).before a A.U = true; rw [Cond.before_and, mv hU wc]; rfl, mv hU wc, mv hU wz, hp.2.2.1, hp.2.2.2⟩
  · intro m meth c A a g mk Y hp
    have q := CHv.atN Y hZ hEL H
    exact ⟨hp.1, wtrans (s := s.setVm vm0) hZ Y.warmed, hp.2.1, q.1, fun x hx => q.safe (hsf x hx).1 (hsf x hx).2⟩
  · rintro _ _ _ _ ⟨v, L, h1, h2, h3, h4⟩
    exact ⟨L, _, _, h4, ⟨rfl, rfl⟩, ⟨v, h1, h2⟩, h3⟩
  · intro m meth c A a g mk v t L k n Y hp _ _ q
    obtain ⟨⟨e1, e2⟩, ⟨v', e3, e4⟩, e5⟩ := q
    cases e3; subst e1 e2
    refine ⟨L, e4, rfl, rfl, rfl, (CHv.atN Y hZ hEL H).trans ?_⟩
    rw [← hp.2.1]; exact e5
theorem g_static (S : St p l e R s m args below meth c Z a0 EL n0 own T V h k n) (C : CtrV l Z EL n0 y bytes maxL ret rm as' h sfs QQ) (hsf : ∀ x ∈ sfs, x < h.size ∧ Safe Z EL V h x) (wl : (Cond.methodLink own index y).before a0 Z = true) (ws : (Cond.static y).before a0 Z = true) (wi : (Cond.initialized y.cls).before a0 Z = true) (wc : (Cond.code y bytes maxL ret).before a0 Z = true) (hy : y.cls ≠ "java/lang/invoke/MethodHandle" ∧ y.cls ≠ "java/lang/invoke/VarHandle")
    (hd : decode c.code pc = .ok (.invokestatic index, 3)) (hsz : Ls.size = c.maxLocals) (argsL : List Value) (hlen : ∀ sig, parseMethodDescriptor y.desc = some sig → argsL.length = sig.parameters.length) (hst : stk = argsL.reverse ++ rest) (has : argsL.toArray = as') (hf : rm.frames + 1 ≤ R.frames) (hl : (rest.map fun v => v.category).sum + (maxL + 11) + rm.locals ≤ R.locals) (hc : k + rm.cells ≤ R.cells) (hs : n + rm.slots ≤ R.slots)
    (go : ∀ v T' V' h', St p l e R s m args below meth c Z a0 EL n0 own T' V' h' (k + rm.cells) (n + rm.slots) → CHn Z EL V h V' h' → QQ v h' V' → Go p e below Q (T'.setTop (mkF m (pc + 3) Ls (v.toList ++ rest)))) : Go p e below Q (T.setTop (mkF m pc Ls stk)) := by
  obtain ⟨hx, eT, hZ, hown, hO, hE, hC, hlk, locs, k0, X, hS, hk, hF⟩ := S
  have bk := backOfSf (s := s) (R := R) (p := p) (e := e) (below := below) (args := args) (W := (rest.map fun v => v.category).sum) (QB := fun v h' vm L => QQ v h' vm ∧ Fr n0 L ∧ Old Z n0 h') (C []) hZ wc wi hf hl hE hC.1 hsf
  obtain ⟨v, vm1, ⟨U, Lc, kc, sc⟩, hW1, X', hS', hgr, ⟨L, ⟨hQ, hF', hO'⟩, eL, ec, es, hC'⟩, st⟩ := callSS X hx hown (mvT hZ wl) (mvT hZ ws) (mvT hZ wi) (mvT hZ wc) hy bk (g := mkF m pc Ls stk) rfl hsz (argsL := argsL) (rest := rest) hlen hst (by show 2 * 0 + _ ≤ _; omega) hd (fun _ _ => ⟨has, eT, hc, hs⟩)
  dsimp only [Pt.U, Pt.locs, Pt.cells, Pt.slots] at X' hS' hgr hQ hO' eL ec es hC' st
  subst eL ec es
  exact Go.of (fun _ q => st.trans q) (go v U U.vm U.heap ⟨hx, rfl, State.Warmed39.trans (t := s.setVm V) hZ hS'.1, by rw [hS'.1.alike.findClass]; exact hown, hO', hE, hC.trans hC', hlk, _, _, X', hS.trans hS' (Nat.le_trans hk (eT ▸ hgr)), Nat.le_refl _, hF.app hF'⟩ hC' hQ)
theorem g_special (S : St p l e R s m args below meth c Z a0 EL n0 own T V h k n) (C : CtrV l Z EL n0 y bytes maxL none rm as' h sfs QQ) (hsf : ∀ x ∈ sfs, x < h.size ∧ Safe Z EL V h x) (hy1 : y.name = "<init>") (wl : (Cond.methodLink own index y).before a0 Z = true) (ws : (Cond.instanceMethod y).before a0 Z = true) (wi : (Cond.initialized y.cls).before a0 Z = true) (wc : (Cond.code y bytes maxL none).before a0 Z = true) (hy : y.cls ≠ "java/lang/invoke/MethodHandle" ∧ y.cls ≠ "java/lang/invoke/VarHandle")
    (hd : decode c.code pc = .ok (.invokespecial index, 3)) (hsz : Ls.size = c.maxLocals) (a : Addr) (argsL : List Value) (hlen : ∀ sig, parseMethodDescriptor y.desc = some sig → argsL.length = sig.parameters.length) (hst : stk = argsL.reverse ++ .ref a :: rest) (has : (.ref a :: argsL).toArray = as') (hf : rm.frames + 1 ≤ R.frames) (hl : (rest.map fun v => v.category).sum + (maxL + 11) + rm.locals ≤ R.locals) (hc : k + rm.cells ≤ R.cells) (hs : n + rm.slots ≤ R.slots)
    (go : ∀ v T' V' h', St p l e R s m args below meth c Z a0 EL n0 own T' V' h' (k + rm.cells) (n + rm.slots) → CHn Z EL V h V' h' → QQ v h' V' → Go p e below Q (T'.setTop (mkF m (pc + 3) Ls (v.toList ++ rest)))) : Go p e below Q (T.setTop (mkF m pc Ls stk)) := by
  obtain ⟨hx, eT, hZ, hown, hO, hE, hC, hlk, locs, k0, X, hS, hk, hF⟩ := S
  have bk := backOfSf (s := s) (R := R) (p := p) (e := e) (below := below) (args := args) (W := (rest.map fun v => v.category).sum) (QB := fun v h' vm L => QQ v h' vm ∧ Fr n0 L ∧ Old Z n0 h') (C []) hZ wc wi hf hl hE hC.1 hsf
  obtain ⟨v, vm1, ⟨U, Lc, kc, sc⟩, hW1, X', hS', hgr, ⟨L, ⟨hQ, hF', hO'⟩, eL, ec, es, hC'⟩, st⟩ := X.specialBackS hx hy1 hown (mvT hZ wl) (mvT hZ ws) (mvT hZ wc) hy bk (g := mkF m pc Ls stk) rfl hsz (Steps.refl _) (a := a) (argsL := argsL) (rest := rest) hlen hst (by show 2 * 0 + _ ≤ _; omega) hd (fun _ _ => ⟨has, eT, hc, hs⟩)
  dsimp only [Pt.U, Pt.locs, Pt.cells, Pt.slots] at X' hS' hgr hQ hO' eL ec es hC' st
  subst eL ec es
  exact Go.of (fun _ q => st.trans q) (go v U U.vm U.heap ⟨hx, rfl, State.Warmed39.trans (t := s.setVm V) hZ hS'.1, by rw [hS'.1.alike.findClass]; exact hown, hO', hE, hC.trans hC', hlk, _, _, X', hS.trans hS' (Nat.le_trans hk (eT ▸ hgr)), Nat.le_refl _, hF.app hF'⟩ hC' hQ)
theorem g_virtual {C : String} (S : St p l e R s m args below meth c Z a0 EL n0 own T V h k n) (K : CtrV l Z EL n0 z bytes maxL ret rm as' h sfs QQ) (hsf : ∀ x ∈ sfs, x < h.size ∧ Safe Z EL V h x) (wl : (Cond.methodLink own index y).before a0 Z = true) (wd : (Cond.declares y).before a0 Z = true) (wse : (Cond.selects C y z).before a0 Z = true) (ws : (Cond.instanceMethod z).before a0 Z = true) (wi : (Cond.initialized z.cls).before a0 Z = true) (wc : (Cond.code z bytes maxL ret).before a0 Z = true) (hy : y.cls ≠ "java/lang/invoke/MethodHandle" ∧ y.cls ≠ "java/lang/invoke/VarHandle")
    (hnf : ∀ s' : State, (Cond.selects C y z).before args s' = true → NotFace s' y) (hd : decode c.code pc = .ok (.invokevirtual index, 3)) (hsz : Ls.size = c.maxLocals) (a : Addr) (E : Exa Z h a C) (argsL : List Value) (hlen : ∀ sig, parseMethodDescriptor y.desc = some sig → argsL.length = sig.parameters.length) (hst : stk = argsL.reverse ++ .ref a :: rest) (has : (.ref a :: argsL).toArray = as') (hf : rm.frames + 1 ≤ R.frames) (hl : (rest.map fun v => v.category).sum + (maxL + 11) + rm.locals ≤ R.locals) (hc : k + rm.cells ≤ R.cells) (hs : n + rm.slots ≤ R.slots)
    (go : ∀ v T' V' h', St p l e R s m args below meth c Z a0 EL n0 own T' V' h' (k + rm.cells) (n + rm.slots) → CHn Z EL V h V' h' → QQ v h' V' → Go p e below Q (T'.setTop (mkF m (pc + 3) Ls (v.toList ++ rest)))) : Go p e below Q (T.setTop (mkF m pc Ls stk)) := by
  obtain ⟨hx, eT, hZ, hown, hO, hE, hC, hlk, locs, k0, X, hS, hk, hF⟩ := S
  have bk := backOfSf (s := s) (R := R) (p := p) (e := e) (below := below) (args := args) (W := (rest.map fun v => v.category).sum) (QB := fun v h' vm L => QQ v h' vm ∧ Fr n0 L ∧ Old Z n0 h') (K []) hZ wc wi hf hl hE hC.1 hsf
  obtain ⟨cq, kq, q1, q2, q3⟩ := isOf (s := s.setVm V) hZ eT E
  obtain ⟨v, vm1, ⟨U, Lc, kc, sc⟩, hW1, X', hS', hgr, ⟨L, ⟨hQ, hF', hO'⟩, eL, ec, es, hC'⟩, st⟩ := X.virtualBackS hx hown (mvT hZ wl) (mvT hZ wd) (hnf _ (mvT hZ wse)) (mvT hZ wse) (mvT hZ ws) hy bk q1 q3 (g := mkF m pc Ls stk) rfl hsz (Steps.refl _) (argsL := argsL) (rest := rest) hlen hst (by show 2 * 0 + _ ≤ _; omega) hd (fun _ _ => ⟨has, eT, hc, hs⟩)
  dsimp only [Pt.U, Pt.locs, Pt.cells, Pt.slots] at X' hS' hgr hQ hO' eL ec es hC' st
  subst eL ec es
  exact Go.of (fun _ q => st.trans q) (go v U U.vm U.heap ⟨hx, rfl, State.Warmed39.trans (t := s.setVm V) hZ hS'.1, by rw [hS'.1.alike.findClass]; exact hown, hO', hE, hC.trans hC', hlk, _, _, X', hS.trans hS' (Nat.le_trans hk (eT ▸ hgr)), Nat.le_refl _, hF.app hF'⟩ hC' hQ)
/-- invokespecial of a superclass's method -/
theorem g_super {C : String} (S : St p l e R s m args below meth c Z a0 EL n0 own T V h k n) (K : CtrV l Z EL n0 y bytes maxL ret rm as' h sfs QQ) (hsf : ∀ x ∈ sfs, x < h.size ∧ Safe Z EL V h x) (hy1 : y.name ≠ "<init>") (wl : (Cond.methodLink own index y).before a0 Z = true) (N : NI Z y.cls) (ws : (Cond.instanceMethod y).before a0 Z = true) (wu : (Cond.superclass own y.cls).before a0 Z = true) (wi : (Cond.initialized y.cls).before a0 Z = true) (wc : (Cond.code y bytes maxL ret).before a0 Z = true) (hy : y.cls ≠ "java/lang/invoke/MethodHandle" ∧ y.cls ≠ "java/lang/invoke/VarHandle")
    (hd : decode c.code pc = .ok (.invokespecial index, 3)) (hsz : Ls.size = c.maxLocals) (a : Addr) (E : Exa Z h a C) (argsL : List Value) (hlen : ∀ sig, parseMethodDescriptor y.desc = some sig → argsL.length = sig.parameters.length) (hst : stk = argsL.reverse ++ .ref a :: rest) (has : (.ref a :: argsL).toArray = as') (hf : rm.frames + 1 ≤ R.frames) (hl : (rest.map fun v => v.category).sum + (maxL + 11) + rm.locals ≤ R.locals) (hc : k + rm.cells ≤ R.cells) (hs : n + rm.slots ≤ R.slots)
    (go : ∀ v T' V' h', St p l e R s m args below meth c Z a0 EL n0 own T' V' h' (k + rm.cells) (n + rm.slots) → CHn Z EL V h V' h' → QQ v h' V' → Go p e below Q (T'.setTop (mkF m (pc + 3) Ls (v.toList ++ rest)))) : Go p e below Q (T.setTop (mkF m pc Ls stk)) := by
  obtain ⟨hx, eT, hZ, hown, hO, hE, hC, hlk, locs, k0, X, hS, hk, hF⟩ := S
  have bk := backOfSf (s := s) (R := R) (p := p) (e := e) (below := below) (args := args) (W := (rest.map fun v => v.category).sum) (QB := fun v h' vm L => QQ v h' vm ∧ Fr n0 L ∧ Old Z n0 h') (K []) hZ wc wi hf hl hE hC.1 hsf
  obtain ⟨v, vm1, ⟨U, Lc, kc, sc⟩, hW1, X', hS', hgr, ⟨L, ⟨hQ, hF', hO'⟩, eL, ec, es, hC'⟩, st⟩ := superBackS X hx (s := s.setVm V) hZ hown wl (same_own N ws hy) ws wu hy1 bk eT (Ins.self E) (g := mkF m pc Ls stk) rfl hsz wc (argsL := argsL) (rest := rest) hlen hst (by show 2 * 0 + _ ≤ _; omega) hd (fun _ _ => ⟨has, eT, hc, hs⟩)
  dsimp only [Pt.U, Pt.locs, Pt.cells, Pt.slots] at X' hS' hgr hQ hO' eL ec es hC' st
  subst eL ec es
  exact Go.of (fun _ q => st.trans q) (go v U U.vm U.heap ⟨hx, rfl, State.Warmed39.trans (t := s.setVm V) hZ hS'.1, by rw [hS'.1.alike.findClass]; exact hown, hO', hE, hC.trans hC', hlk, _, _, X', hS.trans hS' (Nat.le_trans hk (eT ▸ hgr)), Nat.le_refl _, hF.app hF'⟩ hC' hQ)
/-- invokevirtual of a private method -/
theorem g_private {C : String} (S : St p l e R s m args below meth c Z a0 EL n0 own T V h k n) (K : CtrV l Z EL n0 y bytes maxL ret rm as' h sfs QQ) (hsf : ∀ x ∈ sfs, x < h.size ∧ Safe Z EL V h x) (wl : (Cond.methodLink own index y).before a0 Z = true) (N : NI Z y.cls) (wp : (Cond.privateMethod y).before a0 Z = true) (ws : (Cond.instanceMethod y).before a0 Z = true) (wi : (Cond.initialized y.cls).before a0 Z = true) (wc : (Cond.code y bytes maxL ret).before a0 Z = true) (hy : y.cls ≠ "java/lang/invoke/MethodHandle" ∧ y.cls ≠ "java/lang/invoke/VarHandle")
    (hd : decode c.code pc = .ok (.invokevirtual index, 3)) (hsz : Ls.size = c.maxLocals) (a : Addr) (E : Exa Z h a C) (argsL : List Value) (hlen : ∀ sig, parseMethodDescriptor y.desc = some sig → argsL.length = sig.parameters.length) (hst : stk = argsL.reverse ++ .ref a :: rest) (has : (.ref a :: argsL).toArray = as') (hf : rm.frames + 1 ≤ R.frames) (hl : (rest.map fun v => v.category).sum + (maxL + 11) + rm.locals ≤ R.locals) (hc : k + rm.cells ≤ R.cells) (hs : n + rm.slots ≤ R.slots)
    (go : ∀ v T' V' h', St p l e R s m args below meth c Z a0 EL n0 own T' V' h' (k + rm.cells) (n + rm.slots) → CHn Z EL V h V' h' → QQ v h' V' → Go p e below Q (T'.setTop (mkF m (pc + 3) Ls (v.toList ++ rest)))) : Go p e below Q (T.setTop (mkF m pc Ls stk)) := by
  obtain ⟨hx, eT, hZ, hown, hO, hE, hC, hlk, locs, k0, X, hS, hk, hF⟩ := S
  have bk := backOfSf (s := s) (R := R) (p := p) (e := e) (below := below) (args := args) (W := (rest.map fun v => v.category).sum) (QB := fun v h' vm L => QQ v h' vm ∧ Fr n0 L ∧ Old Z n0 h') (K []) hZ wc wi hf hl hE hC.1 hsf
  obtain ⟨cell, hcell, hobj⟩ := E.cell
  have wp' := Cond.privateMethod_at (mvP (s := s.setVm V) (args := args) hZ wp)
  have ws' : (Cond.instanceMethod y).before args (s.setVm V) = true := mvT (s := s.setVm V) hZ ws
  obtain ⟨v, vm1, ⟨U, Lc, kc, sc⟩, hW1, X', hS', hgr, ⟨L, ⟨hQ, hF', hO'⟩, eL, ec, es, hC'⟩, st⟩ := X.privateBackS hx hown (mvT (s := s.setVm V) hZ wl) ws' (sel_own (a0 := a0) hZ rfl N ws' wp' hy) wp' (mvT (s := s.setVm V) hZ wc) hy bk (g := mkF m pc Ls stk) rfl hsz (Steps.refl _) (a := a) (cell := cell) (by rw [eT]; exact hcell) hobj (argsL := argsL) (rest := rest) hlen hst (by show 2 * 0 + _ ≤ _; omega) hd (fun _ _ => ⟨has, eT, hc, hs⟩)
  dsimp only [Pt.U, Pt.locs, Pt.cells, Pt.slots] at X' hS' hgr hQ hO' eL ec es hC' st
  subst eL ec es
  exact Go.of (fun _ q => st.trans q) (go v U U.vm U.heap ⟨hx, rfl, State.Warmed39.trans (t := s.setVm V) hZ hS'.1, by rw [hS'.1.alike.findClass]; exact hown, hO', hE, hC.trans hC', hlk, _, _, X', hS.trans hS' (Nat.le_trans hk (eT ▸ hgr)), Nat.le_refl _, hF.app hF'⟩ hC' hQ)
/-- System.arraycopy of primitives -/
theorem g_copy (S : St p l e R s m args below meth c Z a0 EL n0 own T V h k n) (w1 : (Cond.methodLink own index Jvm.Stand.acN).before a0 Z = true) (w2 : (Cond.native Jvm.Stand.acN).before a0 Z = true) (w3 : (Cond.static Jvm.Stand.acN).before a0 Z = true) (w4 : (Cond.initialized "java/lang/System").before a0 Z = true)
    {a b : Addr} {ka kb : ClassId} {ty : FieldType} {za zb sp dp nn : Int32} {vs vd us : List Value} {dv dd : Value} (A : Arv Z h a ka ty za vs dv) (B : Arv Z h b kb ty zb vd dd) (hty : refKind ty = false) (h1 : ¬ sp < 0) (h2 : ¬ dp < 0) (h3 : ¬ nn < 0) (h4 : sp.toNatClampNeg + nn.toNatClampNeg ≤ za.toNatClampNeg) (h5 : dp.toNatClampNeg + nn.toNatClampNeg ≤ zb.toNatClampNeg)
    (hus : us = (List.range nn.toNatClampNeg).map fun i => vs.getD (sp.toNatClampNeg + i) dv) (hl : dp.toNatClampNeg + nn.toNatClampNeg ≤ vd.length) (ge : n0 ≤ b) (sf : Safe Z EL V h b) (hd : decode c.code pc = .ok (.invokestatic index, 3)) (hsz : Ls.size = c.maxLocals) (hf : 1 ≤ R.frames) (hlo : (rest.map fun v => v.category).sum + (nativeFrameWords "java/lang/System" "arraycopy" 5 + 11) ≤ R.locals)
    (go : ∀ T' h', St p l e R s m args below meth c Z a0 EL n0 own T' V h' k n → Keep h h' [b] → Arv Z h' b kb ty zb (vd.take dp.toNatClampNeg ++ us ++ vd.drop (dp.toNatClampNeg + nn.toNatClampNeg)) dd → Safe Z EL V h' b → Go p e below Q (T'.setTop (mkF m (pc + 3) Ls rest))) : Go p e below Q (T.setTop (mkF m pc Ls (.int nn :: .int dp :: .ref b :: .int sp :: .ref a :: rest))) := by
  obtain ⟨hx, eT, hZ, hown, hO, hE, hC, hlk, locs, k0, X, hS, hk, hF⟩ := S
  obtain ⟨T', h', L, X', e', hF', K, A', st⟩ := cpA X hx (s := s.setVm V) hZ hown w1 w2 w3 w4 eT A B (Or.inl ⟨rfl, hty⟩) h1 h2 h3 h4 h5 hus hl hF ge (g := mkF m pc Ls (.int nn :: .int dp :: .ref b :: .int sp :: .ref a :: rest)) rfl hsz rfl hd hf (W := (rest.map fun v => v.category).sum) (by show 2 * 0 + _ ≤ _; omega) hlo
  have sfs : ∀ x ∈ [b], Safe Z EL V h x := fun x q => by cases List.mem_singleton.mp q; exact sf
  exact Go.of st (go T' h' ⟨hx, e', hZ, hown, hO.keep K (allS ge all0), hE, hC.trans (CHn.keep K sfs hC.1), hlk, L, k0, X', hS, Nat.le_trans hk K.1, hF'⟩ K A' (Safe.keep K sfs hC.1 sf))
/-- a callee that is paid by a narrow law of the library's (or of a pasted text's): rc cells, rs slots -/
abbrev BkC (l : Launch) (R : Room) (p : Program) (e : Env) (below : List Frame) (s : State) (args : Array Value) (y : MethodName) (W : Nat) (as' : Array Value) (h : Heap) (rc rs : Nat) (QB : Option Value → Heap → List Loc → Prop) : Prop :=
  Back l R p e below s args y 3 W (fun A a => a = as' ∧ A.U.heap = h ∧ A.cells + rc ≤ R.cells ∧ A.slots + rs ≤ R.slots) (fun A _ v B => ∃ L, QB v B.U.heap L ∧ B.locs = A.locs ++ L ∧ B.cells = A.cells + rc ∧ B.slots = A.slots + rs)
theorem g_staticB {rc rs : Nat} {QB : Option Value → Heap → List Loc → Prop} (S : St p l e R s m args below meth c Z a0 EL n0 own T V h k n) {W : Nat} (B : ∀ s' : State, Z.Warmed39 s'.vm → BkC l R p e below s' args y W as' h rc rs QB) (wl : (Cond.methodLink own index y).before a0 Z = true) (ws : (Cond.static y).before a0 Z = true) (wi : (Cond.initialized y.cls).before a0 Z = true) (wc : (Cond.code y bytes maxL ret).before a0 Z = true) (hy : y.cls ≠ "java/lang/invoke/MethodHandle" ∧ y.cls ≠ "java/lang/invoke/VarHandle")
    (hd : decode c.code pc = .ok (.invokestatic index, 3)) (hsz : Ls.size = c.maxLocals) (argsL : List Value) (hlen : ∀ sig, parseMethodDescriptor y.desc = some sig → argsL.length = sig.parameters.length) (hst : stk = argsL.reverse ++ rest) (has : argsL.toArray = as') (hW : (rest.map fun v => v.category).sum ≤ W) (hc : k + rc ≤ R.cells) (hs : n + rs ≤ R.slots)
    (hq : ∀ v h' L, QB v h' L → Fr n0 L ∧ ∃ xs, Keep h h' xs ∧ (∀ x ∈ xs, Safe Z EL V h x) ∧ ∀ x ∈ xs, n0 ≤ x)
    (go : ∀ v T' h' L, St p l e R s m args below meth c Z a0 EL n0 own T' V h' (k + rc) (n + rs) → QB v h' L → Go p e below Q (T'.setTop (mkF m (pc + 3) Ls (v.toList ++ rest)))) : Go p e below Q (T.setTop (mkF m pc Ls stk)) := by
  obtain ⟨hx, eT, hZ, hown, hO, hE, hC, hlk, locs, k0, X, hS, hk, hF⟩ := S
  obtain ⟨v, vm1, ⟨U, Lc, kc, sc⟩, hW1, X', ⟨L, hQ, eL, ec, es⟩, st⟩ := Jvm.LawKit.callS X hx hown (mvT hZ wl) (mvT hZ ws) (mvT hZ wi) (mvT hZ wc) hy (B (s.setVm V) hZ) (g := mkF m pc Ls stk) rfl hsz (argsL := argsL) (rest := rest) hlen hst (by show 2 * 0 + _ ≤ _; omega) hd (fun _ _ => ⟨has, eT, hc, hs⟩)
  dsimp only [Pt.U, Pt.locs, Pt.cells, Pt.slots] at X' hQ eL ec es st
  subst eL ec es
  obtain ⟨hF', xs, K, sf, nx⟩ := hq _ _ _ hQ
  exact Go.of st (go v U U.heap L ⟨hx, rfl, hZ, hown, hO.keep K nx, hE, hC.trans (CHn.keep K sf hC.1), hlk, _, _, X', hS, Nat.le_trans hk K.1, hF.app hF'⟩ hQ)
theorem g_specialB {rc rs : Nat} {QB : Option Value → Heap → List Loc → Prop} (S : St p l e R s m args below meth c Z a0 EL n0 own T V h k n) {W : Nat} (B : ∀ s' : State, Z.Warmed39 s'.vm → BkC l R p e below s' args y W as' h rc rs QB) (hy1 : y.name = "<init>") (wl : (Cond.methodLink own index y).before a0 Z = true) (ws : (Cond.instanceMethod y).before a0 Z = true) (wc : (Cond.code y bytes maxL none).before a0 Z = true) (hy : y.cls ≠ "java/lang/invoke/MethodHandle" ∧ y.cls ≠ "java/lang/invoke/VarHandle")
    (hd : decode c.code pc = .ok (.invokespecial index, 3)) (hsz : Ls.size = c.maxLocals) (a : Addr) (argsL : List Value) (hlen : ∀ sig, parseMethodDescriptor y.desc = some sig → argsL.length = sig.parameters.length) (hst : stk = argsL.reverse ++ .ref a :: rest) (has : (.ref a :: argsL).toArray = as') (hW : (rest.map fun v => v.category).sum ≤ W) (hc : k + rc ≤ R.cells) (hs : n + rs ≤ R.slots)
    (hq : ∀ v h' L, QB v h' L → Fr n0 L ∧ ∃ xs, Keep h h' xs ∧ (∀ x ∈ xs, Safe Z EL V h x) ∧ ∀ x ∈ xs, n0 ≤ x)
    (go : ∀ v T' h' L, St p l e R s m args below meth c Z a0 EL n0 own T' V h' (k + rc) (n + rs) → QB v h' L → Go p e below Q (T'.setTop (mkF m (pc + 3) Ls (v.toList ++ rest)))) : Go p e below Q (T.setTop (mkF m pc Ls stk)) := by
  obtain ⟨hx, eT, hZ, hown, hO, hE, hC, hlk, locs, k0, X, hS, hk, hF⟩ := S
  obtain ⟨v, vm1, ⟨U, Lc, kc, sc⟩, hW1, X', ⟨L, hQ, eL, ec, es⟩, st⟩ := X.specialBack hx hy1 hown (mvT hZ wl) (mvT hZ ws) (mvT hZ wc) hy (B (s.setVm V) hZ) (g := mkF m pc Ls stk) rfl hsz (Steps.refl _) (a := a) (argsL := argsL) (rest := rest) hlen hst (by show 2 * 0 + _ ≤ _; omega) hd (fun _ _ => ⟨has, eT, hc, hs⟩)
  dsimp only [Pt.U, Pt.locs, Pt.cells, Pt.slots] at X' hQ eL ec es st
  subst eL ec es
  obtain ⟨hF', xs, K, sf, nx⟩ := hq _ _ _ hQ
  exact Go.of (fun _ q => st.trans q) (go v U U.heap L ⟨hx, rfl, hZ, hown, hO.keep K nx, hE, hC.trans (CHn.keep K sf hC.1), hlk, _, _, X', hS, Nat.le_trans hk K.1, hF.app hF'⟩ hQ)
theorem g_virtualB {C : String} {rc rs : Nat} {QB : Option Value → Heap → List Loc → Prop} (S : St p l e R s m args below meth c Z a0 EL n0 own T V h k n) {W : Nat} (B : ∀ s' : State, Z.Warmed39 s'.vm → BkC l R p e below s' args z W as' h rc rs QB) (wl : (Cond.methodLink own index y).before a0 Z = true) (wd : (Cond.declares y).before a0 Z = true) (wse : (Cond.selects C y z).before a0 Z = true) (ws : (Cond.instanceMethod z).before a0 Z = true) (hy : y.cls ≠ "java/lang/invoke/MethodHandle" ∧ y.cls ≠ "java/lang/invoke/VarHandle")
    (hnf : ∀ s' : State, (Cond.selects C y z).before args s' = true → NotFace s' y) (hd : decode c.code pc = .ok (.invokevirtual index, 3)) (hsz : Ls.size = c.maxLocals) (a : Addr) (E : Exa Z h a C) (argsL : List Value) (hlen : ∀ sig, parseMethodDescriptor y.desc = some sig → argsL.length = sig.parameters.length) (hst : stk = argsL.reverse ++ .ref a :: rest) (has : (.ref a :: argsL).toArray = as') (hW : (rest.map fun v => v.category).sum ≤ W) (hc : k + rc ≤ R.cells) (hs : n + rs ≤ R.slots)
    (hq : ∀ v h' L, QB v h' L → Fr n0 L ∧ ∃ xs, Keep h h' xs ∧ (∀ x ∈ xs, Safe Z EL V h x) ∧ ∀ x ∈ xs, n0 ≤ x)
    (go : ∀ v T' h' L, St p l e R s m args below meth c Z a0 EL n0 own T' V h' (k + rc) (n + rs) → QB v h' L → Go p e below Q (T'.setTop (mkF m (pc + 3) Ls (v.toList ++ rest)))) : Go p e below Q (T.setTop (mkF m pc Ls stk)) := by
  obtain ⟨hx, eT, hZ, hown, hO, hE, hC, hlk, locs, k0, X, hS, hk, hF⟩ := S
  obtain ⟨cq, kq, q1, q2, q3⟩ := isOf (s := s.setVm V) hZ eT E
  obtain ⟨v, vm1, ⟨U, Lc, kc, sc⟩, hW1, X', ⟨L, hQ, eL, ec, es⟩, st⟩ := X.virtualBack hx hown (mvT hZ wl) (mvT hZ wd) (hnf _ (mvT hZ wse)) (mvT hZ wse) (mvT hZ ws) hy (B (s.setVm V) hZ) q1 q3 (g := mkF m pc Ls stk) rfl hsz (Steps.refl _) (argsL := argsL) (rest := rest) hlen hst (by show 2 * 0 + _ ≤ _; omega) hd (fun _ _ => ⟨has, eT, hc, hs⟩)
  dsimp only [Pt.U, Pt.locs, Pt.cells, Pt.slots] at X' hQ eL ec es st
  subst eL ec es
  obtain ⟨hF', xs, K, sf, nx⟩ := hq _ _ _ hQ
  exact Go.of (fun _ q => st.trans q) (go v U U.heap L ⟨hx, rfl, hZ, hown, hO.keep K nx, hE, hC.trans (CHn.keep K sf hC.1), hlk, _, _, X', hS, Nat.le_trans hk K.1, hF.app hF'⟩ hQ)
end Calls
theorem g_icmp (S : St p l e R s m args below meth c Z a0 EL n0 own T V h k n) {cd : ClassFile.Cond} {x y : Int32} {o : Int} {pcT : Nat} (hd : decode c.code pc = .ok (.if_icmp cd o, 3)) (ho : 0 ≤ (pc : Int) + o) (hp : ((pc : Int) + o).toNat = pcT) (yes : if_icmp.holds cd x y = true → Go p e below Q (T.setTop (mkF m pcT Ls rest))) (no : if_icmp.holds cd x y = false → Go p e below Q (T.setTop (mkF m (pc + 3) Ls rest))) : Go p e below Q (T.setTop (mkF m pc Ls (.int y :: .int x :: rest))) := by
  cases q : if_icmp.holds cd x y
  · exact Go.of (fun _ r => XS.icmpNo S.here S.hx rfl hd rfl q r) (no q)
  · exact Go.of (fun _ r => XS.icmpYes S.here S.hx rfl (pc0 := pc) (pc' := pcT) rfl hd rfl q ho hp r) (yes q)
theorem g_if (S : St p l e R s m args below meth c Z a0 EL n0 own T V h k n) {cd : ClassFile.Cond} {x : Int32} {o : Int} {pcT : Nat} (hd : decode c.code pc = .ok (.ifCond cd o, 3)) (ho : 0 ≤ (pc : Int) + o) (hp : ((pc : Int) + o).toNat = pcT) (yes : if_icmp.holds cd x 0 = true → Go p e below Q (T.setTop (mkF m pcT Ls rest))) (no : if_icmp.holds cd x 0 = false → Go p e below Q (T.setTop (mkF m (pc + 3) Ls rest))) : Go p e below Q (T.setTop (mkF m pc Ls (.int x :: rest))) := by
  cases q : if_icmp.holds cd x 0
  · exact Go.of (fun _ r => XS.ifNo S.here S.hx rfl hd rfl ((if0 _ _).trans q) r) (no q)
  · exact Go.of (fun _ r => XS.ifYes S.here S.hx rfl (pc0 := pc) (pc' := pcT) rfl hd rfl ((if0 _ _).trans q) ho hp r) (yes q)
theorem icT_eq {x y : Int32} (h : if_icmp.holds .eq x y = true) : x = y := by simpa [if_icmp.holds] using h
theorem icF_eq {x y : Int32} (h : if_icmp.holds .eq x y = false) : ¬ x = y := by simpa [if_icmp.holds] using h
theorem icT_ne {x y : Int32} (h : if_icmp.holds .ne x y = true) : ¬ x = y := by simpa [if_icmp.holds] using h
theorem icF_ne {x y : Int32} (h : if_icmp.holds .ne x y = false) : x = y := by simpa [if_icmp.holds] using h
theorem icT_lt {x y : Int32} (h : if_icmp.holds .lt x y = true) : x < y := by simpa [if_icmp.holds] using h
theorem icF_lt {x y : Int32} (h : if_icmp.holds .lt x y = false) : ¬ x < y := by simpa [if_icmp.holds] using h
theorem icT_ge {x y : Int32} (h : if_icmp.holds .ge x y = true) : ¬ x < y := fun q => by rw [(tlt q).2.1] at h; cases h
theorem icF_ge {x y : Int32} (h : if_icmp.holds .ge x y = false) : x < y := Decidable.byContradiction fun q => by rw [(flt q).2.1] at h; cases h
theorem icT_gt {x y : Int32} (h : if_icmp.holds .gt x y = true) : y < x := Decidable.byContradiction fun q => by rw [(flt q).2.2.1] at h; cases h
theorem icF_gt {x y : Int32} (h : if_icmp.holds .gt x y = false) : ¬ y < x := fun q => by rw [(tlt q).2.2.1] at h; cases h
theorem icT_le {x y : Int32} (h : if_icmp.holds .le x y = true) : ¬ y < x := fun q => by rw [(tlt q).2.2.2] at h; cases h
theorem icF_le {x y : Int32} (h : if_icmp.holds .le x y = false) : y < x := Decidable.byContradiction fun q => by rw [(flt q).2.2.2] at h; cases h
theorem g_caload (S : St p l e R s m args below meth c Z a0 EL n0 own T V h k n) {a : Addr} {kc : ClassId} {z : Int32} {vs : List Value} {dv : Value} (A : Arv Z h a kc .char z vs dv) {j : Int32} (hj : ¬ j < 0 ∧ j < z) {x : Int32} (hv : vs.getD j.toNatClampNeg dv = .int x) (hd : decode c.code pc = .ok (.caload, 1)) (go : Go p e below Q (T.setTop (mkF m (pc + 1) Ls (.int x :: rest)))) : Go p e below Q (T.setTop (mkF m pc Ls (.int j :: .ref a :: rest))) := by
  obtain ⟨hx, eT, hZ, hown, hO, hE, hC, hlk, locs, k0, X, hS, hk, hF⟩ := S
  obtain ⟨cl, Ar, q1, q2, q3, q4, q5⟩ := A
  have hin := inb_of q2 hj
  exact Go.of (fun _ q => X.caload hx (j := j) (v := .int x) (by rw [eT]; exact Ar.1) (State.isArrayOf_alike (T := s.setVm V) hZ.alike Ar.2.1) Ar.2.2 hin (q4.at hin hv) (g := mkF m pc Ls (.int j :: .ref a :: rest)) rfl rfl hd _ q) go
theorem g_len (S : St p l e R s m args below meth c Z a0 EL n0 own T V h k n) {a : Addr} {kc : ClassId} {ty : FieldType} {z : Int32} {vs : List Value} {dv : Value} (A : Arv Z h a kc ty z vs dv) (hd : decode c.code pc = .ok (.arraylength, 1)) (go : Go p e below Q (T.setTop (mkF m (pc + 1) Ls (.int z :: rest)))) : Go p e below Q (T.setTop (mkF m pc Ls (.ref a :: rest))) := by
  obtain ⟨hx, eT, hZ, hown, hO, hE, hC, hlk, locs, k0, X, hS, hk, hF⟩ := S
  obtain ⟨cl, Ar, q1, q2, q3, q4, q5⟩ := A
  rw [← len_of q2 q3] at go
  exact Go.of (fun _ q => X.arraylength hx (by rw [eT]; exact Ar.1) (State.isArrayOf_alike (T := s.setVm V) hZ.alike Ar.2.1) (g := mkF m pc Ls (.ref a :: rest)) rfl rfl hd _ q) go
theorem s_iload {i : Nat} {v : Int32} (S : St p l e R s m args below meth c Z a0 EL n0 own T V h k n) (hd : decode c.code pc = .ok (.iload i, 2)) (hv : Ls[i]? = some (.val (.int v))) {pc' : Nat} (hp : pc + 2 = pc') (go : Go p e below Q (T.setTop (mkF m pc' Ls (.int v :: rest)))) : Go p e below Q (T.setTop (mkF m pc Ls rest)) := by
  subst hp; exact Go.of (fun _ q => XS.iload S.here S.hx rfl hd hv q) go
theorem s_iloadN {i : Fin 4} {v : Int32} (S : St p l e R s m args below meth c Z a0 EL n0 own T V h k n) (hd : decode c.code pc = .ok (.iload_n i, 1)) (hv : Ls[i.val]? = some (.val (.int v))) {pc' : Nat} (hp : pc + 1 = pc') (go : Go p e below Q (T.setTop (mkF m pc' Ls (.int v :: rest)))) : Go p e below Q (T.setTop (mkF m pc Ls rest)) := by
  subst hp; exact Go.of (fun _ q => XS.iloadN S.here S.hx rfl hd hv q) go
theorem s_lload {i : Nat} {v : Int64} (S : St p l e R s m args below meth c Z a0 EL n0 own T V h k n) (hd : decode c.code pc = .ok (.lload i, 2)) (hv : Ls[i]? = some (.val (.long v))) {pc' : Nat} (hp : pc + 2 = pc') (go : Go p e below Q (T.setTop (mkF m pc' Ls (.long v :: rest)))) : Go p e below Q (T.setTop (mkF m pc Ls rest)) := by
  subst hp; exact Go.of (fun _ q => XS.lload S.here S.hx rfl hd hv q) go
theorem s_lloadN {i : Fin 4} {v : Int64} (S : St p l e R s m args below meth c Z a0 EL n0 own T V h k n) (hd : decode c.code pc = .ok (.lload_n i, 1)) (hv : Ls[i.val]? = some (.val (.long v))) {pc' : Nat} (hp : pc + 1 = pc') (go : Go p e below Q (T.setTop (mkF m pc' Ls (.long v :: rest)))) : Go p e below Q (T.setTop (mkF m pc Ls rest)) := by
  subst hp; exact Go.of (fun _ q => XS.lloadN S.here S.hx rfl hd hv q) go
theorem s_aload {i : Nat} {v : Value} (S : St p l e R s m args below meth c Z a0 EL n0 own T V h k n) (hd : decode c.code pc = .ok (.aload i, 2)) (hv : Ls[i]? = some (.val v)) (hr : v.isRef = true) {pc' : Nat} (hp : pc + 2 = pc') (go : Go p e below Q (T.setTop (mkF m pc' Ls (v :: rest)))) : Go p e below Q (T.setTop (mkF m pc Ls rest)) := by
  subst hp; exact Go.of (fun _ q => XS.aload S.here S.hx rfl hd hv hr q) go
theorem s_aloadN {i : Fin 4} {v : Value} (S : St p l e R s m args below meth c Z a0 EL n0 own T V h k n) (hd : decode c.code pc = .ok (.aload_n i, 1)) (hv : Ls[i.val]? = some (.val v)) (hr : v.isRef = true) {pc' : Nat} (hp : pc + 1 = pc') (go : Go p e below Q (T.setTop (mkF m pc' Ls (v :: rest)))) : Go p e below Q (T.setTop (mkF m pc Ls rest)) := by
  subst hp; exact Go.of (fun _ q => XS.aloadN S.here S.hx rfl hd hv hr q) go
theorem s_istore {i : Nat} {v : Int32} {L' : Array Slot} (S : St p l e R s m args below meth c Z a0 EL n0 own T V h k n) (hd : decode c.code pc = .ok (.istore i, 2)) (hl : storeLocals Ls i (.int v) = some L') {pc' : Nat} (hp : pc + 2 = pc') (go : Go p e below Q (T.setTop (mkF m pc' L' rest))) : Go p e below Q (T.setTop (mkF m pc Ls (.int v :: rest))) := by
  subst hp; exact Go.of (fun _ q => XS.istore S.here S.hx rfl hd rfl hl q) go
theorem s_istoreN {i : Fin 4} {v : Int32} {L' : Array Slot} (S : St p l e R s m args below meth c Z a0 EL n0 own T V h k n) (hd : decode c.code pc = .ok (.istore_n i, 1)) (hl : storeLocals Ls i.val (.int v) = some L') {pc' : Nat} (hp : pc + 1 = pc') (go : Go p e below Q (T.setTop (mkF m pc' L' rest))) : Go p e below Q (T.setTop (mkF m pc Ls (.int v :: rest))) := by
  subst hp; exact Go.of (fun _ q => XS.istoreN S.here S.hx rfl hd rfl hl q) go
theorem s_lstore {i : Nat} {v : Int64} {L' : Array Slot} (S : St p l e R s m args below meth c Z a0 EL n0 own T V h k n) (hd : decode c.code pc = .ok (.lstore i, 2)) (hl : storeLocals Ls i (.long v) = some L') {pc' : Nat} (hp : pc + 2 = pc') (go : Go p e below Q (T.setTop (mkF m pc' L' rest))) : Go p e below Q (T.setTop (mkF m pc Ls (.long v :: rest))) := by
  subst hp; exact Go.of (fun _ q => XS.lstore S.here S.hx rfl hd rfl hl q) go
theorem s_lstoreN {i : Fin 4} {v : Int64} {L' : Array Slot} (S : St p l e R s m args below meth c Z a0 EL n0 own T V h k n) (hd : decode c.code pc = .ok (.lstore_n i, 1)) (hl : storeLocals Ls i.val (.long v) = some L') {pc' : Nat} (hp : pc + 1 = pc') (go : Go p e below Q (T.setTop (mkF m pc' L' rest))) : Go p e below Q (T.setTop (mkF m pc Ls (.long v :: rest))) := by
  subst hp; exact Go.of (fun _ q => XS.lstoreN S.here S.hx rfl hd rfl hl q) go
theorem s_astore {i : Nat} {v : Value} {L' : Array Slot} (S : St p l e R s m args below meth c Z a0 EL n0 own T V h k n) (hd : decode c.code pc = .ok (.astore i, 2)) (hr : v.isRef = true) (hl : storeLocals Ls i v = some L') {pc' : Nat} (hp : pc + 2 = pc') (go : Go p e below Q (T.setTop (mkF m pc' L' rest))) : Go p e below Q (T.setTop (mkF m pc Ls (v :: rest))) := by
  subst hp; exact Go.of (fun _ q => XS.astore S.here S.hx rfl hd rfl hr hl q) go
theorem s_astoreN {i : Fin 4} {v : Value} {L' : Array Slot} (S : St p l e R s m args below meth c Z a0 EL n0 own T V h k n) (hd : decode c.code pc = .ok (.astore_n i, 1)) (hr : v.isRef = true) (hl : storeLocals Ls i.val v = some L') {pc' : Nat} (hp : pc + 1 = pc') (go : Go p e below Q (T.setTop (mkF m pc' L' rest))) : Go p e below Q (T.setTop (mkF m pc Ls (v :: rest))) := by
  subst hp; exact Go.of (fun _ q => XS.astoreN S.here S.hx rfl hd rfl hr hl q) go
theorem s_iconst {i : Int} {v : Int32} (S : St p l e R s m args below meth c Z a0 EL n0 own T V h k n) (hd : decode c.code pc = .ok (.iconst i, 1)) (hv : Int32.ofInt i = v) {pc' : Nat} (hp : pc + 1 = pc') (go : Go p e below Q (T.setTop (mkF m pc' Ls (.int v :: rest)))) : Go p e below Q (T.setTop (mkF m pc Ls rest)) := by
  subst hp hv; exact Go.of (fun _ q => XS.iconst S.here S.hx rfl hd q) go
theorem s_bipush {i : Int} {v : Int32} (S : St p l e R s m args below meth c Z a0 EL n0 own T V h k n) (hd : decode c.code pc = .ok (.bipush i, 2)) (hv : (Int8.ofInt i).toInt32 = v) {pc' : Nat} (hp : pc + 2 = pc') (go : Go p e below Q (T.setTop (mkF m pc' Ls (.int v :: rest)))) : Go p e below Q (T.setTop (mkF m pc Ls rest)) := by
  subst hp hv; exact Go.of (fun _ q => XS.bipush S.here S.hx rfl hd q) go
theorem s_sipush {i : Int} {v : Int32} (S : St p l e R s m args below meth c Z a0 EL n0 own T V h k n) (hd : decode c.code pc = .ok (.sipush i, 3)) (hv : (Int16.ofInt i).toInt32 = v) {pc' : Nat} (hp : pc + 3 = pc') (go : Go p e below Q (T.setTop (mkF m pc' Ls (.int v :: rest)))) : Go p e below Q (T.setTop (mkF m pc Ls rest)) := by
  subst hp hv; exact Go.of (fun _ q => XS.sipush S.here S.hx rfl hd q) go
theorem s_null  (S : St p l e R s m args below meth c Z a0 EL n0 own T V h k n) (hd : decode c.code pc = .ok (.aconst_null, 1))  {pc' : Nat} (hp : pc + 1 = pc') (go : Go p e below Q (T.setTop (mkF m pc' Ls (.null :: rest)))) : Go p e below Q (T.setTop (mkF m pc Ls rest)) := by
  subst hp; exact Go.of (fun _ q => XS.aconstNull S.here S.hx rfl hd q) go
theorem s_dup {v : Value} (S : St p l e R s m args below meth c Z a0 EL n0 own T V h k n) (hd : decode c.code pc = .ok (.dup, 1)) (hc : v.category = 1) {pc' : Nat} (hp : pc + 1 = pc') (go : Go p e below Q (T.setTop (mkF m pc' Ls (v :: v :: rest)))) : Go p e below Q (T.setTop (mkF m pc Ls (v :: rest))) := by
  subst hp; exact Go.of (fun _ q => XS.dup S.here S.hx rfl hd rfl hc q) go
theorem s_pop {v : Value} (S : St p l e R s m args below meth c Z a0 EL n0 own T V h k n) (hd : decode c.code pc = .ok (.pop, 1)) (hc : v.category = 1) {pc' : Nat} (hp : pc + 1 = pc') (go : Go p e below Q (T.setTop (mkF m pc' Ls rest))) : Go p e below Q (T.setTop (mkF m pc Ls (v :: rest))) := by
  subst hp; exact Go.of (fun _ q => XS.pop S.here S.hx rfl hd rfl hc q) go
theorem s_dupX1 {v u : Value} (S : St p l e R s m args below meth c Z a0 EL n0 own T V h k n) (hd : decode c.code pc = .ok (.dup_x1, 1)) (hc : v.category = 1) (hu : u.category = 1) {pc' : Nat} (hp : pc + 1 = pc') (go : Go p e below Q (T.setTop (mkF m pc' Ls (v :: u :: v :: rest)))) : Go p e below Q (T.setTop (mkF m pc Ls (v :: u :: rest))) := by
  subst hp; exact Go.of (fun _ q => XS.dupX1 S.here S.hx rfl hd rfl hc hu q) go
theorem s_iadd {x y z : Int32} (S : St p l e R s m args below meth c Z a0 EL n0 own T V h k n) (hd : decode c.code pc = .ok (.iadd, 1)) (hv : x + y = z) {pc' : Nat} (hp : pc + 1 = pc') (go : Go p e below Q (T.setTop (mkF m pc' Ls (.int z :: rest)))) : Go p e below Q (T.setTop (mkF m pc Ls (.int y :: .int x :: rest))) := by
  subst hp hv; exact Go.of (fun _ q => XS.iadd S.here S.hx rfl hd rfl q) go
theorem s_isub {x y z : Int32} (S : St p l e R s m args below meth c Z a0 EL n0 own T V h k n) (hd : decode c.code pc = .ok (.isub, 1)) (hv : x - y = z) {pc' : Nat} (hp : pc + 1 = pc') (go : Go p e below Q (T.setTop (mkF m pc' Ls (.int z :: rest)))) : Go p e below Q (T.setTop (mkF m pc Ls (.int y :: .int x :: rest))) := by
  subst hp hv; exact Go.of (fun _ q => XS.isub S.here S.hx rfl hd rfl q) go
theorem s_imul {x y z : Int32} (S : St p l e R s m args below meth c Z a0 EL n0 own T V h k n) (hd : decode c.code pc = .ok (.imul, 1)) (hv : x * y = z) {pc' : Nat} (hp : pc + 1 = pc') (go : Go p e below Q (T.setTop (mkF m pc' Ls (.int z :: rest)))) : Go p e below Q (T.setTop (mkF m pc Ls (.int y :: .int x :: rest))) := by
  subst hp hv; exact Go.of (fun _ q => XS.imul S.here S.hx rfl hd rfl q) go
theorem s_iand {x y z : Int32} (S : St p l e R s m args below meth c Z a0 EL n0 own T V h k n) (hd : decode c.code pc = .ok (.iand, 1)) (hv : x &&& y = z) {pc' : Nat} (hp : pc + 1 = pc') (go : Go p e below Q (T.setTop (mkF m pc' Ls (.int z :: rest)))) : Go p e below Q (T.setTop (mkF m pc Ls (.int y :: .int x :: rest))) := by
  subst hp hv; exact Go.of (fun _ q => XS.iand S.here S.hx rfl hd rfl q) go
theorem s_ior {x y z : Int32} (S : St p l e R s m args below meth c Z a0 EL n0 own T V h k n) (hd : decode c.code pc = .ok (.ior, 1)) (hv : x ||| y = z) {pc' : Nat} (hp : pc + 1 = pc') (go : Go p e below Q (T.setTop (mkF m pc' Ls (.int z :: rest)))) : Go p e below Q (T.setTop (mkF m pc Ls (.int y :: .int x :: rest))) := by
  subst hp hv; exact Go.of (fun _ q => XS.ior S.here S.hx rfl hd rfl q) go
theorem s_ixor {x y z : Int32} (S : St p l e R s m args below meth c Z a0 EL n0 own T V h k n) (hd : decode c.code pc = .ok (.ixor, 1)) (hv : x ^^^ y = z) {pc' : Nat} (hp : pc + 1 = pc') (go : Go p e below Q (T.setTop (mkF m pc' Ls (.int z :: rest)))) : Go p e below Q (T.setTop (mkF m pc Ls (.int y :: .int x :: rest))) := by
  subst hp hv; exact Go.of (fun _ q => XS.ixor S.here S.hx rfl hd rfl q) go
theorem s_ladd {x y z : Int64} (S : St p l e R s m args below meth c Z a0 EL n0 own T V h k n) (hd : decode c.code pc = .ok (.ladd, 1)) (hv : x + y = z) {pc' : Nat} (hp : pc + 1 = pc') (go : Go p e below Q (T.setTop (mkF m pc' Ls (.long z :: rest)))) : Go p e below Q (T.setTop (mkF m pc Ls (.long y :: .long x :: rest))) := by
  subst hp hv; exact Go.of (fun _ q => XS.ladd S.here S.hx rfl hd rfl q) go
theorem s_lsub {x y z : Int64} (S : St p l e R s m args below meth c Z a0 EL n0 own T V h k n) (hd : decode c.code pc = .ok (.lsub, 1)) (hv : x - y = z) {pc' : Nat} (hp : pc + 1 = pc') (go : Go p e below Q (T.setTop (mkF m pc' Ls (.long z :: rest)))) : Go p e below Q (T.setTop (mkF m pc Ls (.long y :: .long x :: rest))) := by
  subst hp hv; exact Go.of (fun _ q => XS.lsub S.here S.hx rfl hd rfl q) go
theorem s_lmul {x y z : Int64} (S : St p l e R s m args below meth c Z a0 EL n0 own T V h k n) (hd : decode c.code pc = .ok (.lmul, 1)) (hv : x * y = z) {pc' : Nat} (hp : pc + 1 = pc') (go : Go p e below Q (T.setTop (mkF m pc' Ls (.long z :: rest)))) : Go p e below Q (T.setTop (mkF m pc Ls (.long y :: .long x :: rest))) := by
  subst hp hv; exact Go.of (fun _ q => XS.lmul S.here S.hx rfl hd rfl q) go
theorem s_land {x y z : Int64} (S : St p l e R s m args below meth c Z a0 EL n0 own T V h k n) (hd : decode c.code pc = .ok (.land, 1)) (hv : x &&& y = z) {pc' : Nat} (hp : pc + 1 = pc') (go : Go p e below Q (T.setTop (mkF m pc' Ls (.long z :: rest)))) : Go p e below Q (T.setTop (mkF m pc Ls (.long y :: .long x :: rest))) := by
  subst hp hv; exact Go.of (fun _ q => XS.land S.here S.hx rfl hd rfl q) go
theorem s_lor {x y z : Int64} (S : St p l e R s m args below meth c Z a0 EL n0 own T V h k n) (hd : decode c.code pc = .ok (.lor, 1)) (hv : x ||| y = z) {pc' : Nat} (hp : pc + 1 = pc') (go : Go p e below Q (T.setTop (mkF m pc' Ls (.long z :: rest)))) : Go p e below Q (T.setTop (mkF m pc Ls (.long y :: .long x :: rest))) := by
  subst hp hv; exact Go.of (fun _ q => XS.lor S.here S.hx rfl hd rfl q) go
theorem s_lxor {x y z : Int64} (S : St p l e R s m args below meth c Z a0 EL n0 own T V h k n) (hd : decode c.code pc = .ok (.lxor, 1)) (hv : x ^^^ y = z) {pc' : Nat} (hp : pc + 1 = pc') (go : Go p e below Q (T.setTop (mkF m pc' Ls (.long z :: rest)))) : Go p e below Q (T.setTop (mkF m pc Ls (.long y :: .long x :: rest))) := by
  subst hp hv; exact Go.of (fun _ q => XS.lxor S.here S.hx rfl hd rfl q) go
theorem s_ishl {x y z : Int32} (S : St p l e R s m args below meth c Z a0 EL n0 own T V h k n) (hd : decode c.code pc = .ok (.ishl, 1)) (hv : x <<< (y &&& 31) = z) {pc' : Nat} (hp : pc + 1 = pc') (go : Go p e below Q (T.setTop (mkF m pc' Ls (.int z :: rest)))) : Go p e below Q (T.setTop (mkF m pc Ls (.int y :: .int x :: rest))) := by
  subst hp hv; exact Go.of (fun _ q => XS.ishl S.here S.hx rfl hd rfl q) go
theorem s_ishr {x y z : Int32} (S : St p l e R s m args below meth c Z a0 EL n0 own T V h k n) (hd : decode c.code pc = .ok (.ishr, 1)) (hv : x >>> (y &&& 31) = z) {pc' : Nat} (hp : pc + 1 = pc') (go : Go p e below Q (T.setTop (mkF m pc' Ls (.int z :: rest)))) : Go p e below Q (T.setTop (mkF m pc Ls (.int y :: .int x :: rest))) := by
  subst hp hv; exact Go.of (fun _ q => XS.ishr S.here S.hx rfl hd rfl q) go
theorem s_iushr {x y z : Int32} (S : St p l e R s m args below meth c Z a0 EL n0 own T V h k n) (hd : decode c.code pc = .ok (.iushr, 1)) (hv : (x.toUInt32 >>> (y &&& 31).toUInt32).toInt32 = z) {pc' : Nat} (hp : pc + 1 = pc') (go : Go p e below Q (T.setTop (mkF m pc' Ls (.int z :: rest)))) : Go p e below Q (T.setTop (mkF m pc Ls (.int y :: .int x :: rest))) := by
  subst hp hv; exact Go.of (fun _ q => XS.iushr S.here S.hx rfl hd rfl q) go
theorem s_lshl {x z : Int64} {y : Int32} (S : St p l e R s m args below meth c Z a0 EL n0 own T V h k n) (hd : decode c.code pc = .ok (.lshl, 1)) (hv : x <<< (y &&& 0x3f).toInt64 = z) {pc' : Nat} (hp : pc + 1 = pc') (go : Go p e below Q (T.setTop (mkF m pc' Ls (.long z :: rest)))) : Go p e below Q (T.setTop (mkF m pc Ls (.int y :: .long x :: rest))) := by
  subst hp hv; exact Go.of (fun _ q => XS.lshl S.here S.hx rfl hd rfl q) go
theorem s_lshr {x z : Int64} {y : Int32} (S : St p l e R s m args below meth c Z a0 EL n0 own T V h k n) (hd : decode c.code pc = .ok (.lshr, 1)) (hv : x >>> (y &&& 0x3f).toInt64 = z) {pc' : Nat} (hp : pc + 1 = pc') (go : Go p e below Q (T.setTop (mkF m pc' Ls (.long z :: rest)))) : Go p e below Q (T.setTop (mkF m pc Ls (.int y :: .long x :: rest))) := by
  subst hp hv; exact Go.of (fun _ q => XS.lshr S.here S.hx rfl hd rfl q) go
theorem s_lushr {x z : Int64} {y : Int32} (S : St p l e R s m args below meth c Z a0 EL n0 own T V h k n) (hd : decode c.code pc = .ok (.lushr, 1)) (hv : (x.toUInt64 >>> (y &&& 0x3f).toInt64.toUInt64).toInt64 = z) {pc' : Nat} (hp : pc + 1 = pc') (go : Go p e below Q (T.setTop (mkF m pc' Ls (.long z :: rest)))) : Go p e below Q (T.setTop (mkF m pc Ls (.int y :: .long x :: rest))) := by
  subst hp hv; exact Go.of (fun _ q => XS.lushr S.here S.hx rfl hd rfl q) go
theorem s_i2c {x z : Int32} (S : St p l e R s m args below meth c Z a0 EL n0 own T V h k n) (hd : decode c.code pc = .ok (.i2c, 1)) (hv : x.toUInt32.toUInt16.toUInt32.toInt32 = z) {pc' : Nat} (hp : pc + 1 = pc') (go : Go p e below Q (T.setTop (mkF m pc' Ls (.int z :: rest)))) : Go p e below Q (T.setTop (mkF m pc Ls (.int x :: rest))) := by
  subst hp hv; exact Go.of (fun _ q => XS.i2c S.here S.hx rfl hd rfl q) go
theorem s_i2b {x z : Int32} (S : St p l e R s m args below meth c Z a0 EL n0 own T V h k n) (hd : decode c.code pc = .ok (.i2b, 1)) (hv : x.toInt8.toInt32 = z) {pc' : Nat} (hp : pc + 1 = pc') (go : Go p e below Q (T.setTop (mkF m pc' Ls (.int z :: rest)))) : Go p e below Q (T.setTop (mkF m pc Ls (.int x :: rest))) := by
  subst hp hv; exact Go.of (fun _ q => XS.i2b S.here S.hx rfl hd rfl q) go
theorem s_i2s {x z : Int32} (S : St p l e R s m args below meth c Z a0 EL n0 own T V h k n) (hd : decode c.code pc = .ok (.i2s, 1)) (hv : x.toInt16.toInt32 = z) {pc' : Nat} (hp : pc + 1 = pc') (go : Go p e below Q (T.setTop (mkF m pc' Ls (.int z :: rest)))) : Go p e below Q (T.setTop (mkF m pc Ls (.int x :: rest))) := by
  subst hp hv; exact Go.of (fun _ q => XS.i2s S.here S.hx rfl hd rfl q) go
theorem s_i2l {x : Int32} {z : Int64} (S : St p l e R s m args below meth c Z a0 EL n0 own T V h k n) (hd : decode c.code pc = .ok (.i2l, 1)) (hv : x.toInt64 = z) {pc' : Nat} (hp : pc + 1 = pc') (go : Go p e below Q (T.setTop (mkF m pc' Ls (.long z :: rest)))) : Go p e below Q (T.setTop (mkF m pc Ls (.int x :: rest))) := by
  subst hp hv; exact Go.of (fun _ q => XS.i2l S.here S.hx rfl hd rfl q) go
theorem s_l2i {x : Int64} {z : Int32} (S : St p l e R s m args below meth c Z a0 EL n0 own T V h k n) (hd : decode c.code pc = .ok (.l2i, 1)) (hv : x.toInt32 = z) {pc' : Nat} (hp : pc + 1 = pc') (go : Go p e below Q (T.setTop (mkF m pc' Ls (.int z :: rest)))) : Go p e below Q (T.setTop (mkF m pc Ls (.long x :: rest))) := by
  subst hp hv; exact Go.of (fun _ q => XS.l2i S.here S.hx rfl hd rfl q) go
theorem s_lcmp {x y : Int64} {z : Int32} (S : St p l e R s m args below meth c Z a0 EL n0 own T V h k n) (hd : decode c.code pc = .ok (.lcmp, 1)) (hv : lcmpW x y = z) {pc' : Nat} (hp : pc + 1 = pc') (go : Go p e below Q (T.setTop (mkF m pc' Ls (.int z :: rest)))) : Go p e below Q (T.setTop (mkF m pc Ls (.long y :: .long x :: rest))) := by
  subst hp hv; exact Go.of (fun _ q => XS.lcmp S.here S.hx rfl hd rfl q) go
theorem s_idiv {x y z : Int32} (S : St p l e R s m args below meth c Z a0 EL n0 own T V h k n) (hd : decode c.code pc = .ok (.idiv, 1)) (h0 : y ≠ 0) (hv : x / y = z) {pc' : Nat} (hp : pc + 1 = pc') (go : Go p e below Q (T.setTop (mkF m pc' Ls (.int z :: rest)))) : Go p e below Q (T.setTop (mkF m pc Ls (.int y :: .int x :: rest))) := by
  subst hp hv; exact Go.of (fun _ q => XS.idiv S.here S.hx rfl hd rfl h0 q) go
theorem s_ldiv {x y z : Int64} (S : St p l e R s m args below meth c Z a0 EL n0 own T V h k n) (hd : decode c.code pc = .ok (.ldiv, 1)) (h0 : y ≠ 0) (hv : x / y = z) {pc' : Nat} (hp : pc + 1 = pc') (go : Go p e below Q (T.setTop (mkF m pc' Ls (.long z :: rest)))) : Go p e below Q (T.setTop (mkF m pc Ls (.long y :: .long x :: rest))) := by
  subst hp hv; exact Go.of (fun _ q => XS.ldiv S.here S.hx rfl hd rfl h0 q) go
theorem s_irem {x y z : Int32} (S : St p l e R s m args below meth c Z a0 EL n0 own T V h k n) (hd : decode c.code pc = .ok (.irem, 1)) (h0 : y ≠ 0) (hv : x % y = z) {pc' : Nat} (hp : pc + 1 = pc') (go : Go p e below Q (T.setTop (mkF m pc' Ls (.int z :: rest)))) : Go p e below Q (T.setTop (mkF m pc Ls (.int y :: .int x :: rest))) := by
  subst hp hv; rw [← irem_eq_mod] at go; exact Go.of (fun _ q => XS.irem S.here S.hx rfl hd rfl h0 q) go
theorem s_goto (S : St p l e R s m args below meth c Z a0 EL n0 own T V h k n) {o : Int} {pcT : Nat} (hd : decode c.code pc = .ok (.goto o, 3)) (ho : 0 ≤ (pc : Int) + o) (hp : ((pc : Int) + o).toNat = pcT) (go : Go p e below Q (T.setTop (mkF m pcT Ls rest))) : Go p e below Q (T.setTop (mkF m pc Ls rest)) := Go.of (fun _ q => XS.goto S.here S.hx rfl (pc0 := pc) (pc' := pcT) rfl hd ho hp q) go
theorem s_iinc {i : Nat} {d : Int} {v z : Int32} {L' : Array Slot} (S : St p l e R s m args below meth c Z a0 EL n0 own T V h k n) (hd : decode c.code pc = .ok (.iinc i d, 3)) (hv : Ls[i]? = some (.val (.int v))) (hz : v + Int32.ofInt d = z) (hl : storeLocals Ls i (.int z) = some L') {pc' : Nat} (hp : pc + 3 = pc') (go : Go p e below Q (T.setTop (mkF m pc' L' rest))) : Go p e below Q (T.setTop (mkF m pc Ls rest)) := by
  subst hp hz; exact Go.of (fun _ q => XS.iinc S.here S.hx rfl hd hv hl q) go
theorem s_icmpY (S : St p l e R s m args below meth c Z a0 EL n0 own T V h k n) {cd : ClassFile.Cond} {x y : Int32} {o : Int} {pcT : Nat} (hd : decode c.code pc = .ok (.if_icmp cd o, 3)) (hc : if_icmp.holds cd x y = true) (ho : 0 ≤ (pc : Int) + o) (hp : ((pc : Int) + o).toNat = pcT) (go : Go p e below Q (T.setTop (mkF m pcT Ls rest))) : Go p e below Q (T.setTop (mkF m pc Ls (.int y :: .int x :: rest))) := Go.of (fun _ r => XS.icmpYes S.here S.hx rfl (pc0 := pc) (pc' := pcT) rfl hd rfl hc ho hp r) go
theorem s_icmpN (S : St p l e R s m args below meth c Z a0 EL n0 own T V h k n) {cd : ClassFile.Cond} {x y : Int32} {o : Int} (hd : decode c.code pc = .ok (.if_icmp cd o, 3)) (hc : if_icmp.holds cd x y = false) {pc' : Nat} (hp : pc + 3 = pc') (go : Go p e below Q (T.setTop (mkF m pc' Ls rest))) : Go p e below Q (T.setTop (mkF m pc Ls (.int y :: .int x :: rest))) := by
  subst hp; exact Go.of (fun _ r => XS.icmpNo S.here S.hx rfl hd rfl hc r) go
theorem s_ifY (S : St p l e R s m args below meth c Z a0 EL n0 own T V h k n) {cd : ClassFile.Cond} {x : Int32} {o : Int} {pcT : Nat} (hd : decode c.code pc = .ok (.ifCond cd o, 3)) (hc : ifCond.holds cd x = true) (ho : 0 ≤ (pc : Int) + o) (hp : ((pc : Int) + o).toNat = pcT) (go : Go p e below Q (T.setTop (mkF m pcT Ls rest))) : Go p e below Q (T.setTop (mkF m pc Ls (.int x :: rest))) := Go.of (fun _ r => XS.ifYes S.here S.hx rfl (pc0 := pc) (pc' := pcT) rfl hd rfl hc ho hp r) go
theorem s_ifN (S : St p l e R s m args below meth c Z a0 EL n0 own T V h k n) {cd : ClassFile.Cond} {x : Int32} {o : Int} (hd : decode c.code pc = .ok (.ifCond cd o, 3)) (hc : ifCond.holds cd x = false) {pc' : Nat} (hp : pc + 3 = pc') (go : Go p e below Q (T.setTop (mkF m pc' Ls rest))) : Go p e below Q (T.setTop (mkF m pc Ls (.int x :: rest))) := by
  subst hp; exact Go.of (fun _ r => XS.ifNo S.here S.hx rfl hd rfl hc r) go
theorem s_nullY (S : St p l e R s m args below meth c Z a0 EL n0 own T V h k n) {o : Int} {pcT : Nat} (hd : decode c.code pc = .ok (.ifnull o, 3)) (ho : 0 ≤ (pc : Int) + o) (hp : ((pc : Int) + o).toNat = pcT) (go : Go p e below Q (T.setTop (mkF m pcT Ls rest))) : Go p e below Q (T.setTop (mkF m pc Ls (.null :: rest))) := Go.of (fun _ r => XS.ifnullYes S.here S.hx rfl (pc0 := pc) (pc' := pcT) rfl hd rfl ho hp r) go
theorem s_nullN (S : St p l e R s m args below meth c Z a0 EL n0 own T V h k n) {o : Int} {b : Addr} (hd : decode c.code pc = .ok (.ifnull o, 3)) {pc' : Nat} (hp : pc + 3 = pc') (go : Go p e below Q (T.setTop (mkF m pc' Ls rest))) : Go p e below Q (T.setTop (mkF m pc Ls (.ref b :: rest))) := by
  subst hp; exact Go.of (fun _ r => XS.ifnullNo S.here S.hx rfl hd rfl r) go
theorem s_nonnullY (S : St p l e R s m args below meth c Z a0 EL n0 own T V h k n) {o : Int} {b : Addr} {pcT : Nat} (hd : decode c.code pc = .ok (.ifnonnull o, 3)) (ho : 0 ≤ (pc : Int) + o) (hp : ((pc : Int) + o).toNat = pcT) (go : Go p e below Q (T.setTop (mkF m pcT Ls rest))) : Go p e below Q (T.setTop (mkF m pc Ls (.ref b :: rest))) := Go.of (fun _ r => XS.ifnonnullYes S.here S.hx rfl (pc0 := pc) (pc' := pcT) rfl hd rfl ho hp r) go
theorem s_nonnullN (S : St p l e R s m args below meth c Z a0 EL n0 own T V h k n) {o : Int} (hd : decode c.code pc = .ok (.ifnonnull o, 3)) {pc' : Nat} (hp : pc + 3 = pc') (go : Go p e below Q (T.setTop (mkF m pc' Ls rest))) : Go p e below Q (T.setTop (mkF m pc Ls (.null :: rest))) := by
  subst hp; exact Go.of (fun _ r => XS.ifnonnullNo S.here S.hx rfl hd rfl r) go
theorem s_acmp (S : St p l e R s m args below meth c Z a0 EL n0 own T V h k n) {cd : ACond} {x y : Value} (h1 : x.isRef = true) (h2 : y.isRef = true) {o : Int} {pcT : Nat} {same : Bool} (hd : decode c.code pc = .ok (.if_acmp cd o, 3)) (hq : decide (x = y) = same) (ho : 0 ≤ (pc : Int) + o) (hp : pcT = if acV cd same = true then ((pc : Int) + o).toNat else pc + 3) (go : Go p e below Q (T.setTop (mkF m pcT Ls rest))) : Go p e below Q (T.setTop (mkF m pc Ls (y :: x :: rest))) := by
  obtain ⟨hx, eT, hZ, hown, hO, hE, hC, hlk, locs, k0, X, hS, hk, hF⟩ := S
  exact Go.of (fun _ r => Jvm.RoadKit.acmp (g := mkF m pc Ls (y :: x :: rest)) X hx rfl h1 h2 (pc0 := pc) (pc' := pcT) (same := same) rfl hd rfl hq ho hp r) go
theorem g_bastore (S : St p l e R s m args below meth c Z a0 EL n0 own T V h k n) {a : Addr} {kc : ClassId} {z : Int32} {vs : List Value} {dv : Value} (A : Arv Z h a kc .byte z vs dv) {j : Int32} {x : Int32} (hj : ¬ j < 0 ∧ j < z) (i : Nat) (hi : j.toNatClampNeg = i) (hlt : i < vs.length) (na : n0 ≤ a) (sf : Safe Z EL V h a) (hd : decode c.code pc = .ok (.bastore, 1))
    (go : ∀ T' h', St p l e R s m args below meth c Z a0 EL n0 own T' V h' k n → Keep h h' [a] → Arv Z h' a kc .byte z (vs.set i (.int (nar .byte x))) dv → Safe Z EL V h' a → Go p e below Q (T'.setTop (mkF m (pc + 1) Ls rest))) : Go p e below Q (T.setTop (mkF m pc Ls ((.int x) :: .int j :: .ref a :: rest))) := by
  obtain ⟨hx, eT, hZ, hown, hO, hE, hC, hlk, locs, k0, X, hS, hk, hF⟩ := S
  skip
  obtain ⟨cl, Ar, q1, q2, q3, q4, q5⟩ := A
  obtain ⟨T', h', X', e', W, st⟩ := stB X hx hZ eT Ar (j := j) (x := x) (inb_of q2 hj) (g := mkF m pc Ls ((.int x) :: .int j :: .ref a :: rest)) rfl rfl hd
  have K := Keep.of_wr W
  exact Go.of st (go T' h' ⟨hx, e', hZ, hown, hO.wr W na, hE, hC.trans (CHn.wr W sf hC.1), hlk, _, k0, X', hS, Nat.le_trans hk K.1, Fr.snoc X' hF na⟩ K (Arv.set Ar q1 q2 q3 q4 q5 (fits_nar_byte x) W i hi hlt) (Safe.wr W sf hC.1 sf))
theorem g_iastore (S : St p l e R s m args below meth c Z a0 EL n0 own T V h k n) {a : Addr} {kc : ClassId} {z : Int32} {vs : List Value} {dv : Value} (A : Arv Z h a kc .int z vs dv) {j : Int32} {x : Int32} (hj : ¬ j < 0 ∧ j < z) (i : Nat) (hi : j.toNatClampNeg = i) (hlt : i < vs.length) (na : n0 ≤ a) (hd : decode c.code pc = .ok (.iastore, 1))
    (go : ∀ T' h', St p l e R s m args below meth c Z a0 EL n0 own T' V h' k n → Keep h h' [a] → Arv Z h' a kc .int z (vs.set i (.int x)) dv → Safe Z EL V h' a → Go p e below Q (T'.setTop (mkF m (pc + 1) Ls rest))) : Go p e below Q (T.setTop (mkF m pc Ls ((.int x) :: .int j :: .ref a :: rest))) := by
  obtain ⟨hx, eT, hZ, hown, hO, hE, hC, hlk, locs, k0, X, hS, hk, hF⟩ := S
  have sf : Safe Z EL V h a := Safe.arv hZ.alike A (by decide)
  obtain ⟨cl, Ar, q1, q2, q3, q4, q5⟩ := A
  obtain ⟨T', h', X', e', W, st⟩ := stI X hx hZ eT Ar (j := j) (x := x) (inb_of q2 hj) (g := mkF m pc Ls ((.int x) :: .int j :: .ref a :: rest)) rfl rfl hd
  have K := Keep.of_wr W
  exact Go.of st (go T' h' ⟨hx, e', hZ, hown, hO.wr W na, hE, hC.trans (CHn.wr W sf hC.1), hlk, _, k0, X', hS, Nat.le_trans hk K.1, Fr.snoc X' hF na⟩ K (Arv.set Ar q1 q2 q3 q4 q5 rfl W i hi hlt) (Safe.wr W sf hC.1 sf))
theorem g_lastore (S : St p l e R s m args below meth c Z a0 EL n0 own T V h k n) {a : Addr} {kc : ClassId} {z : Int32} {vs : List Value} {dv : Value} (A : Arv Z h a kc .long z vs dv) {j : Int32} {x : Int64} (hj : ¬ j < 0 ∧ j < z) (i : Nat) (hi : j.toNatClampNeg = i) (hlt : i < vs.length) (na : n0 ≤ a) (hd : decode c.code pc = .ok (.lastore, 1))
    (go : ∀ T' h', St p l e R s m args below meth c Z a0 EL n0 own T' V h' k n → Keep h h' [a] → Arv Z h' a kc .long z (vs.set i (.long x)) dv → Safe Z EL V h' a → Go p e below Q (T'.setTop (mkF m (pc + 1) Ls rest))) : Go p e below Q (T.setTop (mkF m pc Ls ((.long x) :: .int j :: .ref a :: rest))) := by
  obtain ⟨hx, eT, hZ, hown, hO, hE, hC, hlk, locs, k0, X, hS, hk, hF⟩ := S
  have sf : Safe Z EL V h a := Safe.arv hZ.alike A (by decide)
  obtain ⟨cl, Ar, q1, q2, q3, q4, q5⟩ := A
  obtain ⟨T', h', X', e', W, st⟩ := stJ X hx hZ eT Ar (j := j) (x := x) (inb_of q2 hj) (g := mkF m pc Ls ((.long x) :: .int j :: .ref a :: rest)) rfl rfl hd
  have K := Keep.of_wr W
  exact Go.of st (go T' h' ⟨hx, e', hZ, hown, hO.wr W na, hE, hC.trans (CHn.wr W sf hC.1), hlk, _, k0, X', hS, Nat.le_trans hk K.1, Fr.snoc X' hF na⟩ K (Arv.set Ar q1 q2 q3 q4 q5 rfl W i hi hlt) (Safe.wr W sf hC.1 sf))
theorem g_iaload (S : St p l e R s m args below meth c Z a0 EL n0 own T V h k n) {a : Addr} {kc : ClassId} {z : Int32} {vs : List Value} {dv : Value} (A : Arv Z h a kc .int z vs dv) {j : Int32} (hj : ¬ j < 0 ∧ j < z) {x : Int32} (hv : vs.getD j.toNatClampNeg dv = (.int x)) (hd : decode c.code pc = .ok (.iaload, 1)) (go : Go p e below Q (T.setTop (mkF m (pc + 1) Ls ((.int x) :: rest)))) : Go p e below Q (T.setTop (mkF m pc Ls (.int j :: .ref a :: rest))) := by
  obtain ⟨hx, eT, hZ, hown, hO, hE, hC, hlk, locs, k0, X, hS, hk, hF⟩ := S
  obtain ⟨cl, Ar, q1, q2, q3, q4, q5⟩ := A
  have hin := inb_of q2 hj
  exact Go.of (fun _ q => X.iaload hx (j := j) (v := (.int x)) (by rw [eT]; exact Ar.1) (State.isArrayOf_alike (T := s.setVm V) hZ.alike Ar.2.1) Ar.2.2 hin (q4.at hin hv) (g := mkF m pc Ls (.int j :: .ref a :: rest)) rfl rfl hd _ q) go
theorem g_laload (S : St p l e R s m args below meth c Z a0 EL n0 own T V h k n) {a : Addr} {kc : ClassId} {z : Int32} {vs : List Value} {dv : Value} (A : Arv Z h a kc .long z vs dv) {j : Int32} (hj : ¬ j < 0 ∧ j < z) {x : Int64} (hv : vs.getD j.toNatClampNeg dv = (.long x)) (hd : decode c.code pc = .ok (.laload, 1)) (go : Go p e below Q (T.setTop (mkF m (pc + 1) Ls ((.long x) :: rest)))) : Go p e below Q (T.setTop (mkF m pc Ls (.int j :: .ref a :: rest))) := by
  obtain ⟨hx, eT, hZ, hown, hO, hE, hC, hlk, locs, k0, X, hS, hk, hF⟩ := S
  obtain ⟨cl, Ar, q1, q2, q3, q4, q5⟩ := A
  have hin := inb_of q2 hj
  exact Go.of (fun _ q => X.laload hx (j := j) (v := (.long x)) (by rw [eT]; exact Ar.1) (State.isArrayOf_alike (T := s.setVm V) hZ.alike Ar.2.1) Ar.2.2 hin (q4.at hin hv) (g := mkF m pc Ls (.int j :: .ref a :: rest)) rfl rfl hd _ q) go
theorem g_baload (S : St p l e R s m args below meth c Z a0 EL n0 own T V h k n) {a : Addr} {kc : ClassId} {z : Int32} {vs : List Value} {dv : Value} (A : Arv Z h a kc .byte z vs dv) {j : Int32} (hj : ¬ j < 0 ∧ j < z) {x : Int32} (hv : vs.getD j.toNatClampNeg dv = (.int x)) (hd : decode c.code pc = .ok (.baload, 1)) (go : Go p e below Q (T.setTop (mkF m (pc + 1) Ls ((.int x) :: rest)))) : Go p e below Q (T.setTop (mkF m pc Ls (.int j :: .ref a :: rest))) := by
  obtain ⟨hx, eT, hZ, hown, hO, hE, hC, hlk, locs, k0, X, hS, hk, hF⟩ := S
  obtain ⟨cl, Ar, q1, q2, q3, q4, q5⟩ := A
  have hin := inb_of q2 hj
  exact Go.of (fun _ q => X.baloadBytes hx (j := j) (v := (.int x)) (by rw [eT]; exact Ar.1) (State.isArrayOf_alike (T := s.setVm V) hZ.alike Ar.2.1) Ar.2.2 hin (q4.at hin hv) (g := mkF m pc Ls (.int j :: .ref a :: rest)) rfl rfl hd _ q) go
theorem g_instN (S : St p l e R s m args below meth c Z a0 EL n0 own T V h k n) {K C : String} {index : Nat} (w : (Cond.classLink own index K).before a0 Z = true) {a : Addr} (E : Exa Z h a C) (F : ∃ c t, Z.vm.findClass C = some c ∧ Z.vm.findClass K = some t ∧ Z.vm.assignable c t = false) (hd : decode c.code pc = .ok (.instanceof index, 3))
    (go : ∀ T', St p l e R s m args below meth c Z a0 EL n0 own T' V h k n → Go p e below Q (T'.setTop (mkF m (pc + 3) Ls (.int 0 :: rest)))) : Go p e below Q (T.setTop (mkF m pc Ls (.ref a :: rest))) := by
  obtain ⟨hx, eT, hZ, hown, hO, hE, hC, hlk, locs, k0, X, hS, hk, hF⟩ := S
  obtain ⟨T', X', e', st⟩ := instNo X hx hZ hown w eT E F (g := mkF m pc Ls (.ref a :: rest)) rfl rfl hd
  exact Go.of st (go T' ⟨hx, e', hZ, hown, hO, hE, hC, hlk, locs, k0, X', hS, hk, hF⟩)
theorem g_instNull (S : St p l e R s m args below meth c Z a0 EL n0 own T V h k n) {index : Nat} (hd : decode c.code pc = .ok (.instanceof index, 3)) (go : Go p e below Q (T.setTop (mkF m (pc + 3) Ls (.int 0 :: rest)))) : Go p e below Q (T.setTop (mkF m pc Ls (.null :: rest))) := by
  obtain ⟨hx, eT, hZ, hown, hO, hE, hC, hlk, locs, k0, X, hS, hk, hF⟩ := S
  exact Go.of (fun _ q => X.instanceofNull hx (g := mkF m pc Ls (.null :: rest)) rfl rfl hd _ q) go
end Steps
end Jvm.OwnKit
namespace Jvm.Pilot.@@N@@
open Jvm Jvm.ClassFile Sem Op Lib Jvm.Free Jvm.Stand Jvm.LawKit Jvm.RoadKit Jvm.OwnKit Bundle Jvm.Pilot.@@N@@.Jvm.D
def EL1 : List (String × Nat) := []
abbrev HW (a0 : Array Value) (Z : State) : Prop := ∀ d ∈ tables_1, d.before a0 Z = true
theorem w0 {a0 : Array Value} {Z : State} (hw : HW a0 Z) : (Jvm.Cond.arrayClass Jvm.ClassFile.FieldType.char : Jvm.Cond).before a0 Z = true := hw _ (List.mem_of_getElem? (i := 0) rfl)
theorem w1 {a0 : Array Value} {Z : State} (hw : HW a0 Z) : (Jvm.Cond.classLink "com/example/nodewarden/nodewarden/core/AsidesAfterPinLaw" (7 : Nat) "com/example/nodewarden/nodewarden/core/Asides" : Jvm.Cond).before a0 Z = true := hw _ (List.mem_of_getElem? (i := 1) rfl)
theorem w2 {a0 : Array Value} {Z : State} (hw : HW a0 Z) : (Jvm.Cond.instantiable "com/example/nodewarden/nodewarden/core/Asides" (3 : Nat) : Jvm.Cond).before a0 Z = true := hw _ (List.mem_of_getElem? (i := 2) rfl)
theorem w3 {a0 : Array Value} {Z : State} (hw : HW a0 Z) : (Jvm.Cond.initialized "com/example/nodewarden/nodewarden/core/Asides" : Jvm.Cond).before a0 Z = true := hw _ (List.mem_of_getElem? (i := 3) rfl)
theorem w4 {a0 : Array Value} {Z : State} (hw : HW a0 Z) : (Jvm.Cond.methodLink "com/example/nodewarden/nodewarden/core/AsidesAfterPinLaw" (9 : Nat) ({ cls := "com/example/nodewarden/nodewarden/core/Asides", name := "<init>", desc := "()V" } : Jvm.MethodName) : Jvm.Cond).before a0 Z = true := hw _ (List.mem_of_getElem? (i := 4) rfl)
theorem w5 {a0 : Array Value} {Z : State} (hw : HW a0 Z) : (Jvm.Cond.instanceMethod ({ cls := "com/example/nodewarden/nodewarden/core/Asides", name := "<init>", desc := "()V" } : Jvm.MethodName) : Jvm.Cond).before a0 Z = true := hw _ (List.mem_of_getElem? (i := 5) rfl)
theorem w6 {a0 : Array Value} {Z : State} (hw : HW a0 Z) : (Jvm.Cond.code ({ cls := "com/example/nodewarden/nodewarden/core/Asides", name := "<init>", desc := "()V" } : Jvm.MethodName) prog_3_method_1_code (1 : Nat) (Option.none : Option Jvm.ClassFile.FieldType) : Jvm.Cond).before a0 Z = true := hw _ (List.mem_of_getElem? (i := 6) rfl)
theorem w7 {a0 : Array Value} {Z : State} (hw : HW a0 Z) : (Jvm.Cond.methodLink "com/example/nodewarden/nodewarden/core/Asides" (1 : Nat) ({ cls := "java/lang/Object", name := "<init>", desc := "()V" } : Jvm.MethodName) : Jvm.Cond).before a0 Z = true := hw _ (List.mem_of_getElem? (i := 7) rfl)
theorem w8 {a0 : Array Value} {Z : State} (hw : HW a0 Z) : (Jvm.Cond.instanceMethod ({ cls := "java/lang/Object", name := "<init>", desc := "()V" } : Jvm.MethodName) : Jvm.Cond).before a0 Z = true := hw _ (List.mem_of_getElem? (i := 8) rfl)
theorem w9 {a0 : Array Value} {Z : State} (hw : HW a0 Z) : (Jvm.Cond.code ({ cls := "java/lang/Object", name := "<init>", desc := "()V" } : Jvm.MethodName) object_method_1_code (1 : Nat) (Option.none : Option Jvm.ClassFile.FieldType) : Jvm.Cond).before a0 Z = true := hw _ (List.mem_of_getElem? (i := 9) rfl)
theorem w10 {a0 : Array Value} {Z : State} (hw : HW a0 Z) : (Jvm.Cond.classLink "com/example/nodewarden/nodewarden/core/Asides" (7 : Nat) "java/lang/StringBuilder" : Jvm.Cond).before a0 Z = true := hw _ (List.mem_of_getElem? (i := 10) rfl)
theorem w11 {a0 : Array Value} {Z : State} (hw : HW a0 Z) : (Jvm.Cond.instantiable "java/lang/StringBuilder" (4 : Nat) : Jvm.Cond).before a0 Z = true := hw _ (List.mem_of_getElem? (i := 11) rfl)
theorem w12 {a0 : Array Value} {Z : State} (hw : HW a0 Z) : (Jvm.Cond.initialized "java/lang/StringBuilder" : Jvm.Cond).before a0 Z = true := hw _ (List.mem_of_getElem? (i := 12) rfl)
theorem w13 {a0 : Array Value} {Z : State} (hw : HW a0 Z) : (Jvm.Cond.methodLink "com/example/nodewarden/nodewarden/core/Asides" (9 : Nat) ({ cls := "java/lang/StringBuilder", name := "<init>", desc := "()V" } : Jvm.MethodName) : Jvm.Cond).before a0 Z = true := hw _ (List.mem_of_getElem? (i := 13) rfl)
theorem w14 {a0 : Array Value} {Z : State} (hw : HW a0 Z) : (Jvm.Cond.instanceMethod ({ cls := "java/lang/StringBuilder", name := "<init>", desc := "()V" } : Jvm.MethodName) : Jvm.Cond).before a0 Z = true := hw _ (List.mem_of_getElem? (i := 14) rfl)
theorem w15 {a0 : Array Value} {Z : State} (hw : HW a0 Z) : (Jvm.Cond.code ({ cls := "java/lang/StringBuilder", name := "<init>", desc := "()V" } : Jvm.MethodName) jdk_67_method_1_code (1 : Nat) (Option.none : Option Jvm.ClassFile.FieldType) : Jvm.Cond).before a0 Z = true := hw _ (List.mem_of_getElem? (i := 15) rfl)
theorem w16 {a0 : Array Value} {Z : State} (hw : HW a0 Z) : (Jvm.Cond.methodLink "java/lang/StringBuilder" (1 : Nat) ({ cls := "java/lang/AbstractStringBuilder", name := "<init>", desc := "(I)V" } : Jvm.MethodName) : Jvm.Cond).before a0 Z = true := hw _ (List.mem_of_getElem? (i := 16) rfl)
theorem w17 {a0 : Array Value} {Z : State} (hw : HW a0 Z) : (Jvm.Cond.instanceMethod ({ cls := "java/lang/AbstractStringBuilder", name := "<init>", desc := "(I)V" } : Jvm.MethodName) : Jvm.Cond).before a0 Z = true := hw _ (List.mem_of_getElem? (i := 17) rfl)
theorem w20 {a0 : Array Value} {Z : State} (hw : HW a0 Z) : (Jvm.Cond.initialized "java/lang/AbstractStringBuilder" : Jvm.Cond).before a0 Z = true := hw _ (List.mem_of_getElem? (i := 20) rfl)
theorem w21 {a0 : Array Value} {Z : State} (hw : HW a0 Z) : (Jvm.Cond.code ({ cls := "java/lang/AbstractStringBuilder", name := "<init>", desc := "(I)V" } : Jvm.MethodName) jdk_68_method_2_code (2 : Nat) (Option.none : Option Jvm.ClassFile.FieldType) : Jvm.Cond).before a0 Z = true := hw _ (List.mem_of_getElem? (i := 21) rfl)
theorem w22 {a0 : Array Value} {Z : State} (hw : HW a0 Z) : (Jvm.Cond.methodLink "java/lang/AbstractStringBuilder" (3 : Nat) ({ cls := "java/lang/Object", name := "<init>", desc := "()V" } : Jvm.MethodName) : Jvm.Cond).before a0 Z = true := hw _ (List.mem_of_getElem? (i := 22) rfl)
theorem w23 {a0 : Array Value} {Z : State} (hw : HW a0 Z) : (Jvm.Cond.fieldLink "java/lang/AbstractStringBuilder" (18 : Nat) "java/lang/String" "COMPACT_STRINGS" "Z" : Jvm.Cond).before a0 Z = true := hw _ (List.mem_of_getElem? (i := 23) rfl)
theorem w25 {a0 : Array Value} {Z : State} (hw : HW a0 Z) : (Jvm.Cond.arrayClass Jvm.ClassFile.FieldType.byte : Jvm.Cond).before a0 Z = true := hw _ (List.mem_of_getElem? (i := 25) rfl)
theorem w26 {a0 : Array Value} {Z : State} (hw : HW a0 Z) : (Jvm.Cond.fieldLink "java/lang/AbstractStringBuilder" (15 : Nat) "java/lang/AbstractStringBuilder" "value" "[B" : Jvm.Cond).before a0 Z = true := hw _ (List.mem_of_getElem? (i := 26) rfl)
theorem w27 {a0 : Array Value} {Z : State} (hw : HW a0 Z) : (Jvm.Cond.lays "java/lang/StringBuilder" "java/lang/AbstractStringBuilder" "value" "[B" : Jvm.Cond).before a0 Z = true := hw _ (List.mem_of_getElem? (i := 27) rfl)
theorem w28 {a0 : Array Value} {Z : State} (hw : HW a0 Z) : (Jvm.Cond.fieldLink "java/lang/AbstractStringBuilder" (22 : Nat) "java/lang/AbstractStringBuilder" "coder" "B" : Jvm.Cond).before a0 Z = true := hw _ (List.mem_of_getElem? (i := 28) rfl)
theorem w29 {a0 : Array Value} {Z : State} (hw : HW a0 Z) : (Jvm.Cond.lays "java/lang/StringBuilder" "java/lang/AbstractStringBuilder" "coder" "B" : Jvm.Cond).before a0 Z = true := hw _ (List.mem_of_getElem? (i := 29) rfl)
theorem w30 {a0 : Array Value} {Z : State} (hw : HW a0 Z) : (Jvm.Cond.fieldLink "com/example/nodewarden/nodewarden/core/Asides" (10 : Nat) "com/example/nodewarden/nodewarden/core/Asides" "text" "Ljava/lang/StringBuilder;" : Jvm.Cond).before a0 Z = true := hw _ (List.mem_of_getElem? (i := 30) rfl)
theorem w31 {a0 : Array Value} {Z : State} (hw : HW a0 Z) : (Jvm.Cond.laysFinal "com/example/nodewarden/nodewarden/core/Asides" "com/example/nodewarden/nodewarden/core/Asides" "text" "Ljava/lang/StringBuilder;" : Jvm.Cond).before a0 Z = true := hw _ (List.mem_of_getElem? (i := 31) rfl)
theorem w32 {a0 : Array Value} {Z : State} (hw : HW a0 Z) : (Jvm.Cond.arrayClass Jvm.ClassFile.FieldType.int : Jvm.Cond).before a0 Z = true := hw _ (List.mem_of_getElem? (i := 32) rfl)
theorem w33 {a0 : Array Value} {Z : State} (hw : HW a0 Z) : (Jvm.Cond.fieldLink "com/example/nodewarden/nodewarden/core/Asides" (16 : Nat) "com/example/nodewarden/nodewarden/core/Asides" "table" "[I" : Jvm.Cond).before a0 Z = true := hw _ (List.mem_of_getElem? (i := 33) rfl)
theorem w34 {a0 : Array Value} {Z : State} (hw : HW a0 Z) : (Jvm.Cond.lays "com/example/nodewarden/nodewarden/core/Asides" "com/example/nodewarden/nodewarden/core/Asides" "table" "[I" : Jvm.Cond).before a0 Z = true := hw _ (List.mem_of_getElem? (i := 34) rfl)
theorem w35 {a0 : Array Value} {Z : State} (hw : HW a0 Z) : (Jvm.Cond.methodLink "com/example/nodewarden/nodewarden/core/AsidesAfterPinLaw" (14 : Nat) ({ cls := "com/example/nodewarden/nodewarden/core/Asides", name := "after", desc := "(III)I" } : Jvm.MethodName) : Jvm.Cond).before a0 Z = true := hw _ (List.mem_of_getElem? (i := 35) rfl)
theorem w36 {a0 : Array Value} {Z : State} (hw : HW a0 Z) : (Jvm.Cond.declares ({ cls := "com/example/nodewarden/nodewarden/core/Asides", name := "after", desc := "(III)I" } : Jvm.MethodName) : Jvm.Cond).before a0 Z = true := hw _ (List.mem_of_getElem? (i := 36) rfl)
theorem w37 {a0 : Array Value} {Z : State} (hw : HW a0 Z) : (Jvm.Cond.instanceMethod ({ cls := "com/example/nodewarden/nodewarden/core/Asides", name := "after", desc := "(III)I" } : Jvm.MethodName) : Jvm.Cond).before a0 Z = true := hw _ (List.mem_of_getElem? (i := 37) rfl)
theorem w38 {a0 : Array Value} {Z : State} (hw : HW a0 Z) : (Jvm.Cond.selects "com/example/nodewarden/nodewarden/core/Asides" ({ cls := "com/example/nodewarden/nodewarden/core/Asides", name := "after", desc := "(III)I" } : Jvm.MethodName) ({ cls := "com/example/nodewarden/nodewarden/core/Asides", name := "after", desc := "(III)I" } : Jvm.MethodName) : Jvm.Cond).before a0 Z = true := hw _ (List.mem_of_getElem? (i := 38) rfl)
theorem w39 {a0 : Array Value} {Z : State} (hw : HW a0 Z) : (Jvm.Cond.code ({ cls := "com/example/nodewarden/nodewarden/core/Asides", name := "after", desc := "(III)I" } : Jvm.MethodName) prog_3_method_6_code (5 : Nat) (Option.some Jvm.ClassFile.FieldType.int) : Jvm.Cond).before a0 Z = true := hw _ (List.mem_of_getElem? (i := 39) rfl)
theorem w40 {a0 : Array Value} {Z : State} (hw : HW a0 Z) : (Jvm.Cond.fieldLink "com/example/nodewarden/nodewarden/core/Asides" (38 : Nat) "com/example/nodewarden/nodewarden/core/Asides" "count" "I" : Jvm.Cond).before a0 Z = true := hw _ (List.mem_of_getElem? (i := 40) rfl)
theorem w41 {a0 : Array Value} {Z : State} (hw : HW a0 Z) : (Jvm.Cond.lays "com/example/nodewarden/nodewarden/core/Asides" "com/example/nodewarden/nodewarden/core/Asides" "count" "I" : Jvm.Cond).before a0 Z = true := hw _ (List.mem_of_getElem? (i := 41) rfl)
theorem w42 {a0 : Array Value} {Z : State} (hw : HW a0 Z) : (Jvm.Cond.methodLink "com/example/nodewarden/nodewarden/core/AsidesAfterPinLaw" (18 : Nat) ({ cls := "java/lang/Math", name := "max", desc := "(II)I" } : Jvm.MethodName) : Jvm.Cond).before a0 Z = true := hw _ (List.mem_of_getElem? (i := 42) rfl)
theorem w43 {a0 : Array Value} {Z : State} (hw : HW a0 Z) : (Jvm.Cond.static ({ cls := "java/lang/Math", name := "max", desc := "(II)I" } : Jvm.MethodName) : Jvm.Cond).before a0 Z = true := hw _ (List.mem_of_getElem? (i := 43) rfl)
theorem w44 {a0 : Array Value} {Z : State} (hw : HW a0 Z) : (Jvm.Cond.initialized "java/lang/Math" : Jvm.Cond).before a0 Z = true := hw _ (List.mem_of_getElem? (i := 44) rfl)
theorem w45 {a0 : Array Value} {Z : State} (hw : HW a0 Z) : (Jvm.Cond.code ({ cls := "java/lang/Math", name := "max", desc := "(II)I" } : Jvm.MethodName) jdk_29_method_65_code (2 : Nat) (Option.some Jvm.ClassFile.FieldType.int) : Jvm.Cond).before a0 Z = true := hw _ (List.mem_of_getElem? (i := 45) rfl)
theorem w46 {a0 : Array Value} {Z : State} (hw : HW a0 Z) : (Jvm.Cond.methodLink "com/example/nodewarden/nodewarden/core/AsidesAfterPinLaw" (10 : Nat) ({ cls := "com/example/nodewarden/nodewarden/core/Asides", name := "addComment", desc := "(III[CII)V" } : Jvm.MethodName) : Jvm.Cond).before a0 Z = true := hw _ (List.mem_of_getElem? (i := 46) rfl)
theorem w47 {a0 : Array Value} {Z : State} (hw : HW a0 Z) : (Jvm.Cond.declares ({ cls := "com/example/nodewarden/nodewarden/core/Asides", name := "addComment", desc := "(III[CII)V" } : Jvm.MethodName) : Jvm.Cond).before a0 Z = true := hw _ (List.mem_of_getElem? (i := 47) rfl)
theorem w48 {a0 : Array Value} {Z : State} (hw : HW a0 Z) : (Jvm.Cond.instanceMethod ({ cls := "com/example/nodewarden/nodewarden/core/Asides", name := "addComment", desc := "(III[CII)V" } : Jvm.MethodName) : Jvm.Cond).before a0 Z = true := hw _ (List.mem_of_getElem? (i := 48) rfl)
theorem w49 {a0 : Array Value} {Z : State} (hw : HW a0 Z) : (Jvm.Cond.selects "com/example/nodewarden/nodewarden/core/Asides" ({ cls := "com/example/nodewarden/nodewarden/core/Asides", name := "addComment", desc := "(III[CII)V" } : Jvm.MethodName) ({ cls := "com/example/nodewarden/nodewarden/core/Asides", name := "addComment", desc := "(III[CII)V" } : Jvm.MethodName) : Jvm.Cond).before a0 Z = true := hw _ (List.mem_of_getElem? (i := 49) rfl)
theorem w50 {a0 : Array Value} {Z : State} (hw : HW a0 Z) : (Jvm.Cond.code ({ cls := "com/example/nodewarden/nodewarden/core/Asides", name := "addComment", desc := "(III[CII)V" } : Jvm.MethodName) prog_3_method_2_code (7 : Nat) (Option.none : Option Jvm.ClassFile.FieldType) : Jvm.Cond).before a0 Z = true := hw _ (List.mem_of_getElem? (i := 50) rfl)
theorem w51 {a0 : Array Value} {Z : State} (hw : HW a0 Z) : (Jvm.Cond.methodLink "com/example/nodewarden/nodewarden/core/Asides" (20 : Nat) ({ cls := "java/lang/StringBuilder", name := "append", desc := "([CII)Ljava/lang/StringBuilder;" } : Jvm.MethodName) : Jvm.Cond).before a0 Z = true := hw _ (List.mem_of_getElem? (i := 51) rfl)
theorem w52 {a0 : Array Value} {Z : State} (hw : HW a0 Z) : (Jvm.Cond.declares ({ cls := "java/lang/StringBuilder", name := "append", desc := "([CII)Ljava/lang/StringBuilder;" } : Jvm.MethodName) : Jvm.Cond).before a0 Z = true := hw _ (List.mem_of_getElem? (i := 52) rfl)
theorem w53 {a0 : Array Value} {Z : State} (hw : HW a0 Z) : (Jvm.Cond.instanceMethod ({ cls := "java/lang/StringBuilder", name := "append", desc := "([CII)Ljava/lang/StringBuilder;" } : Jvm.MethodName) : Jvm.Cond).before a0 Z = true := hw _ (List.mem_of_getElem? (i := 53) rfl)
theorem w54 {a0 : Array Value} {Z : State} (hw : HW a0 Z) : (Jvm.Cond.selects "java/lang/StringBuilder" ({ cls := "java/lang/StringBuilder", name := "append", desc := "([CII)Ljava/lang/StringBuilder;" } : Jvm.MethodName) ({ cls := "java/lang/StringBuilder", name := "append", desc := "([CII)Ljava/lang/StringBuilder;" } : Jvm.MethodName) : Jvm.Cond).before a0 Z = true := hw _ (List.mem_of_getElem? (i := 54) rfl)
theorem w55 {a0 : Array Value} {Z : State} (hw : HW a0 Z) : (Jvm.Cond.code ({ cls := "java/lang/StringBuilder", name := "append", desc := "([CII)Ljava/lang/StringBuilder;" } : Jvm.MethodName) jdk_67_method_12_code (4 : Nat) (Option.some (Jvm.ClassFile.FieldType.object "java/lang/StringBuilder")) : Jvm.Cond).before a0 Z = true := hw _ (List.mem_of_getElem? (i := 55) rfl)
theorem w56 {a0 : Array Value} {Z : State} (hw : HW a0 Z) : (Jvm.Cond.methodLink "java/lang/StringBuilder" (44 : Nat) ({ cls := "java/lang/AbstractStringBuilder", name := "append", desc := "([CII)Ljava/lang/AbstractStringBuilder;" } : Jvm.MethodName) : Jvm.Cond).before a0 Z = true := hw _ (List.mem_of_getElem? (i := 56) rfl)
theorem w57 {a0 : Array Value} {Z : State} (hw : HW a0 Z) : (Jvm.Cond.instanceMethod ({ cls := "java/lang/AbstractStringBuilder", name := "append", desc := "([CII)Ljava/lang/AbstractStringBuilder;" } : Jvm.MethodName) : Jvm.Cond).before a0 Z = true := hw _ (List.mem_of_getElem? (i := 57) rfl)
theorem w58 {a0 : Array Value} {Z : State} (hw : HW a0 Z) : (Jvm.Cond.superclass "java/lang/StringBuilder" "java/lang/AbstractStringBuilder" : Jvm.Cond).before a0 Z = true := hw _ (List.mem_of_getElem? (i := 58) rfl)
theorem w60 {a0 : Array Value} {Z : State} (hw : HW a0 Z) : (Jvm.Cond.code ({ cls := "java/lang/AbstractStringBuilder", name := "append", desc := "([CII)Ljava/lang/AbstractStringBuilder;" } : Jvm.MethodName) jdk_68_method_29_code (5 : Nat) (Option.some (Jvm.ClassFile.FieldType.object "java/lang/AbstractStringBuilder")) : Jvm.Cond).before a0 Z = true := hw _ (List.mem_of_getElem? (i := 60) rfl)
theorem w61 {a0 : Array Value} {Z : State} (hw : HW a0 Z) : (Jvm.Cond.fieldLink "java/lang/AbstractStringBuilder" (183 : Nat) "jdk/internal/util/Preconditions" "IOOBE_FORMATTER" "Ljava/util/function/BiFunction;" : Jvm.Cond).before a0 Z = true := hw _ (List.mem_of_getElem? (i := 61) rfl)
theorem w62 {a0 : Array Value} {Z : State} (hw : HW a0 Z) : (Jvm.Cond.initialized "jdk/internal/util/Preconditions" : Jvm.Cond).before a0 Z = true := hw _ (List.mem_of_getElem? (i := 62) rfl)
theorem w63 {a0 : Array Value} {Z : State} (hw : HW a0 Z) : (Jvm.Cond.laysStatic "jdk/internal/util/Preconditions" "IOOBE_FORMATTER" "Ljava/util/function/BiFunction;" : Jvm.Cond).before a0 Z = true := hw _ (List.mem_of_getElem? (i := 63) rfl)
theorem w64 {a0 : Array Value} {Z : State} (hw : HW a0 Z) : (Jvm.Cond.methodLink "java/lang/AbstractStringBuilder" (161 : Nat) ({ cls := "jdk/internal/util/Preconditions", name := "checkFromToIndex", desc := "(IIILjava/util/function/BiFunction;)I" } : Jvm.MethodName) : Jvm.Cond).before a0 Z = true := hw _ (List.mem_of_getElem? (i := 64) rfl)
theorem w65 {a0 : Array Value} {Z : State} (hw : HW a0 Z) : (Jvm.Cond.static ({ cls := "jdk/internal/util/Preconditions", name := "checkFromToIndex", desc := "(IIILjava/util/function/BiFunction;)I" } : Jvm.MethodName) : Jvm.Cond).before a0 Z = true := hw _ (List.mem_of_getElem? (i := 65) rfl)
theorem w66 {a0 : Array Value} {Z : State} (hw : HW a0 Z) : (Jvm.Cond.code ({ cls := "jdk/internal/util/Preconditions", name := "checkFromToIndex", desc := "(IIILjava/util/function/BiFunction;)I" } : Jvm.MethodName) jdk_41_method_12_code (4 : Nat) (Option.some Jvm.ClassFile.FieldType.int) : Jvm.Cond).before a0 Z = true := hw _ (List.mem_of_getElem? (i := 66) rfl)
theorem w67 {a0 : Array Value} {Z : State} (hw : HW a0 Z) : (Jvm.Cond.fieldLink "java/lang/AbstractStringBuilder" (79 : Nat) "java/lang/AbstractStringBuilder" "count" "I" : Jvm.Cond).before a0 Z = true := hw _ (List.mem_of_getElem? (i := 67) rfl)
theorem w68 {a0 : Array Value} {Z : State} (hw : HW a0 Z) : (Jvm.Cond.lays "java/lang/StringBuilder" "java/lang/AbstractStringBuilder" "count" "I" : Jvm.Cond).before a0 Z = true := hw _ (List.mem_of_getElem? (i := 68) rfl)
theorem w69 {a0 : Array Value} {Z : State} (hw : HW a0 Z) : (Jvm.Cond.methodLink "java/lang/AbstractStringBuilder" (100 : Nat) ({ cls := "java/lang/AbstractStringBuilder", name := "ensureCapacityInternal", desc := "(I)V" } : Jvm.MethodName) : Jvm.Cond).before a0 Z = true := hw _ (List.mem_of_getElem? (i := 69) rfl)
theorem w70 {a0 : Array Value} {Z : State} (hw : HW a0 Z) : (Jvm.Cond.instanceMethod ({ cls := "java/lang/AbstractStringBuilder", name := "ensureCapacityInternal", desc := "(I)V" } : Jvm.MethodName) : Jvm.Cond).before a0 Z = true := hw _ (List.mem_of_getElem? (i := 70) rfl)
theorem w71 {a0 : Array Value} {Z : State} (hw : HW a0 Z) : (Jvm.Cond.privateMethod ({ cls := "java/lang/AbstractStringBuilder", name := "ensureCapacityInternal", desc := "(I)V" } : Jvm.MethodName) : Jvm.Cond).before a0 Z = true := hw _ (List.mem_of_getElem? (i := 71) rfl)
theorem w72 {a0 : Array Value} {Z : State} (hw : HW a0 Z) : (Jvm.Cond.selects "java/lang/StringBuilder" ({ cls := "java/lang/AbstractStringBuilder", name := "ensureCapacityInternal", desc := "(I)V" } : Jvm.MethodName) ({ cls := "java/lang/AbstractStringBuilder", name := "ensureCapacityInternal", desc := "(I)V" } : Jvm.MethodName) : Jvm.Cond).before a0 Z = true := hw _ (List.mem_of_getElem? (i := 72) rfl)
theorem w73 {a0 : Array Value} {Z : State} (hw : HW a0 Z) : (Jvm.Cond.code ({ cls := "java/lang/AbstractStringBuilder", name := "ensureCapacityInternal", desc := "(I)V" } : Jvm.MethodName) jdk_68_method_9_code (3 : Nat) (Option.none : Option Jvm.ClassFile.FieldType) : Jvm.Cond).before a0 Z = true := hw _ (List.mem_of_getElem? (i := 73) rfl)
theorem w74 {a0 : Array Value} {Z : State} (hw : HW a0 Z) : (Jvm.Cond.methodLink "java/lang/AbstractStringBuilder" (239 : Nat) ({ cls := "java/lang/AbstractStringBuilder", name := "appendChars", desc := "([CII)V" } : Jvm.MethodName) : Jvm.Cond).before a0 Z = true := hw _ (List.mem_of_getElem? (i := 74) rfl)
theorem w75 {a0 : Array Value} {Z : State} (hw : HW a0 Z) : (Jvm.Cond.instanceMethod ({ cls := "java/lang/AbstractStringBuilder", name := "appendChars", desc := "([CII)V" } : Jvm.MethodName) : Jvm.Cond).before a0 Z = true := hw _ (List.mem_of_getElem? (i := 75) rfl)
theorem w76 {a0 : Array Value} {Z : State} (hw : HW a0 Z) : (Jvm.Cond.privateMethod ({ cls := "java/lang/AbstractStringBuilder", name := "appendChars", desc := "([CII)V" } : Jvm.MethodName) : Jvm.Cond).before a0 Z = true := hw _ (List.mem_of_getElem? (i := 76) rfl)
theorem w78 {a0 : Array Value} {Z : State} (hw : HW a0 Z) : (Jvm.Cond.code ({ cls := "java/lang/AbstractStringBuilder", name := "appendChars", desc := "([CII)V" } : Jvm.MethodName) jdk_68_method_74_code (9 : Nat) (Option.none : Option Jvm.ClassFile.FieldType) : Jvm.Cond).before a0 Z = true := hw _ (List.mem_of_getElem? (i := 78) rfl)
theorem w79 {a0 : Array Value} {Z : State} (hw : HW a0 Z) : (Jvm.Cond.methodLink "java/lang/AbstractStringBuilder" (83 : Nat) ({ cls := "java/lang/AbstractStringBuilder", name := "isLatin1", desc := "()Z" } : Jvm.MethodName) : Jvm.Cond).before a0 Z = true := hw _ (List.mem_of_getElem? (i := 79) rfl)
theorem w80 {a0 : Array Value} {Z : State} (hw : HW a0 Z) : (Jvm.Cond.declares ({ cls := "java/lang/AbstractStringBuilder", name := "isLatin1", desc := "()Z" } : Jvm.MethodName) : Jvm.Cond).before a0 Z = true := hw _ (List.mem_of_getElem? (i := 80) rfl)
theorem w81 {a0 : Array Value} {Z : State} (hw : HW a0 Z) : (Jvm.Cond.instanceMethod ({ cls := "java/lang/AbstractStringBuilder", name := "isLatin1", desc := "()Z" } : Jvm.MethodName) : Jvm.Cond).before a0 Z = true := hw _ (List.mem_of_getElem? (i := 81) rfl)
theorem w82 {a0 : Array Value} {Z : State} (hw : HW a0 Z) : (Jvm.Cond.selects "java/lang/StringBuilder" ({ cls := "java/lang/AbstractStringBuilder", name := "isLatin1", desc := "()Z" } : Jvm.MethodName) ({ cls := "java/lang/AbstractStringBuilder", name := "isLatin1", desc := "()Z" } : Jvm.MethodName) : Jvm.Cond).before a0 Z = true := hw _ (List.mem_of_getElem? (i := 82) rfl)
theorem w83 {a0 : Array Value} {Z : State} (hw : HW a0 Z) : (Jvm.Cond.code ({ cls := "java/lang/AbstractStringBuilder", name := "isLatin1", desc := "()Z" } : Jvm.MethodName) jdk_68_method_68_code (1 : Nat) (Option.some Jvm.ClassFile.FieldType.boolean) : Jvm.Cond).before a0 Z = true := hw _ (List.mem_of_getElem? (i := 83) rfl)
theorem w84 {a0 : Array Value} {Z : State} (hw : HW a0 Z) : (Jvm.Cond.methodLink "com/example/nodewarden/nodewarden/core/Asides" (24 : Nat) ({ cls := "com/example/nodewarden/nodewarden/core/Asides", name := "add", desc := "(IIII)V" } : Jvm.MethodName) : Jvm.Cond).before a0 Z = true := hw _ (List.mem_of_getElem? (i := 84) rfl)
theorem w85 {a0 : Array Value} {Z : State} (hw : HW a0 Z) : (Jvm.Cond.instanceMethod ({ cls := "com/example/nodewarden/nodewarden/core/Asides", name := "add", desc := "(IIII)V" } : Jvm.MethodName) : Jvm.Cond).before a0 Z = true := hw _ (List.mem_of_getElem? (i := 85) rfl)
theorem w86 {a0 : Array Value} {Z : State} (hw : HW a0 Z) : (Jvm.Cond.privateMethod ({ cls := "com/example/nodewarden/nodewarden/core/Asides", name := "add", desc := "(IIII)V" } : Jvm.MethodName) : Jvm.Cond).before a0 Z = true := hw _ (List.mem_of_getElem? (i := 86) rfl)
theorem w87 {a0 : Array Value} {Z : State} (hw : HW a0 Z) : (Jvm.Cond.code ({ cls := "com/example/nodewarden/nodewarden/core/Asides", name := "add", desc := "(IIII)V" } : Jvm.MethodName) prog_3_method_13_code (6 : Nat) (Option.none : Option Jvm.ClassFile.FieldType) : Jvm.Cond).before a0 Z = true := hw _ (List.mem_of_getElem? (i := 87) rfl)
theorem w88 {a0 : Array Value} {Z : State} (hw : HW a0 Z) : (Jvm.Cond.methodLink "com/example/nodewarden/nodewarden/core/Asides" (56 : Nat) ({ cls := "java/lang/Math", name := "max", desc := "(II)I" } : Jvm.MethodName) : Jvm.Cond).before a0 Z = true := hw _ (List.mem_of_getElem? (i := 88) rfl)
theorem w89 {a0 : Array Value} {Z : State} (hw : HW a0 Z) : (Jvm.Cond.methodLink "com/example/nodewarden/nodewarden/core/Asides" (42 : Nat) ({ cls := "java/util/Arrays", name := "copyOf", desc := "([II)[I" } : Jvm.MethodName) : Jvm.Cond).before a0 Z = true := hw _ (List.mem_of_getElem? (i := 89) rfl)
theorem w90 {a0 : Array Value} {Z : State} (hw : HW a0 Z) : (Jvm.Cond.static ({ cls := "java/util/Arrays", name := "copyOf", desc := "([II)[I" } : Jvm.MethodName) : Jvm.Cond).before a0 Z = true := hw _ (List.mem_of_getElem? (i := 90) rfl)
theorem w91 {a0 : Array Value} {Z : State} (hw : HW a0 Z) : (Jvm.Cond.initialized "java/util/Arrays" : Jvm.Cond).before a0 Z = true := hw _ (List.mem_of_getElem? (i := 91) rfl)
theorem w92 {a0 : Array Value} {Z : State} (hw : HW a0 Z) : (Jvm.Cond.code ({ cls := "java/util/Arrays", name := "copyOf", desc := "([II)[I" } : Jvm.MethodName) jdk_65_method_123_code (3 : Nat) (Option.some (Jvm.ClassFile.FieldType.array Jvm.ClassFile.FieldType.int)) : Jvm.Cond).before a0 Z = true := hw _ (List.mem_of_getElem? (i := 92) rfl)
theorem w93 {a0 : Array Value} {Z : State} (hw : HW a0 Z) : (Jvm.Cond.methodLink "java/util/Arrays" (304 : Nat) ({ cls := "java/lang/Math", name := "min", desc := "(II)I" } : Jvm.MethodName) : Jvm.Cond).before a0 Z = true := hw _ (List.mem_of_getElem? (i := 93) rfl)
theorem w94 {a0 : Array Value} {Z : State} (hw : HW a0 Z) : (Jvm.Cond.static ({ cls := "java/lang/Math", name := "min", desc := "(II)I" } : Jvm.MethodName) : Jvm.Cond).before a0 Z = true := hw _ (List.mem_of_getElem? (i := 94) rfl)
theorem w95 {a0 : Array Value} {Z : State} (hw : HW a0 Z) : (Jvm.Cond.code ({ cls := "java/lang/Math", name := "min", desc := "(II)I" } : Jvm.MethodName) jdk_29_method_69_code (2 : Nat) (Option.some Jvm.ClassFile.FieldType.int) : Jvm.Cond).before a0 Z = true := hw _ (List.mem_of_getElem? (i := 95) rfl)
theorem w96 {a0 : Array Value} {Z : State} (hw : HW a0 Z) : (Jvm.Cond.methodLink "java/util/Arrays" (150 : Nat) ({ cls := "java/lang/System", name := "arraycopy", desc := "(Ljava/lang/Object;ILjava/lang/Object;II)V" } : Jvm.MethodName) : Jvm.Cond).before a0 Z = true := hw _ (List.mem_of_getElem? (i := 96) rfl)
theorem w97 {a0 : Array Value} {Z : State} (hw : HW a0 Z) : (Jvm.Cond.static ({ cls := "java/lang/System", name := "arraycopy", desc := "(Ljava/lang/Object;ILjava/lang/Object;II)V" } : Jvm.MethodName) : Jvm.Cond).before a0 Z = true := hw _ (List.mem_of_getElem? (i := 97) rfl)
theorem w98 {a0 : Array Value} {Z : State} (hw : HW a0 Z) : (Jvm.Cond.initialized "java/lang/System" : Jvm.Cond).before a0 Z = true := hw _ (List.mem_of_getElem? (i := 98) rfl)
theorem w99 {a0 : Array Value} {Z : State} (hw : HW a0 Z) : (Jvm.Cond.native ({ cls := "java/lang/System", name := "arraycopy", desc := "(Ljava/lang/Object;ILjava/lang/Object;II)V" } : Jvm.MethodName) : Jvm.Cond).before a0 Z = true := hw _ (List.mem_of_getElem? (i := 99) rfl)
theorem w100 {a0 : Array Value} {Z : State} (hw : HW a0 Z) : (Jvm.Cond.methodLink "com/example/nodewarden/nodewarden/core/Asides" (31 : Nat) ({ cls := "java/lang/StringBuilder", name := "length", desc := "()I" } : Jvm.MethodName) : Jvm.Cond).before a0 Z = true := hw _ (List.mem_of_getElem? (i := 100) rfl)
theorem w101 {a0 : Array Value} {Z : State} (hw : HW a0 Z) : (Jvm.Cond.declares ({ cls := "java/lang/StringBuilder", name := "length", desc := "()I" } : Jvm.MethodName) : Jvm.Cond).before a0 Z = true := hw _ (List.mem_of_getElem? (i := 101) rfl)
theorem w102 {a0 : Array Value} {Z : State} (hw : HW a0 Z) : (Jvm.Cond.instanceMethod ({ cls := "java/lang/StringBuilder", name := "length", desc := "()I" } : Jvm.MethodName) : Jvm.Cond).before a0 Z = true := hw _ (List.mem_of_getElem? (i := 102) rfl)
theorem w103 {a0 : Array Value} {Z : State} (hw : HW a0 Z) : (Jvm.Cond.selects "java/lang/StringBuilder" ({ cls := "java/lang/StringBuilder", name := "length", desc := "()I" } : Jvm.MethodName) ({ cls := "java/lang/StringBuilder", name := "length", desc := "()I" } : Jvm.MethodName) : Jvm.Cond).before a0 Z = true := hw _ (List.mem_of_getElem? (i := 103) rfl)
theorem w104 {a0 : Array Value} {Z : State} (hw : HW a0 Z) : (Jvm.Cond.code ({ cls := "java/lang/StringBuilder", name := "length", desc := "()I" } : Jvm.MethodName) jdk_67_method_93_code (1 : Nat) (Option.some Jvm.ClassFile.FieldType.int) : Jvm.Cond).before a0 Z = true := hw _ (List.mem_of_getElem? (i := 104) rfl)
theorem w105 {a0 : Array Value} {Z : State} (hw : HW a0 Z) : (Jvm.Cond.methodLink "java/lang/StringBuilder" (343 : Nat) ({ cls := "java/lang/AbstractStringBuilder", name := "length", desc := "()I" } : Jvm.MethodName) : Jvm.Cond).before a0 Z = true := hw _ (List.mem_of_getElem? (i := 105) rfl)
theorem w106 {a0 : Array Value} {Z : State} (hw : HW a0 Z) : (Jvm.Cond.instanceMethod ({ cls := "java/lang/AbstractStringBuilder", name := "length", desc := "()I" } : Jvm.MethodName) : Jvm.Cond).before a0 Z = true := hw _ (List.mem_of_getElem? (i := 106) rfl)
theorem w108 {a0 : Array Value} {Z : State} (hw : HW a0 Z) : (Jvm.Cond.code ({ cls := "java/lang/AbstractStringBuilder", name := "length", desc := "()I" } : Jvm.MethodName) jdk_68_method_6_code (1 : Nat) (Option.some Jvm.ClassFile.FieldType.int) : Jvm.Cond).before a0 Z = true := hw _ (List.mem_of_getElem? (i := 108) rfl)
theorem w109 {a0 : Array Value} {Z : State} (hw : HW a0 Z) : (Jvm.Cond.methodLink "com/example/nodewarden/nodewarden/core/AsidesAfterPinLaw" (24 : Nat) ({ cls := "com/example/nodewarden/nodewarden/core/AsidesAfterPinLaw", name := "in", desc := "(III)Z" } : Jvm.MethodName) : Jvm.Cond).before a0 Z = true := hw _ (List.mem_of_getElem? (i := 109) rfl)
theorem w110 {a0 : Array Value} {Z : State} (hw : HW a0 Z) : (Jvm.Cond.static ({ cls := "com/example/nodewarden/nodewarden/core/AsidesAfterPinLaw", name := "in", desc := "(III)Z" } : Jvm.MethodName) : Jvm.Cond).before a0 Z = true := hw _ (List.mem_of_getElem? (i := 110) rfl)
theorem w111 {a0 : Array Value} {Z : State} (hw : HW a0 Z) : (Jvm.Cond.initialized "com/example/nodewarden/nodewarden/core/AsidesAfterPinLaw" : Jvm.Cond).before a0 Z = true := hw _ (List.mem_of_getElem? (i := 111) rfl)
theorem w112 {a0 : Array Value} {Z : State} (hw : HW a0 Z) : (Jvm.Cond.code ({ cls := "com/example/nodewarden/nodewarden/core/AsidesAfterPinLaw", name := "in", desc := "(III)Z" } : Jvm.MethodName) method_3_code (3 : Nat) (Option.some Jvm.ClassFile.FieldType.boolean) : Jvm.Cond).before a0 Z = true := hw _ (List.mem_of_getElem? (i := 112) rfl)
theorem pd0 : parseMethodDescriptor "(I)V" = some ⟨[.int], none⟩ := by decide +kernel
theorem pd1 : parseMethodDescriptor "()I" = some ⟨[], some .int⟩ := by decide +kernel
theorem pd2 : parseMethodDescriptor "()Z" = some ⟨[], some .boolean⟩ := by decide +kernel
theorem pd3 : parseMethodDescriptor "(IIILjava/util/function/BiFunction;)I" = some ⟨[.int, .int, .int, (.object "java/util/function/BiFunction")], some .int⟩ := by decide +kernel
theorem pd4 : parseMethodDescriptor "([CII)V" = some ⟨[(.array .char), .int, .int], none⟩ := by decide +kernel
theorem pd5 : parseMethodDescriptor "([CII)Ljava/lang/AbstractStringBuilder;" = some ⟨[(.array .char), .int, .int], some (.object "java/lang/AbstractStringBuilder")⟩ := by decide +kernel
theorem pd6 : parseMethodDescriptor "()V" = some ⟨[], none⟩ := by decide +kernel
theorem pd7 : parseMethodDescriptor "(II)I" = some ⟨[.int, .int], some .int⟩ := by decide +kernel
theorem pd8 : parseMethodDescriptor "([II)[I" = some ⟨[(.array .int), .int], some (.array .int)⟩ := by decide +kernel
theorem pd9 : parseMethodDescriptor "([CII)Ljava/lang/StringBuilder;" = some ⟨[(.array .char), .int, .int], some (.object "java/lang/StringBuilder")⟩ := by decide +kernel
theorem pd10 : parseMethodDescriptor "(IIII)V" = some ⟨[.int, .int, .int, .int], none⟩ := by decide +kernel
theorem pd11 : parseMethodDescriptor "(III)I" = some ⟨[.int, .int, .int], some .int⟩ := by decide +kernel
theorem pd12 : parseMethodDescriptor "(III[CII)V" = some ⟨[.int, .int, .int, (.array .char), .int, .int], none⟩ := by decide +kernel
theorem pd13 : parseMethodDescriptor "(III)Z" = some ⟨[.int, .int, .int], some .boolean⟩ := by decide +kernel
theorem pn0 : plainName "java/lang/AbstractStringBuilder" = true := by first | (simp [plainName, overriddenIn]; done) | decide +kernel
theorem pn1 : plainName "java/lang/StringBuilder" = true := by first | (simp [plainName, overriddenIn]; done) | decide +kernel
theorem pn2 : plainName "jdk/internal/util/Preconditions" = true := by first | (simp [plainName, overriddenIn]; done) | decide +kernel
theorem pn3 : plainName "com/example/nodewarden/nodewarden/core/Asides" = true := by first | (simp [plainName, overriddenIn]; done) | decide +kernel
theorem pn4 : plainName "java/util/Arrays" = true := by first | (simp [plainName, overriddenIn]; done) | decide +kernel
theorem pn5 : plainName "com/example/nodewarden/nodewarden/core/AsidesAfterPinLaw" = true := by first | (simp [plainName, overriddenIn]; done) | decide +kernel
theorem ef0 (m : MethodId) (x0 : Int32) (x1 : Int32) : entryFrame m #[(.int x0), (.int x1)] 2 = mkF m 0 #[.val (.int x0), .val (.int x1)] [] := by first | (simp [entryFrame, mkF, argsToLocals, Value.category]; done) | rfl
theorem ef1 (m : MethodId) (x0 : Addr) (x1 : Int32) : entryFrame m #[(.ref x0), (.int x1)] 2 = mkF m 0 #[.val (.ref x0), .val (.int x1)] [] := by first | (simp [entryFrame, mkF, argsToLocals, Value.category]; done) | rfl
theorem ef2 (m : MethodId) (x0 : Addr) : entryFrame m #[(.ref x0)] 1 = mkF m 0 #[.val (.ref x0)] [] := by first | (simp [entryFrame, mkF, argsToLocals, Value.category]; done) | rfl
theorem ef3 (m : MethodId) (x0 : Int32) (x1 : Int32) (x2 : Int32) (x3 : Addr) : entryFrame m #[(.int x0), (.int x1), (.int x2), (.ref x3)] 4 = mkF m 0 #[.val (.int x0), .val (.int x1), .val (.int x2), .val (.ref x3)] [] := by first | (simp [entryFrame, mkF, argsToLocals, Value.category]; done) | rfl
theorem ef4 (m : MethodId) (x0 : Int32) (x1 : Int32) (x2 : Int32) : entryFrame m #[(.int x0), (.int x1), (.int x2), .null] 4 = mkF m 0 #[.val (.int x0), .val (.int x1), .val (.int x2), .val .null] [] := by first | (simp [entryFrame, mkF, argsToLocals, Value.category]; done) | rfl
theorem ef5 (m : MethodId) (x0 : Addr) (x1 : Int32) : entryFrame m #[(.ref x0), (.int x1)] 3 = mkF m 0 #[.val (.ref x0), .val (.int x1), .unset] [] := by first | (simp [entryFrame, mkF, argsToLocals, Value.category]; done) | rfl
theorem ef6 (m : MethodId) (x0 : Addr) (x1 : Addr) (x2 : Int32) (x3 : Int32) : entryFrame m #[(.ref x0), (.ref x1), (.int x2), (.int x3)] 9 = mkF m 0 #[.val (.ref x0), .val (.ref x1), .val (.int x2), .val (.int x3), .unset, .unset, .unset, .unset, .unset] [] := by first | (simp [entryFrame, mkF, argsToLocals, Value.category]; done) | rfl
theorem ef7 (m : MethodId) (x0 : Addr) (x1 : Addr) (x2 : Int32) (x3 : Int32) : entryFrame m #[(.ref x0), (.ref x1), (.int x2), (.int x3)] 5 = mkF m 0 #[.val (.ref x0), .val (.ref x1), .val (.int x2), .val (.int x3), .unset] [] := by first | (simp [entryFrame, mkF, argsToLocals, Value.category]; done) | rfl
theorem ef8 (m : MethodId) (x0 : Addr) (x1 : Addr) (x2 : Int32) (x3 : Int32) : entryFrame m #[(.ref x0), (.ref x1), (.int x2), (.int x3)] 4 = mkF m 0 #[.val (.ref x0), .val (.ref x1), .val (.int x2), .val (.int x3)] [] := by first | (simp [entryFrame, mkF, argsToLocals, Value.category]; done) | rfl
theorem ef9 (m : MethodId) (x0 : Addr) (x1 : Int32) (x2 : Int32) (x3 : Int32) (x4 : Int32) : entryFrame m #[(.ref x0), (.int x1), (.int x2), (.int x3), (.int x4)] 6 = mkF m 0 #[.val (.ref x0), .val (.int x1), .val (.int x2), .val (.int x3), .val (.int x4), .unset] [] := by first | (simp [entryFrame, mkF, argsToLocals, Value.category]; done) | rfl
theorem ef10 (m : MethodId) (x0 : Addr) (x1 : Int32) (x2 : Int32) (x3 : Int32) (x4 : Addr) (x5 : Int32) (x6 : Int32) : entryFrame m #[(.ref x0), (.int x1), (.int x2), (.int x3), (.ref x4), (.int x5), (.int x6)] 7 = mkF m 0 #[.val (.ref x0), .val (.int x1), .val (.int x2), .val (.int x3), .val (.ref x4), .val (.int x5), .val (.int x6)] [] := by first | (simp [entryFrame, mkF, argsToLocals, Value.category]; done) | rfl
theorem ef11 (m : MethodId) (x0 : Int32) (x1 : Int32) (x2 : Int32) : entryFrame m #[(.int x0), (.int x1), (.int x2)] 3 = mkF m 0 #[.val (.int x0), .val (.int x1), .val (.int x2)] [] := by first | (simp [entryFrame, mkF, argsToLocals, Value.category]; done) | rfl
theorem ef12 (m : MethodId) (x0 : Addr) (x1 : Int32) (x2 : Int32) (x3 : Int32) : entryFrame m #[(.ref x0), (.int x1), (.int x2), (.int x3)] 5 = mkF m 0 #[.val (.ref x0), .val (.int x1), .val (.int x2), .val (.int x3), .unset] [] := by first | (simp [entryFrame, mkF, argsToLocals, Value.category]; done) | rfl
theorem ef13 (m : MethodId) (x0 : Int32) (x1 : Int32) (x2 : Int32) (x3 : Int32) (x4 : Int32) (x5 : Int32) : entryFrame m #[(.int x0), (.int x1), (.int x2), (.int x3), (.int x4), (.int x5)] maxLocals = mkF m 0 #[.val (.int x0), .val (.int x1), .val (.int x2), .val (.int x3), .val (.int x4), .val (.int x5), .unset, .unset, .unset, .unset, .unset, .unset] [] := by first | (simp [entryFrame, mkF, argsToLocals, Value.category, maxLocals]; done) | rfl
def Ctx (Z : State) (a0 : Array Value) : Prop := HW a0 Z ∧ EW Z a0 EL1 ∧ (∃ z1 : Int32, Sta Z Z.heap "java/lang/String" "COMPACT_STRINGS" "Z" (.int z1) ∧ ¬ z1 = 0) ∧ (∃ fm : Value, Sta Z Z.heap "jdk/internal/util/Preconditions" "IOOBE_FORMATTER" "Ljava/util/function/BiFunction;" fm ∧ fm.isRef = true)
theorem Ctx.fm {Z : State} {a0 : Array Value} (X : Ctx Z a0) : ∃ fm : Value, Sta Z Z.heap "jdk/internal/util/Preconditions" "IOOBE_FORMATTER" "Ljava/util/function/BiFunction;" fm ∧ fm.isRef = true := X.2.2.2
theorem Ctx.hw {Z : State} {a0 : Array Value} (X : Ctx Z a0) : HW a0 Z := X.1
theorem Ctx.ew {Z : State} {a0 : Array Value} (X : Ctx Z a0) : EW Z a0 EL1 := X.2.1
abbrev SBN : String := "java/lang/StringBuilder"
abbrev ASB : String := "java/lang/AbstractStringBuilder"
abbrev AD : String := "com/example/nodewarden/nodewarden/core/Asides"
/-- a builder of count sc over 16 bytes -/
def SBF (Z : State) (h : Heap) (sb tb : Addr) (kb : ClassId) (zb sc : Int32) (bs : List Value) : Prop := Exa Z h sb "java/lang/StringBuilder" ∧ Fld Z h sb "java/lang/AbstractStringBuilder" "value" "[B" (.ref tb) ∧ Fld Z h sb "java/lang/AbstractStringBuilder" "coder" "B" (.int (0 : Int32)) ∧ Fld Z h sb "java/lang/AbstractStringBuilder" "count" "I" (.int sc) ∧ Arv Z h tb kb .byte zb bs (.int (0 : Int32))
theorem SBF.ext {Z : State} {h h' : Heap} {sb tb : Addr} {kb : ClassId} {zb sc : Int32} {bs : List Value} (F : SBF Z h sb tb kb zb sc bs) (E : Ext h h') : SBF Z h' sb tb kb zb sc bs := ⟨F.1.ext E, F.2.1.ext E, F.2.2.1.ext E, F.2.2.2.1.ext E, F.2.2.2.2.ext E⟩
/-- the Asides at x: cnt rows in the table t, of length zt, that opens with vs -/
def AS (Z : State) (h : Heap) (n0 : Nat) (x sb tb t : Addr) (kb kt : ClassId) (cnt zt : Int32) (vs : List Value) (zb sc : Int32) (bs : List Value) : Prop := Exa Z h x "com/example/nodewarden/nodewarden/core/Asides" ∧ Fld Z h x "com/example/nodewarden/nodewarden/core/Asides" "text" "Ljava/lang/StringBuilder;" (.ref sb) ∧ Fld Z h x "com/example/nodewarden/nodewarden/core/Asides" "table" "[I" (.ref t) ∧ Fld Z h x "com/example/nodewarden/nodewarden/core/Asides" "count" "I" (.int cnt) ∧ Arv Z h t kt .int zt vs (.int (0 : Int32)) ∧ SBF Z h sb tb kb zb sc bs ∧ n0 ≤ x ∧ n0 ≤ sb ∧ n0 ≤ tb ∧ n0 ≤ t
theorem AS.ext {Z : State} {h h' : Heap} {n0 : Nat} {x sb tb t : Addr} {kb kt : ClassId} {cnt zt : Int32} {vs : List Value} {zb sc : Int32} {bs : List Value} (F : AS Z h n0 x sb tb t kb kt cnt zt vs zb sc bs) (E : Ext h h') : AS Z h' n0 x sb tb t kb kt cnt zt vs zb sc bs := ⟨F.1.ext E, F.2.1.ext E, F.2.2.1.ext E, F.2.2.2.1.ext E, F.2.2.2.2.1.ext E, F.2.2.2.2.2.1.ext E, F.2.2.2.2.2.2⟩
theorem own_and3 (k n : Int32) (e : (k &&& (3 : Int32)) = n) : n = 0 ∨ n = 1 ∨ n = 2 ∨ n = 3 := by
  subst e
  have q := c_mask k 3 2 (by decide) (by decide)
  have hlt : ∀ x : Int32, 0 ≤ x.toInt → x.toInt < 4 → x = 0 ∨ x = 1 ∨ x = 2 ∨ x = 3 := fun x h1 h2 => by
    have e0 : (0 : Int32).toInt = 0 := rfl
    have e1 : (1 : Int32).toInt = 1 := rfl
    have e2 : (2 : Int32).toInt = 2 := rfl
    have e3 : (3 : Int32).toInt = 3 := rfl
    simp only [← Int32.toInt_inj, e0, e1, e2, e3]
    omega
  exact hlt _ (by omega) (by omega)
theorem own_as5 (k n : Int32) (e : ((k.toUInt32 >>> ((2 : Int32) &&& 31).toUInt32).toInt32) % (5 : Int32) = n) : n = 0 ∨ n = 1 ∨ n = 2 ∨ n = 3 ∨ n = 4 := by
  subst e
  have q := c_iushr k 2 2 (by decide) (by decide)
  have r := (c_irem ((k.toUInt32 >>> ((2 : Int32) &&& 31).toUInt32).toInt32) 5 5 rfl).1 (by rw [q]; omega)
  have hlt : ∀ x : Int32, 0 ≤ x.toInt → x.toInt < 5 → x = 0 ∨ x = 1 ∨ x = 2 ∨ x = 3 ∨ x = 4 := fun x h1 h2 => by
    have e0 : (0 : Int32).toInt = 0 := rfl
    have e1 : (1 : Int32).toInt = 1 := rfl
    have e2 : (2 : Int32).toInt = 2 := rfl
    have e3 : (3 : Int32).toInt = 3 := rfl
    have e4 : (4 : Int32).toInt = 4 := rfl
    simp only [← Int32.toInt_inj, e0, e1, e2, e3, e4]
    omega
  exact hlt _ (by omega) (by omega)
end Jvm.Pilot.@@N@@

namespace Jvm.Pilot.@@N@@
open Jvm Jvm.ClassFile Sem Op Lib Jvm.Free Jvm.Stand Jvm.LawKit Jvm.RoadKit Jvm.OwnKit Bundle Jvm.Pilot.@@N@@.Jvm.D
theorem dMX_0 : decode jdk_29_method_65_code 0 = .ok (.iload_n 0, 1) := by decide +kernel
theorem dMX_1 : decode jdk_29_method_65_code 1 = .ok (.iload_n 1, 1) := by decide +kernel
theorem dMX_2 : decode jdk_29_method_65_code 2 = .ok (.if_icmp .lt 7, 3) := by decide +kernel
theorem dMX_5 : decode jdk_29_method_65_code 5 = .ok (.iload_n 0, 1) := by decide +kernel
theorem dMX_6 : decode jdk_29_method_65_code 6 = .ok (.goto 4, 3) := by decide +kernel
theorem dMX_9 : decode jdk_29_method_65_code 9 = .ok (.iload_n 1, 1) := by decide +kernel
theorem dMX_10 : decode jdk_29_method_65_code 10 = .ok (.ireturn, 1) := by decide +kernel
set_option maxRecDepth 65536 in
set_option maxHeartbeats 40000000 in
theorem rmMX {l : Launch} {Z : State} {a0 : Array Value} {n0 : Nat} (X : Ctx Z a0) {a b z : Int32} (hz : (if a < b then b else a) = z) {h : Heap} (hO : Old Z n0 h)  :
    Ctr l Z EL1 n0 (⟨"java/lang/Math", "max", "(II)I"⟩ : MethodName) jdk_29_method_65_code 2 (some .int) ({ frames := 0, cells := 0, slots := 0, locals := 0 } : Room) #[(.int a), (.int b)] h [] (fun v h' => v = some (.int z) ∧ h' = h) := by
  have hw := X.hw
  obtain ⟨z1, hz1, hz2⟩ := X.2.2.1
  refine Ctr.intro (a0 := a0) (by decide +kernel) hO X.ew ?_
  intro p e s m below meth c T0 V0 S0 hby hml hret hnm hsf
  rw [ef0]
  refine s_iloadN S0 (hb hby dMX_0) rfl (pc' := 1) rfl ?_
  refine s_iloadN S0 (hb hby dMX_1) rfl (pc' := 2) rfl ?_
  refine g_icmp S0 (hb hby dMX_2) (by decide) (pcT := 9) (by decide) (fun q => ?_) (fun q => ?_)
  · have hc2_1 : a < b := icT_lt q
    show Go p e below _ (T0.setTop (mkF m 9 #[.val (.int a), .val (.int b)] []))
    refine s_iloadN S0 (hb hby dMX_9) rfl (pc' := 10) rfl ?_
    show Go p e below _ (T0.setTop (mkF m 10 #[.val (.int a), .val (.int b)] [(.int b)]))
    exact g_iret S0 (hb hby dMX_10) hret ⟨by rw [← hz, if_pos hc2_1], rfl⟩
  · have hc2_1 : ¬ a < b := icF_lt q
    show Go p e below _ (T0.setTop (mkF m 5 #[.val (.int a), .val (.int b)] []))
    refine s_iloadN S0 (hb hby dMX_5) rfl (pc' := 6) rfl ?_
    refine s_goto S0 (hb hby dMX_6) (by decide) (pcT := 10) (by decide) ?_
    show Go p e below _ (T0.setTop (mkF m 10 #[.val (.int a), .val (.int b)] [(.int a)]))
    exact g_iret S0 (hb hby dMX_10) hret ⟨by rw [← hz, if_neg hc2_1], rfl⟩
theorem dMN_0 : decode jdk_29_method_69_code 0 = .ok (.iload_n 0, 1) := by decide +kernel
theorem dMN_1 : decode jdk_29_method_69_code 1 = .ok (.iload_n 1, 1) := by decide +kernel
theorem dMN_2 : decode jdk_29_method_69_code 2 = .ok (.if_icmp .gt 7, 3) := by decide +kernel
theorem dMN_5 : decode jdk_29_method_69_code 5 = .ok (.iload_n 0, 1) := by decide +kernel
theorem dMN_6 : decode jdk_29_method_69_code 6 = .ok (.goto 4, 3) := by decide +kernel
theorem dMN_9 : decode jdk_29_method_69_code 9 = .ok (.iload_n 1, 1) := by decide +kernel
theorem dMN_10 : decode jdk_29_method_69_code 10 = .ok (.ireturn, 1) := by decide +kernel
set_option maxRecDepth 65536 in
set_option maxHeartbeats 40000000 in
theorem rmMN {l : Launch} {Z : State} {a0 : Array Value} {n0 : Nat} (X : Ctx Z a0) {a b z : Int32} (hz : (if b < a then b else a) = z) {h : Heap} (hO : Old Z n0 h)  :
    Ctr l Z EL1 n0 (⟨"java/lang/Math", "min", "(II)I"⟩ : MethodName) jdk_29_method_69_code 2 (some .int) ({ frames := 0, cells := 0, slots := 0, locals := 0 } : Room) #[(.int a), (.int b)] h [] (fun v h' => v = some (.int z) ∧ h' = h) := by
  have hw := X.hw
  obtain ⟨z1, hz1, hz2⟩ := X.2.2.1
  refine Ctr.intro (a0 := a0) (by decide +kernel) hO X.ew ?_
  intro p e s m below meth c T0 V0 S0 hby hml hret hnm hsf
  rw [ef0]
  refine s_iloadN S0 (hb hby dMN_0) rfl (pc' := 1) rfl ?_
  refine s_iloadN S0 (hb hby dMN_1) rfl (pc' := 2) rfl ?_
  refine g_icmp S0 (hb hby dMN_2) (by decide) (pcT := 9) (by decide) (fun q => ?_) (fun q => ?_)
  · have hc2_2 : b < a := icT_gt q
    show Go p e below _ (T0.setTop (mkF m 9 #[.val (.int a), .val (.int b)] []))
    refine s_iloadN S0 (hb hby dMN_9) rfl (pc' := 10) rfl ?_
    show Go p e below _ (T0.setTop (mkF m 10 #[.val (.int a), .val (.int b)] [(.int b)]))
    exact g_iret S0 (hb hby dMN_10) hret ⟨by rw [← hz, if_pos hc2_2], rfl⟩
  · have hc2_2 : ¬ b < a := icF_gt q
    show Go p e below _ (T0.setTop (mkF m 5 #[.val (.int a), .val (.int b)] []))
    refine s_iloadN S0 (hb hby dMN_5) rfl (pc' := 6) rfl ?_
    refine s_goto S0 (hb hby dMN_6) (by decide) (pcT := 10) (by decide) ?_
    show Go p e below _ (T0.setTop (mkF m 10 #[.val (.int a), .val (.int b)] [(.int a)]))
    exact g_iret S0 (hb hby dMN_10) hret ⟨by rw [← hz, if_neg hc2_2], rfl⟩
theorem dAI_0 : decode jdk_68_method_2_code 0 = .ok (.aload_n 0, 1) := by decide +kernel
theorem dAI_1 : decode jdk_68_method_2_code 1 = .ok (.invokespecial 3, 3) := by decide +kernel
theorem dAI_4 : decode jdk_68_method_2_code 4 = .ok (.getstatic 18, 3) := by decide +kernel
theorem dAI_7 : decode jdk_68_method_2_code 7 = .ok (.ifCond .eq 18, 3) := by decide +kernel
theorem dAI_10 : decode jdk_68_method_2_code 10 = .ok (.aload_n 0, 1) := by decide +kernel
theorem dAI_11 : decode jdk_68_method_2_code 11 = .ok (.iload_n 1, 1) := by decide +kernel
theorem dAI_12 : decode jdk_68_method_2_code 12 = .ok (.newarray .byte, 2) := by decide +kernel
theorem dAI_14 : decode jdk_68_method_2_code 14 = .ok (.putfield 15, 3) := by decide +kernel
theorem dAI_17 : decode jdk_68_method_2_code 17 = .ok (.aload_n 0, 1) := by decide +kernel
theorem dAI_18 : decode jdk_68_method_2_code 18 = .ok (.iconst 0, 1) := by decide +kernel
theorem dAI_19 : decode jdk_68_method_2_code 19 = .ok (.putfield 22, 3) := by decide +kernel
theorem dAI_22 : decode jdk_68_method_2_code 22 = .ok (.goto 16, 3) := by decide +kernel
theorem dAI_38 : decode jdk_68_method_2_code 38 = .ok (.return_, 1) := by decide +kernel
set_option maxRecDepth 65536 in
set_option maxHeartbeats 40000000 in
theorem rmAI {l : Launch} {Z : State} {a0 : Array Value} {n0 : Nat} (X : Ctx Z a0) {x : Addr} {v0 c0 : Value} (na : n0 ≤ x) {h : Heap} (hO : Old Z n0 h) (Ex : Exa Z h x "java/lang/StringBuilder") (Fv : Fld Z h x "java/lang/AbstractStringBuilder" "value" "[B" v0) (Fk : Fld Z h x "java/lang/AbstractStringBuilder" "coder" "B" c0) (Fs : Fld Z h x "java/lang/AbstractStringBuilder" "count" "I" (.int (0 : Int32))) :
    CtrV l Z EL1 n0 (⟨"java/lang/AbstractStringBuilder", "<init>", "(I)V"⟩ : MethodName) jdk_68_method_2_code 2 none ({ frames := 1, cells := 1, slots := 16, locals := 12 } : Room) #[(.ref x), (.int (16 : Int32))] h [] (fun v h' vm => v = none ∧ ∃ tb kb, Keep h h' [x] ∧ n0 ≤ tb ∧ h.size ≤ tb ∧ SBF Z h' x tb kb (16 : Int32) (0 : Int32) [] ∧ Safe Z EL1 vm h' tb) := by
  have hw := X.hw
  obtain ⟨z1, hz1, hz2⟩ := X.2.2.1
  refine CtrV.intro (a0 := a0) (plainFor_of_name pn0) hO X.ew ?_
  intro p e s m below meth c T0 V0 S0 hby hml hret hnm hsf
  rw [ef1]
  refine s_aloadN S0 (hb hby dAI_0) rfl rfl (pc' := 1) rfl ?_
  refine g_initO S0 (w22 hw) (w8 hw) (w9 hw) (by rw [hml]; rfl) (hb hby dAI_1) (Nat.le_of_ble_eq_true rfl) (Nat.le_of_ble_eq_true rfl) ?_
  intro T3 ST3
  show Go p e below _ (T3.setTop (mkF m 4 #[.val (.ref x), .val (.int (16 : Int32))] []))
  refine g_getS ST3 (w23 hw) Via.refl (hz1.ext ST3.old.2) (hb hby dAI_4) ?_
  intro T4 ST4
  show Go p e below _ (T4.setTop (mkF m 7 #[.val (.ref x), .val (.int (16 : Int32))] [(.int z1)]))
  refine s_ifN ST4 (hb hby dAI_7) ((if0 _ _).trans (feq hz2).1) (pc' := 10) rfl ?_
  refine s_aloadN ST4 (hb hby dAI_10) rfl rfl (pc' := 11) rfl ?_
  refine s_iloadN ST4 (hb hby dAI_11) rfl (pc' := 12) rfl ?_
  refine g_newarr (aty := .byte) ST4 (w25 hw) (hb hby dAI_12) (by decide) (cap := 16) (by decide) (by decide) (Nat.le_of_ble_eq_true rfl) (Nat.le_of_ble_eq_true rfl) ?_
  intro T5 h5 b5 kc5 S5 E5 fr5 lt5 na5 sf5 A5
  have V5 : Arv Z h5 b5 kc5 .byte (16 : Int32) [] (.int (0 : Int32)) := A5 0
  show Go p e below _ (T5.setTop (mkF m 14 #[.val (.ref x), .val (.int (16 : Int32))] [(.ref b5), (.ref x)]))
  show Go p e below _ (T5.setTop (mkF m 14 #[.val (.ref x), .val (.int (16 : Int32))] [(.ref b5), (.ref x)]))
  have Fv7 := Fv.ext E5
  have Ex8 := Ex.ext E5
  have Fk9 := Fk.ext E5
  have Fs10 := Fs.ext E5
  refine g_putF S5 (w26 hw) Via.refl Fv7 Ex8 (Or.inl (w27 hw)) (w11 hw) (ty := (.array .byte)) (v' := (.ref b5)) (by decide) rfl rfl na (Safe.exa S5.warm.alike Ex8 (by decide) (by decide)) (hb hby dAI_14) ?_
  intro T6 h6 S6 K6 W6 A6 F6 sg6
  have sf11 := Safe.keep K6 (sfS (Safe.exa S5.warm.alike Ex8 (by decide) (by decide)) sf0) S5.chv sf5
  have F12 := Fk9.other W6 (Or.inr (slot_ne (Or.inl (w29 hw)) (Or.inl (w27 hw)) (by decide) (t := .byte) (t' := (.array .byte)) (by decide) (by decide)))
  have F13 := Fs10.other W6 (Or.inr (slot_ne (Or.inl (w68 hw)) (Or.inl (w27 hw)) (by decide) (t := .int) (t' := (.array .byte)) (by decide) (by decide)))
  show Go p e below _ (T6.setTop (mkF m 17 #[.val (.ref x), .val (.int (16 : Int32))] []))
  refine s_aloadN S6 (hb hby dAI_17) rfl rfl (pc' := 18) rfl ?_
  refine s_iconst S6 (hb hby dAI_18) (v := (0 : Int32)) rfl (pc' := 19) rfl ?_
  show Go p e below _ (T6.setTop (mkF m 19 #[.val (.ref x), .val (.int (16 : Int32))] [(.int (0 : Int32)), (.ref x)]))
  refine g_putF S6 (w28 hw) Via.refl F12 A6 (Or.inl (w29 hw)) (w11 hw) (ty := .byte) (v' := (.int (0 : Int32))) (by decide) rfl rfl na (Safe.exa S6.warm.alike A6 (by decide) (by decide)) (hb hby dAI_19) ?_
  intro T14 h14 S14 K14 W14 A14 F14 sg14
  have sf15 := Safe.keep K14 (sfS (Safe.exa S6.warm.alike A6 (by decide) (by decide)) sf0) S6.chv sf11
  have F16 := F6.other W14 (Or.inr (slot_ne (Or.inl (w27 hw)) (Or.inl (w29 hw)) (by decide) (t := (.array .byte)) (t' := .byte) (by decide) (by decide)))
  have F17 := F13.other W14 (Or.inr (slot_ne (Or.inl (w68 hw)) (Or.inl (w29 hw)) (by decide) (t := .int) (t' := .byte) (by decide) (by decide)))
  show Go p e below _ (T14.setTop (mkF m 22 #[.val (.ref x), .val (.int (16 : Int32))] []))
  refine s_goto S14 (hb hby dAI_22) (by decide) (pcT := 38) (by decide) ?_
  show Go p e below _ (T14.setTop (mkF m 38 #[.val (.ref x), .val (.int (16 : Int32))] []))
  have KA18 : Keep h h14 [x] := ((((Keep.refl h [x]).ext E5).trans K6 (fun y hy => Or.inl hy)).trans K14 (fun y hy => Or.inl hy))
  have F19 := V5.keep K6 (ninS (Ne.symm (Nat.ne_of_lt (Nat.lt_of_lt_of_le (Nat.lt_of_lt_of_le Ex.lt (Nat.le_refl _)) fr5))) nin0)
  have F20 := F19.keep K14 (ninS (Ne.symm (Nat.ne_of_lt (Nat.lt_of_lt_of_le (Nat.lt_of_lt_of_le Ex.lt (Nat.le_refl _)) fr5))) nin0)
  exact g_retV S14 (hb hby dAI_38) hret (fun sfx => ⟨rfl, b5, _, KA18, na5, Nat.le_of_lt_succ (Nat.lt_succ_of_le fr5), ⟨A14, F16, F14, F17, F20⟩, sfx _ F20.lt sf15⟩)
theorem dSI_0 : decode jdk_67_method_1_code 0 = .ok (.aload_n 0, 1) := by decide +kernel
theorem dSI_1 : decode jdk_67_method_1_code 1 = .ok (.bipush 16, 2) := by decide +kernel
theorem dSI_3 : decode jdk_67_method_1_code 3 = .ok (.invokespecial 1, 3) := by decide +kernel
theorem dSI_6 : decode jdk_67_method_1_code 6 = .ok (.return_, 1) := by decide +kernel
set_option maxRecDepth 65536 in
set_option maxHeartbeats 40000000 in
theorem rmSI {l : Launch} {Z : State} {a0 : Array Value} {n0 : Nat} (X : Ctx Z a0) {x : Addr} {v0 c0 : Value} (na : n0 ≤ x) {h : Heap} (hO : Old Z n0 h) (Ex : Exa Z h x "java/lang/StringBuilder") (Fv : Fld Z h x "java/lang/AbstractStringBuilder" "value" "[B" v0) (Fk : Fld Z h x "java/lang/AbstractStringBuilder" "coder" "B" c0) (Fs : Fld Z h x "java/lang/AbstractStringBuilder" "count" "I" (.int (0 : Int32))) :
    CtrV l Z EL1 n0 (⟨"java/lang/StringBuilder", "<init>", "()V"⟩ : MethodName) jdk_67_method_1_code 1 none ({ frames := 2, cells := 1, slots := 16, locals := 25 } : Room) #[(.ref x)] h [] (fun v h' vm => v = none ∧ ∃ tb kb, Keep h h' [x] ∧ n0 ≤ tb ∧ h.size ≤ tb ∧ SBF Z h' x tb kb (16 : Int32) (0 : Int32) [] ∧ Safe Z EL1 vm h' tb) := by
  have hw := X.hw
  obtain ⟨z1, hz1, hz2⟩ := X.2.2.1
  refine CtrV.intro (a0 := a0) (plainFor_of_name pn1) hO X.ew ?_
  intro p e s m below meth c T0 V0 S0 hby hml hret hnm hsf
  rw [ef2]
  refine s_aloadN S0 (hb hby dSI_0) rfl rfl (pc' := 1) rfl ?_
  refine s_bipush S0 (hb hby dSI_1) (v := (16 : Int32)) rfl (pc' := 3) rfl ?_
  show Go p e below _ (T0.setTop (mkF m 3 #[.val (.ref x)] [(.int (16 : Int32)), (.ref x)]))
  refine g_special S0 (rmAI X na S0.old Ex Fv Fk Fs) (fun _ q => nomatch q) rfl (w16 hw) (w17 hw) (w20 hw) (w21 hw) (by decide) (hb hby dSI_3) (by rw [hml]; rfl) x [(.int (16 : Int32))] (lenOf pd0 rfl) rfl rfl (Nat.le_of_ble_eq_true rfl) (Nat.le_of_ble_eq_true rfl) (Nat.le_of_ble_eq_true rfl) (Nat.le_of_ble_eq_true rfl) ?_
  intro v21 T21 V21 h21 S21 C21 q21
  obtain ⟨rfl, tb, kb, K1, ntb, frb, F1, sf1_⟩ := q21
  show Go p e below _ (T21.setTop (mkF m 6 #[.val (.ref x)] []))
  show Go p e below _ (T21.setTop (mkF m 6 #[.val (.ref x)] []))
  exact g_retV S21 (hb hby dSI_6) hret (fun sfx => ⟨rfl, tb, kb, K1, ntb, frb, F1, sfx _ F1.2.2.2.2.lt sf1_⟩)
theorem dLN_0 : decode jdk_68_method_6_code 0 = .ok (.aload_n 0, 1) := by decide +kernel
theorem dLN_1 : decode jdk_68_method_6_code 1 = .ok (.getfield 79, 3) := by decide +kernel
theorem dLN_4 : decode jdk_68_method_6_code 4 = .ok (.ireturn, 1) := by decide +kernel
set_option maxRecDepth 65536 in
set_option maxHeartbeats 40000000 in
theorem rmLN {l : Launch} {Z : State} {a0 : Array Value} {n0 : Nat} (X : Ctx Z a0) {x tb : Addr} {sc : Int32} {h : Heap} (hO : Old Z n0 h) (Ex : Exa Z h x "java/lang/StringBuilder") (Fv : Fld Z h x "java/lang/AbstractStringBuilder" "value" "[B" (.ref tb)) (Fk : Fld Z h x "java/lang/AbstractStringBuilder" "coder" "B" (.int (0 : Int32))) (Fs : Fld Z h x "java/lang/AbstractStringBuilder" "count" "I" (.int sc)) :
    Ctr l Z EL1 n0 (⟨"java/lang/AbstractStringBuilder", "length", "()I"⟩ : MethodName) jdk_68_method_6_code 1 (some .int) ({ frames := 0, cells := 0, slots := 0, locals := 0 } : Room) #[(.ref x)] h [] (fun v h' => v = some (.int sc) ∧ h' = h) := by
  have hw := X.hw
  obtain ⟨z1, hz1, hz2⟩ := X.2.2.1
  refine Ctr.intro (a0 := a0) (plainFor_of_name pn0) hO X.ew ?_
  intro p e s m below meth c T0 V0 S0 hby hml hret hnm hsf
  rw [ef2]
  refine s_aloadN S0 (hb hby dLN_0) rfl rfl (pc' := 1) rfl ?_
  refine g_getF S0 (w67 hw) Via.refl Fs (hb hby dLN_1) ?_
  intro T22 ST22
  show Go p e below _ (T22.setTop (mkF m 4 #[.val (.ref x)] [(.int sc)]))
  exact g_iret ST22 (hb hby dLN_4) hret ⟨rfl, rfl⟩
theorem dSL_0 : decode jdk_67_method_93_code 0 = .ok (.aload_n 0, 1) := by decide +kernel
theorem dSL_1 : decode jdk_67_method_93_code 1 = .ok (.invokespecial 343, 3) := by decide +kernel
theorem dSL_4 : decode jdk_67_method_93_code 4 = .ok (.ireturn, 1) := by decide +kernel
set_option maxRecDepth 65536 in
set_option maxHeartbeats 40000000 in
theorem rmSL {l : Launch} {Z : State} {a0 : Array Value} {n0 : Nat} (X : Ctx Z a0) {x tb : Addr} {sc : Int32} {h : Heap} (hO : Old Z n0 h) (Ex : Exa Z h x "java/lang/StringBuilder") (Fv : Fld Z h x "java/lang/AbstractStringBuilder" "value" "[B" (.ref tb)) (Fk : Fld Z h x "java/lang/AbstractStringBuilder" "coder" "B" (.int (0 : Int32))) (Fs : Fld Z h x "java/lang/AbstractStringBuilder" "count" "I" (.int sc)) :
    Ctr l Z EL1 n0 (⟨"java/lang/StringBuilder", "length", "()I"⟩ : MethodName) jdk_67_method_93_code 1 (some .int) ({ frames := 1, cells := 0, slots := 0, locals := 12 } : Room) #[(.ref x)] h [] (fun v h' => v = some (.int sc) ∧ h' = h) := by
  have hw := X.hw
  obtain ⟨z1, hz1, hz2⟩ := X.2.2.1
  refine Ctr.intro (a0 := a0) (plainFor_of_name pn1) hO X.ew ?_
  intro p e s m below meth c T0 V0 S0 hby hml hret hnm hsf
  rw [ef2]
  refine s_aloadN S0 (hb hby dSL_0) rfl rfl (pc' := 1) rfl ?_
  show Go p e below _ (T0.setTop (mkF m 1 #[.val (.ref x)] [(.ref x)]))
  refine g_super S0 (rmLN X S0.old Ex Fv Fk Fs) (fun _ q => nomatch q) (by decide) (w105 hw) (ni_sel (w72 hw) rfl) (w106 hw) (w58 hw) (w20 hw) (w108 hw) (by decide) (hb hby dSL_1) (by rw [hml]; rfl) x Ex [] (lenOf pd1 rfl) rfl rfl (Nat.le_of_ble_eq_true rfl) (Nat.le_of_ble_eq_true rfl) (Nat.le_of_ble_eq_true rfl) (Nat.le_of_ble_eq_true rfl) ?_
  intro v23 T23 V23 h23 S23 C23 q23
  obtain ⟨rfl, rfl⟩ := q23
  show Go p e below _ (T23.setTop (mkF m 4 #[.val (.ref x)] [(.int sc)]))
  exact g_iret S23 (hb hby dSL_4) hret ⟨rfl, rfl⟩
theorem dIL_0 : decode jdk_68_method_68_code 0 = .ok (.getstatic 18, 3) := by decide +kernel
theorem dIL_3 : decode jdk_68_method_68_code 3 = .ok (.ifCond .eq 14, 3) := by decide +kernel
theorem dIL_6 : decode jdk_68_method_68_code 6 = .ok (.aload_n 0, 1) := by decide +kernel
theorem dIL_7 : decode jdk_68_method_68_code 7 = .ok (.getfield 22, 3) := by decide +kernel
theorem dIL_10 : decode jdk_68_method_68_code 10 = .ok (.ifCond .ne 7, 3) := by decide +kernel
theorem dIL_13 : decode jdk_68_method_68_code 13 = .ok (.iconst 1, 1) := by decide +kernel
theorem dIL_14 : decode jdk_68_method_68_code 14 = .ok (.goto 4, 3) := by decide +kernel
theorem dIL_18 : decode jdk_68_method_68_code 18 = .ok (.ireturn, 1) := by decide +kernel
set_option maxRecDepth 65536 in
set_option maxHeartbeats 40000000 in
theorem rmIL {l : Launch} {Z : State} {a0 : Array Value} {n0 : Nat} (X : Ctx Z a0) {x tb : Addr} {sc : Int32} {h : Heap} (hO : Old Z n0 h) (Ex : Exa Z h x "java/lang/StringBuilder") (Fv : Fld Z h x "java/lang/AbstractStringBuilder" "value" "[B" (.ref tb)) (Fk : Fld Z h x "java/lang/AbstractStringBuilder" "coder" "B" (.int (0 : Int32))) (Fs : Fld Z h x "java/lang/AbstractStringBuilder" "count" "I" (.int sc)) :
    Ctr l Z EL1 n0 (⟨"java/lang/AbstractStringBuilder", "isLatin1", "()Z"⟩ : MethodName) jdk_68_method_68_code 1 (some .boolean) ({ frames := 0, cells := 0, slots := 0, locals := 0 } : Room) #[(.ref x)] h [] (fun v h' => v = some (.int 1) ∧ h' = h) := by
  have hw := X.hw
  obtain ⟨z1, hz1, hz2⟩ := X.2.2.1
  refine Ctr.intro (a0 := a0) (plainFor_of_name pn0) hO X.ew ?_
  intro p e s m below meth c T0 V0 S0 hby hml hret hnm hsf
  rw [ef2]
  refine g_getS S0 (w23 hw) Via.refl (hz1.ext S0.old.2) (hb hby dIL_0) ?_
  intro T24 ST24
  show Go p e below _ (T24.setTop (mkF m 3 #[.val (.ref x)] [(.int z1)]))
  refine s_ifN ST24 (hb hby dIL_3) ((if0 _ _).trans (feq hz2).1) (pc' := 6) rfl ?_
  refine s_aloadN ST24 (hb hby dIL_6) rfl rfl (pc' := 7) rfl ?_
  refine g_getF ST24 (w28 hw) Via.refl Fk (hb hby dIL_7) ?_
  intro T25 ST25
  show Go p e below _ (T25.setTop (mkF m 10 #[.val (.ref x)] [(.int (0 : Int32))]))
  refine s_ifN ST25 (hb hby dIL_10) (by decide) (pc' := 13) rfl ?_
  refine s_iconst ST25 (hb hby dIL_13) (v := (1 : Int32)) rfl (pc' := 14) rfl ?_
  refine s_goto ST25 (hb hby dIL_14) (by decide) (pcT := 18) (by decide) ?_
  exact g_iretN ST25 (hb hby dIL_18) hret (by simp) ⟨rfl, rfl⟩
theorem dCF000r_0 : decode jdk_41_method_12_code 0 = .ok (.iload_n 0, 1) := by decide +kernel
theorem dCF000r_1 : decode jdk_41_method_12_code 1 = .ok (.ifCond .lt 13, 3) := by decide +kernel
theorem dCF000r_4 : decode jdk_41_method_12_code 4 = .ok (.iload_n 0, 1) := by decide +kernel
theorem dCF000r_5 : decode jdk_41_method_12_code 5 = .ok (.iload_n 1, 1) := by decide +kernel
theorem dCF000r_6 : decode jdk_41_method_12_code 6 = .ok (.if_icmp .gt 8, 3) := by decide +kernel
theorem dCF000r_9 : decode jdk_41_method_12_code 9 = .ok (.iload_n 1, 1) := by decide +kernel
theorem dCF000r_10 : decode jdk_41_method_12_code 10 = .ok (.iload_n 2, 1) := by decide +kernel
theorem dCF000r_11 : decode jdk_41_method_12_code 11 = .ok (.if_icmp .le 11, 3) := by decide +kernel
theorem dCF000r_22 : decode jdk_41_method_12_code 22 = .ok (.iload_n 0, 1) := by decide +kernel
theorem dCF000r_23 : decode jdk_41_method_12_code 23 = .ok (.ireturn, 1) := by decide +kernel
set_option maxRecDepth 65536 in
set_option maxHeartbeats 40000000 in
theorem rmCF000r {l : Launch} {Z : State} {a0 : Array Value} {n0 : Nat} (X : Ctx Z a0) (fb : Addr) {h : Heap} (hO : Old Z n0 h)  :
    Ctr l Z EL1 n0 (⟨"jdk/internal/util/Preconditions", "checkFromToIndex", "(IIILjava/util/function/BiFunction;)I"⟩ : MethodName) jdk_41_method_12_code 4 (some .int) ({ frames := 0, cells := 0, slots := 0, locals := 0 } : Room) #[(.int (0 : Int32)), (.int (0 : Int32)), (.int (0 : Int32)), (.ref fb)] h [] (fun v h' => v = some (.int (0 : Int32)) ∧ h' = h) := by
  have hw := X.hw
  obtain ⟨z1, hz1, hz2⟩ := X.2.2.1
  refine Ctr.intro (a0 := a0) (plainFor_of_name pn2) hO X.ew ?_
  intro p e s m below meth c T0 V0 S0 hby hml hret hnm hsf
  rw [ef3]
  refine s_iloadN S0 (hb hby dCF000r_0) rfl (pc' := 1) rfl ?_
  refine s_ifN S0 (hb hby dCF000r_1) (by decide) (pc' := 4) rfl ?_
  refine s_iloadN S0 (hb hby dCF000r_4) rfl (pc' := 5) rfl ?_
  refine s_iloadN S0 (hb hby dCF000r_5) rfl (pc' := 6) rfl ?_
  refine s_icmpN S0 (hb hby dCF000r_6) (by decide) (pc' := 9) rfl ?_
  refine s_iloadN S0 (hb hby dCF000r_9) rfl (pc' := 10) rfl ?_
  refine s_iloadN S0 (hb hby dCF000r_10) rfl (pc' := 11) rfl ?_
  refine s_icmpY S0 (hb hby dCF000r_11) (by decide) (by decide) (pcT := 22) (by decide) ?_
  refine s_iloadN S0 (hb hby dCF000r_22) rfl (pc' := 23) rfl ?_
  exact g_iret S0 (hb hby dCF000r_23) hret ⟨rfl, rfl⟩
theorem dCF000n_0 : decode jdk_41_method_12_code 0 = .ok (.iload_n 0, 1) := by decide +kernel
theorem dCF000n_1 : decode jdk_41_method_12_code 1 = .ok (.ifCond .lt 13, 3) := by decide +kernel
theorem dCF000n_4 : decode jdk_41_method_12_code 4 = .ok (.iload_n 0, 1) := by decide +kernel
theorem dCF000n_5 : decode jdk_41_method_12_code 5 = .ok (.iload_n 1, 1) := by decide +kernel
theorem dCF000n_6 : decode jdk_41_method_12_code 6 = .ok (.if_icmp .gt 8, 3) := by decide +kernel
theorem dCF000n_9 : decode jdk_41_method_12_code 9 = .ok (.iload_n 1, 1) := by decide +kernel
theorem dCF000n_10 : decode jdk_41_method_12_code 10 = .ok (.iload_n 2, 1) := by decide +kernel
theorem dCF000n_11 : decode jdk_41_method_12_code 11 = .ok (.if_icmp .le 11, 3) := by decide +kernel
theorem dCF000n_22 : decode jdk_41_method_12_code 22 = .ok (.iload_n 0, 1) := by decide +kernel
theorem dCF000n_23 : decode jdk_41_method_12_code 23 = .ok (.ireturn, 1) := by decide +kernel
set_option maxRecDepth 65536 in
set_option maxHeartbeats 40000000 in
theorem rmCF000n {l : Launch} {Z : State} {a0 : Array Value} {n0 : Nat} (X : Ctx Z a0)  {h : Heap} (hO : Old Z n0 h)  :
    Ctr l Z EL1 n0 (⟨"jdk/internal/util/Preconditions", "checkFromToIndex", "(IIILjava/util/function/BiFunction;)I"⟩ : MethodName) jdk_41_method_12_code 4 (some .int) ({ frames := 0, cells := 0, slots := 0, locals := 0 } : Room) #[(.int (0 : Int32)), (.int (0 : Int32)), (.int (0 : Int32)), .null] h [] (fun v h' => v = some (.int (0 : Int32)) ∧ h' = h) := by
  have hw := X.hw
  obtain ⟨z1, hz1, hz2⟩ := X.2.2.1
  refine Ctr.intro (a0 := a0) (plainFor_of_name pn2) hO X.ew ?_
  intro p e s m below meth c T0 V0 S0 hby hml hret hnm hsf
  rw [ef4]
  refine s_iloadN S0 (hb hby dCF000n_0) rfl (pc' := 1) rfl ?_
  refine s_ifN S0 (hb hby dCF000n_1) (by decide) (pc' := 4) rfl ?_
  refine s_iloadN S0 (hb hby dCF000n_4) rfl (pc' := 5) rfl ?_
  refine s_iloadN S0 (hb hby dCF000n_5) rfl (pc' := 6) rfl ?_
  refine s_icmpN S0 (hb hby dCF000n_6) (by decide) (pc' := 9) rfl ?_
  refine s_iloadN S0 (hb hby dCF000n_9) rfl (pc' := 10) rfl ?_
  refine s_iloadN S0 (hb hby dCF000n_10) rfl (pc' := 11) rfl ?_
  refine s_icmpY S0 (hb hby dCF000n_11) (by decide) (by decide) (pcT := 22) (by decide) ?_
  refine s_iloadN S0 (hb hby dCF000n_22) rfl (pc' := 23) rfl ?_
  exact g_iret S0 (hb hby dCF000n_23) hret ⟨rfl, rfl⟩
theorem dEC0_0 : decode jdk_68_method_9_code 0 = .ok (.aload_n 0, 1) := by decide +kernel
theorem dEC0_1 : decode jdk_68_method_9_code 1 = .ok (.getfield 15, 3) := by decide +kernel
theorem dEC0_4 : decode jdk_68_method_9_code 4 = .ok (.arraylength, 1) := by decide +kernel
theorem dEC0_5 : decode jdk_68_method_9_code 5 = .ok (.aload_n 0, 1) := by decide +kernel
theorem dEC0_6 : decode jdk_68_method_9_code 6 = .ok (.getfield 22, 3) := by decide +kernel
theorem dEC0_9 : decode jdk_68_method_9_code 9 = .ok (.ishr, 1) := by decide +kernel
theorem dEC0_10 : decode jdk_68_method_9_code 10 = .ok (.istore_n 2, 1) := by decide +kernel
theorem dEC0_11 : decode jdk_68_method_9_code 11 = .ok (.iload_n 1, 1) := by decide +kernel
theorem dEC0_12 : decode jdk_68_method_9_code 12 = .ok (.iload_n 2, 1) := by decide +kernel
theorem dEC0_13 : decode jdk_68_method_9_code 13 = .ok (.isub, 1) := by decide +kernel
theorem dEC0_14 : decode jdk_68_method_9_code 14 = .ok (.ifCond .le 24, 3) := by decide +kernel
theorem dEC0_38 : decode jdk_68_method_9_code 38 = .ok (.return_, 1) := by decide +kernel
set_option maxRecDepth 65536 in
set_option maxHeartbeats 40000000 in
theorem rmEC0 {l : Launch} {Z : State} {a0 : Array Value} {n0 : Nat} (X : Ctx Z a0) {x tb : Addr} {sc : Int32} {kb : ClassId} {bs : List Value} {dv : Value} {h : Heap} (hO : Old Z n0 h) (Ex : Exa Z h x "java/lang/StringBuilder") (Fv : Fld Z h x "java/lang/AbstractStringBuilder" "value" "[B" (.ref tb)) (Fk : Fld Z h x "java/lang/AbstractStringBuilder" "coder" "B" (.int (0 : Int32))) (Fs : Fld Z h x "java/lang/AbstractStringBuilder" "count" "I" (.int sc)) (Vb : Arv Z h tb kb .byte (16 : Int32) bs dv) :
    Ctr l Z EL1 n0 (⟨"java/lang/AbstractStringBuilder", "ensureCapacityInternal", "(I)V"⟩ : MethodName) jdk_68_method_9_code 3 none ({ frames := 0, cells := 0, slots := 0, locals := 0 } : Room) #[(.ref x), (.int (0 : Int32))] h [] (fun v h' => v = none ∧ h' = h) := by
  have hw := X.hw
  obtain ⟨z1, hz1, hz2⟩ := X.2.2.1
  refine Ctr.intro (a0 := a0) (plainFor_of_name pn0) hO X.ew ?_
  intro p e s m below meth c T0 V0 S0 hby hml hret hnm hsf
  rw [ef5]
  refine s_aloadN S0 (hb hby dEC0_0) rfl rfl (pc' := 1) rfl ?_
  refine g_getF S0 (w26 hw) Via.refl Fv (hb hby dEC0_1) ?_
  intro T26 ST26
  show Go p e below _ (T26.setTop (mkF m 4 #[.val (.ref x), .val (.int (0 : Int32)), .unset] [(.ref tb)]))
  refine g_len ST26 Vb (hb hby dEC0_4) ?_
  show Go p e below _ (T26.setTop (mkF m 5 #[.val (.ref x), .val (.int (0 : Int32)), .unset] [(.int (16 : Int32))]))
  refine s_aloadN ST26 (hb hby dEC0_5) rfl rfl (pc' := 6) rfl ?_
  refine g_getF ST26 (w28 hw) Via.refl Fk (hb hby dEC0_6) ?_
  intro T27 ST27
  show Go p e below _ (T27.setTop (mkF m 9 #[.val (.ref x), .val (.int (0 : Int32)), .unset] [(.int (0 : Int32)), (.int (16 : Int32))]))
  refine s_ishr ST27 (hb hby dEC0_9) (z := (16 : Int32)) (by decide) (pc' := 10) rfl ?_
  refine s_istoreN ST27 (hb hby dEC0_10) (L' := #[.val (.ref x), .val (.int (0 : Int32)), .val (.int (16 : Int32))]) rfl (pc' := 11) rfl ?_
  refine s_iloadN ST27 (hb hby dEC0_11) rfl (pc' := 12) rfl ?_
  refine s_iloadN ST27 (hb hby dEC0_12) rfl (pc' := 13) rfl ?_
  refine s_isub ST27 (hb hby dEC0_13) (z := (-16 : Int32)) rfl (pc' := 14) rfl ?_
  refine s_ifY ST27 (hb hby dEC0_14) (by decide) (by decide) (pcT := 38) (by decide) ?_
  exact g_ret ST27 (hb hby dEC0_38) hret ⟨rfl, rfl⟩
theorem dAP_0 : decode jdk_68_method_74_code 0 = .ok (.aload_n 0, 1) := by decide +kernel
theorem dAP_1 : decode jdk_68_method_74_code 1 = .ok (.getfield 79, 3) := by decide +kernel
theorem dAP_4 : decode jdk_68_method_74_code 4 = .ok (.istore 4, 2) := by decide +kernel
theorem dAP_6 : decode jdk_68_method_74_code 6 = .ok (.aload_n 0, 1) := by decide +kernel
theorem dAP_7 : decode jdk_68_method_74_code 7 = .ok (.invokevirtual 83, 3) := by decide +kernel
theorem dAP_10 : decode jdk_68_method_74_code 10 = .ok (.ifCond .eq 97, 3) := by decide +kernel
theorem dAP_13 : decode jdk_68_method_74_code 13 = .ok (.aload_n 0, 1) := by decide +kernel
theorem dAP_14 : decode jdk_68_method_74_code 14 = .ok (.getfield 15, 3) := by decide +kernel
theorem dAP_17 : decode jdk_68_method_74_code 17 = .ok (.astore 5, 2) := by decide +kernel
theorem dAP_19 : decode jdk_68_method_74_code 19 = .ok (.iload_n 2, 1) := by decide +kernel
theorem dAP_20 : decode jdk_68_method_74_code 20 = .ok (.istore 6, 2) := by decide +kernel
theorem dAP_22 : decode jdk_68_method_74_code 22 = .ok (.iload 4, 2) := by decide +kernel
theorem dAP_24 : decode jdk_68_method_74_code 24 = .ok (.istore 7, 2) := by decide +kernel
theorem dAP_26 : decode jdk_68_method_74_code 26 = .ok (.iload 6, 2) := by decide +kernel
theorem dAP_28 : decode jdk_68_method_74_code 28 = .ok (.iload_n 3, 1) := by decide +kernel
theorem dAP_29 : decode jdk_68_method_74_code 29 = .ok (.if_icmp .ge 75, 3) := by decide +kernel
theorem dAP_104 : decode jdk_68_method_74_code 104 = .ok (.goto 15, 3) := by decide +kernel
theorem dAP_119 : decode jdk_68_method_74_code 119 = .ok (.aload_n 0, 1) := by decide +kernel
theorem dAP_120 : decode jdk_68_method_74_code 120 = .ok (.iload 4, 2) := by decide +kernel
theorem dAP_122 : decode jdk_68_method_74_code 122 = .ok (.iload_n 3, 1) := by decide +kernel
theorem dAP_123 : decode jdk_68_method_74_code 123 = .ok (.iadd, 1) := by decide +kernel
theorem dAP_124 : decode jdk_68_method_74_code 124 = .ok (.iload_n 2, 1) := by decide +kernel
theorem dAP_125 : decode jdk_68_method_74_code 125 = .ok (.isub, 1) := by decide +kernel
theorem dAP_126 : decode jdk_68_method_74_code 126 = .ok (.putfield 79, 3) := by decide +kernel
theorem dAP_129 : decode jdk_68_method_74_code 129 = .ok (.return_, 1) := by decide +kernel
set_option maxRecDepth 65536 in
set_option maxHeartbeats 40000000 in
theorem rmAP {l : Launch} {Z : State} {a0 : Array Value} {n0 : Nat} (X : Ctx Z a0) {x tb b : Addr} {kc : ClassId} {vs : List Value} {dv : Value} (na : n0 ≤ x) {h : Heap} (hO : Old Z n0 h) (Ex : Exa Z h x "java/lang/StringBuilder") (Fv : Fld Z h x "java/lang/AbstractStringBuilder" "value" "[B" (.ref tb)) (Fk : Fld Z h x "java/lang/AbstractStringBuilder" "coder" "B" (.int (0 : Int32))) (Fs : Fld Z h x "java/lang/AbstractStringBuilder" "count" "I" (.int (0 : Int32))) (Vc : Arv Z h b kc .char (0 : Int32) vs dv) :
    Ctr l Z EL1 n0 (⟨"java/lang/AbstractStringBuilder", "appendChars", "([CII)V"⟩ : MethodName) jdk_68_method_74_code 9 none ({ frames := 1, cells := 0, slots := 0, locals := 12 } : Room) #[(.ref x), (.ref b), (.int (0 : Int32)), (.int (0 : Int32))] h [] (fun v h' => v = none ∧ Keep h h' [x] ∧ Exa Z h' x "java/lang/StringBuilder" ∧ Fld Z h' x "java/lang/AbstractStringBuilder" "value" "[B" (.ref tb) ∧ Fld Z h' x "java/lang/AbstractStringBuilder" "coder" "B" (.int (0 : Int32)) ∧ Fld Z h' x "java/lang/AbstractStringBuilder" "count" "I" (.int (0 : Int32))) := by
  have hw := X.hw
  obtain ⟨z1, hz1, hz2⟩ := X.2.2.1
  refine Ctr.intro (a0 := a0) (plainFor_of_name pn0) hO X.ew ?_
  intro p e s m below meth c T0 V0 S0 hby hml hret hnm hsf
  rw [ef6]
  refine s_aloadN S0 (hb hby dAP_0) rfl rfl (pc' := 1) rfl ?_
  refine g_getF S0 (w67 hw) Via.refl Fs (hb hby dAP_1) ?_
  intro T28 ST28
  show Go p e below _ (T28.setTop (mkF m 4 #[.val (.ref x), .val (.ref b), .val (.int (0 : Int32)), .val (.int (0 : Int32)), .unset, .unset, .unset, .unset, .unset] [(.int (0 : Int32))]))
  refine s_istore ST28 (hb hby dAP_4) (L' := #[.val (.ref x), .val (.ref b), .val (.int (0 : Int32)), .val (.int (0 : Int32)), .val (.int (0 : Int32)), .unset, .unset, .unset, .unset]) rfl (pc' := 6) rfl ?_
  refine s_aloadN ST28 (hb hby dAP_6) rfl rfl (pc' := 7) rfl ?_
  show Go p e below _ (T28.setTop (mkF m 7 #[.val (.ref x), .val (.ref b), .val (.int (0 : Int32)), .val (.int (0 : Int32)), .val (.int (0 : Int32)), .unset, .unset, .unset, .unset] [(.ref x)]))
  refine g_virtual ST28 (rmIL X ST28.old Ex Fv Fk Fs) (fun _ q => nomatch q) (w79 hw) (w80 hw) (w82 hw) (w81 hw) (w20 hw) (w83 hw) (by decide) (fun _ h => notFace_of_selects h) (hb hby dAP_7) (by rw [hml]; rfl) x Ex [] (lenOf pd2 rfl) rfl rfl (Nat.le_of_ble_eq_true rfl) (Nat.le_of_ble_eq_true rfl) (Nat.le_of_ble_eq_true rfl) (Nat.le_of_ble_eq_true rfl) ?_
  intro v29 T29 V29 h29 S29 C29 q29
  obtain ⟨rfl, rfl⟩ := q29
  show Go p e below _ (T29.setTop (mkF m 10 #[.val (.ref x), .val (.ref b), .val (.int (0 : Int32)), .val (.int (0 : Int32)), .val (.int (0 : Int32)), .unset, .unset, .unset, .unset] [(.int (1 : Int32))]))
  refine s_ifN S29 (hb hby dAP_10) (by decide) (pc' := 13) rfl ?_
  refine s_aloadN S29 (hb hby dAP_13) rfl rfl (pc' := 14) rfl ?_
  refine g_getF S29 (w26 hw) Via.refl Fv (hb hby dAP_14) ?_
  intro T30 ST30
  show Go p e below _ (T30.setTop (mkF m 17 #[.val (.ref x), .val (.ref b), .val (.int (0 : Int32)), .val (.int (0 : Int32)), .val (.int (0 : Int32)), .unset, .unset, .unset, .unset] [(.ref tb)]))
  refine s_astore ST30 (hb hby dAP_17) rfl (L' := #[.val (.ref x), .val (.ref b), .val (.int (0 : Int32)), .val (.int (0 : Int32)), .val (.int (0 : Int32)), .val (.ref tb), .unset, .unset, .unset]) rfl (pc' := 19) rfl ?_
  refine s_iloadN ST30 (hb hby dAP_19) rfl (pc' := 20) rfl ?_
  refine s_istore ST30 (hb hby dAP_20) (L' := #[.val (.ref x), .val (.ref b), .val (.int (0 : Int32)), .val (.int (0 : Int32)), .val (.int (0 : Int32)), .val (.ref tb), .val (.int (0 : Int32)), .unset, .unset]) rfl (pc' := 22) rfl ?_
  refine s_iload ST30 (hb hby dAP_22) rfl (pc' := 24) rfl ?_
  refine s_istore ST30 (hb hby dAP_24) (L' := #[.val (.ref x), .val (.ref b), .val (.int (0 : Int32)), .val (.int (0 : Int32)), .val (.int (0 : Int32)), .val (.ref tb), .val (.int (0 : Int32)), .val (.int (0 : Int32)), .unset]) rfl (pc' := 26) rfl ?_
  refine s_iload ST30 (hb hby dAP_26) rfl (pc' := 28) rfl ?_
  refine s_iloadN ST30 (hb hby dAP_28) rfl (pc' := 29) rfl ?_
  refine s_icmpY ST30 (hb hby dAP_29) (by decide) (by decide) (pcT := 104) (by decide) ?_
  refine s_goto ST30 (hb hby dAP_104) (by decide) (pcT := 119) (by decide) ?_
  refine s_aloadN ST30 (hb hby dAP_119) rfl rfl (pc' := 120) rfl ?_
  refine s_iload ST30 (hb hby dAP_120) rfl (pc' := 122) rfl ?_
  refine s_iloadN ST30 (hb hby dAP_122) rfl (pc' := 123) rfl ?_
  refine s_iadd ST30 (hb hby dAP_123) (z := (0 : Int32)) rfl (pc' := 124) rfl ?_
  refine s_iloadN ST30 (hb hby dAP_124) rfl (pc' := 125) rfl ?_
  refine s_isub ST30 (hb hby dAP_125) (z := (0 : Int32)) rfl (pc' := 126) rfl ?_
  show Go p e below _ (T30.setTop (mkF m 126 #[.val (.ref x), .val (.ref b), .val (.int (0 : Int32)), .val (.int (0 : Int32)), .val (.int (0 : Int32)), .val (.ref tb), .val (.int (0 : Int32)), .val (.int (0 : Int32)), .unset] [(.int (0 : Int32)), (.ref x)]))
  refine g_putF ST30 (w67 hw) Via.refl Fs Ex (Or.inl (w68 hw)) (w11 hw) (ty := .int) (v' := (.int (0 : Int32))) (by decide) rfl rfl na (Safe.exa ST30.warm.alike Ex (by decide) (by decide)) (hb hby dAP_126) ?_
  intro T31 h31 S31 K31 W31 A31 F31 sg31
  have F32 := Fv.other W31 (Or.inr (slot_ne (Or.inl (w27 hw)) (Or.inl (w68 hw)) (by decide) (t := (.array .byte)) (t' := .int) (by decide) (by decide)))
  have F33 := Fk.other W31 (Or.inr (slot_ne (Or.inl (w29 hw)) (Or.inl (w68 hw)) (by decide) (t := .byte) (t' := .int) (by decide) (by decide)))
  show Go p e below _ (T31.setTop (mkF m 129 #[.val (.ref x), .val (.ref b), .val (.int (0 : Int32)), .val (.int (0 : Int32)), .val (.int (0 : Int32)), .val (.ref tb), .val (.int (0 : Int32)), .val (.int (0 : Int32)), .unset] []))
  show Go p e below _ (T31.setTop (mkF m 129 #[.val (.ref x), .val (.ref b), .val (.int (0 : Int32)), .val (.int (0 : Int32)), .val (.int (0 : Int32)), .val (.ref tb), .val (.int (0 : Int32)), .val (.int (0 : Int32)), .unset] []))
  have KA34 : Keep h29 h31 [x] := ((Keep.refl h29 [x]).trans K31 (fun y hy => Or.inl hy))
  exact g_ret S31 (hb hby dAP_129) hret ⟨rfl, KA34, A31, F32, F33, F31⟩
theorem dAA_0 : decode jdk_68_method_29_code 0 = .ok (.iload_n 2, 1) := by decide +kernel
theorem dAA_1 : decode jdk_68_method_29_code 1 = .ok (.iload_n 3, 1) := by decide +kernel
theorem dAA_2 : decode jdk_68_method_29_code 2 = .ok (.iadd, 1) := by decide +kernel
theorem dAA_3 : decode jdk_68_method_29_code 3 = .ok (.istore 4, 2) := by decide +kernel
theorem dAA_5 : decode jdk_68_method_29_code 5 = .ok (.iload_n 2, 1) := by decide +kernel
theorem dAA_6 : decode jdk_68_method_29_code 6 = .ok (.iload 4, 2) := by decide +kernel
theorem dAA_8 : decode jdk_68_method_29_code 8 = .ok (.aload_n 1, 1) := by decide +kernel
theorem dAA_9 : decode jdk_68_method_29_code 9 = .ok (.arraylength, 1) := by decide +kernel
theorem dAA_10 : decode jdk_68_method_29_code 10 = .ok (.getstatic 183, 3) := by decide +kernel
theorem dAA_13 : decode jdk_68_method_29_code 13 = .ok (.invokestatic 161, 3) := by decide +kernel
theorem dAA_16 : decode jdk_68_method_29_code 16 = .ok (.pop, 1) := by decide +kernel
theorem dAA_17 : decode jdk_68_method_29_code 17 = .ok (.aload_n 0, 1) := by decide +kernel
theorem dAA_18 : decode jdk_68_method_29_code 18 = .ok (.aload_n 0, 1) := by decide +kernel
theorem dAA_19 : decode jdk_68_method_29_code 19 = .ok (.getfield 79, 3) := by decide +kernel
theorem dAA_22 : decode jdk_68_method_29_code 22 = .ok (.iload_n 3, 1) := by decide +kernel
theorem dAA_23 : decode jdk_68_method_29_code 23 = .ok (.iadd, 1) := by decide +kernel
theorem dAA_24 : decode jdk_68_method_29_code 24 = .ok (.invokevirtual 100, 3) := by decide +kernel
theorem dAA_27 : decode jdk_68_method_29_code 27 = .ok (.aload_n 0, 1) := by decide +kernel
theorem dAA_28 : decode jdk_68_method_29_code 28 = .ok (.aload_n 1, 1) := by decide +kernel
theorem dAA_29 : decode jdk_68_method_29_code 29 = .ok (.iload_n 2, 1) := by decide +kernel
theorem dAA_30 : decode jdk_68_method_29_code 30 = .ok (.iload 4, 2) := by decide +kernel
theorem dAA_32 : decode jdk_68_method_29_code 32 = .ok (.invokevirtual 239, 3) := by decide +kernel
theorem dAA_35 : decode jdk_68_method_29_code 35 = .ok (.aload_n 0, 1) := by decide +kernel
theorem dAA_36 : decode jdk_68_method_29_code 36 = .ok (.areturn, 1) := by decide +kernel
set_option maxRecDepth 65536 in
set_option maxHeartbeats 40000000 in
theorem rmAA {l : Launch} {Z : State} {a0 : Array Value} {n0 : Nat} (X : Ctx Z a0) {x tb b : Addr} {kc : ClassId} {vs : List Value} {dv : Value} (na : n0 ≤ x) {kb : ClassId} {bs : List Value} {db : Value} {h : Heap} (hO : Old Z n0 h) (Ex : Exa Z h x "java/lang/StringBuilder") (Fv : Fld Z h x "java/lang/AbstractStringBuilder" "value" "[B" (.ref tb)) (Fk : Fld Z h x "java/lang/AbstractStringBuilder" "coder" "B" (.int (0 : Int32))) (Fs : Fld Z h x "java/lang/AbstractStringBuilder" "count" "I" (.int (0 : Int32))) (Vc : Arv Z h b kc .char (0 : Int32) vs dv) (Vb : Arv Z h tb kb .byte (16 : Int32) bs db) :
    Ctr l Z EL1 n0 (⟨"java/lang/AbstractStringBuilder", "append", "([CII)Ljava/lang/AbstractStringBuilder;"⟩ : MethodName) jdk_68_method_29_code 5 (some (.object "java/lang/AbstractStringBuilder")) ({ frames := 2, cells := 0, slots := 0, locals := 32 } : Room) #[(.ref x), (.ref b), (.int (0 : Int32)), (.int (0 : Int32))] h [] (fun v h' => v = some (.ref x) ∧ Keep h h' [x] ∧ Exa Z h' x "java/lang/StringBuilder" ∧ Fld Z h' x "java/lang/AbstractStringBuilder" "value" "[B" (.ref tb) ∧ Fld Z h' x "java/lang/AbstractStringBuilder" "coder" "B" (.int (0 : Int32)) ∧ Fld Z h' x "java/lang/AbstractStringBuilder" "count" "I" (.int (0 : Int32))) := by
  have hw := X.hw
  obtain ⟨z1, hz1, hz2⟩ := X.2.2.1
  refine Ctr.intro (a0 := a0) (plainFor_of_name pn0) hO X.ew ?_
  intro p e s m below meth c T0 V0 S0 hby hml hret hnm hsf
  rw [ef7]
  obtain ⟨fm, hfm, rfm⟩ := X.fm
  rcases ref_cases rfm with rfl | ⟨fb, rfl⟩
  · skip
    refine s_iloadN S0 (hb hby dAA_0) rfl (pc' := 1) rfl ?_
    refine s_iloadN S0 (hb hby dAA_1) rfl (pc' := 2) rfl ?_
    refine s_iadd S0 (hb hby dAA_2) (z := (0 : Int32)) rfl (pc' := 3) rfl ?_
    refine s_istore S0 (hb hby dAA_3) (L' := #[.val (.ref x), .val (.ref b), .val (.int (0 : Int32)), .val (.int (0 : Int32)), .val (.int (0 : Int32))]) rfl (pc' := 5) rfl ?_
    refine s_iloadN S0 (hb hby dAA_5) rfl (pc' := 6) rfl ?_
    refine s_iload S0 (hb hby dAA_6) rfl (pc' := 8) rfl ?_
    refine s_aloadN S0 (hb hby dAA_8) rfl rfl (pc' := 9) rfl ?_
    refine g_len S0 Vc (hb hby dAA_9) ?_
    show Go p e below _ (T0.setTop (mkF m 10 #[.val (.ref x), .val (.ref b), .val (.int (0 : Int32)), .val (.int (0 : Int32)), .val (.int (0 : Int32))] [(.int (0 : Int32)), (.int (0 : Int32)), (.int (0 : Int32))]))
    refine g_getS S0 (w61 hw) Via.refl (hfm.ext S0.old.2) (hb hby dAA_10) ?_
    intro T35 ST35
    show Go p e below _ (T35.setTop (mkF m 13 #[.val (.ref x), .val (.ref b), .val (.int (0 : Int32)), .val (.int (0 : Int32)), .val (.int (0 : Int32))] [.null, (.int (0 : Int32)), (.int (0 : Int32)), (.int (0 : Int32))]))
    show Go p e below _ (T35.setTop (mkF m 13 #[.val (.ref x), .val (.ref b), .val (.int (0 : Int32)), .val (.int (0 : Int32)), .val (.int (0 : Int32))] [.null, (.int (0 : Int32)), (.int (0 : Int32)), (.int (0 : Int32))]))
    refine g_static ST35 (rmCF000n X ST35.old) (fun _ q => nomatch q) (w64 hw) (w65 hw) (w62 hw) (w66 hw) (by decide) (hb hby dAA_13) (by rw [hml]; rfl) [(.int (0 : Int32)), (.int (0 : Int32)), (.int (0 : Int32)), .null] (lenOf pd3 rfl) rfl rfl (Nat.le_of_ble_eq_true rfl) (Nat.le_of_ble_eq_true rfl) (Nat.le_of_ble_eq_true rfl) (Nat.le_of_ble_eq_true rfl) ?_
    intro v36 T36 V36 h36 S36 C36 q36
    obtain ⟨rfl, rfl⟩ := q36
    show Go p e below _ (T36.setTop (mkF m 16 #[.val (.ref x), .val (.ref b), .val (.int (0 : Int32)), .val (.int (0 : Int32)), .val (.int (0 : Int32))] [(.int (0 : Int32))]))
    refine s_pop S36 (hb hby dAA_16) rfl (pc' := 17) rfl ?_
    refine s_aloadN S36 (hb hby dAA_17) rfl rfl (pc' := 18) rfl ?_
    refine s_aloadN S36 (hb hby dAA_18) rfl rfl (pc' := 19) rfl ?_
    refine g_getF S36 (w67 hw) Via.refl Fs (hb hby dAA_19) ?_
    intro T37 ST37
    show Go p e below _ (T37.setTop (mkF m 22 #[.val (.ref x), .val (.ref b), .val (.int (0 : Int32)), .val (.int (0 : Int32)), .val (.int (0 : Int32))] [(.int (0 : Int32)), (.ref x)]))
    refine s_iloadN ST37 (hb hby dAA_22) rfl (pc' := 23) rfl ?_
    refine s_iadd ST37 (hb hby dAA_23) (z := (0 : Int32)) rfl (pc' := 24) rfl ?_
    show Go p e below _ (T37.setTop (mkF m 24 #[.val (.ref x), .val (.ref b), .val (.int (0 : Int32)), .val (.int (0 : Int32)), .val (.int (0 : Int32))] [(.int (0 : Int32)), (.ref x)]))
    refine g_private ST37 (rmEC0 X ST37.old Ex Fv Fk Fs Vb) (fun _ q => nomatch q) (w69 hw) (ni_sel (w72 hw) rfl) (w71 hw) (w70 hw) (w20 hw) (w73 hw) (by decide) (hb hby dAA_24) (by rw [hml]; rfl) x Ex [(.int (0 : Int32))] (lenOf pd0 rfl) rfl rfl (Nat.le_of_ble_eq_true rfl) (Nat.le_of_ble_eq_true rfl) (Nat.le_of_ble_eq_true rfl) (Nat.le_of_ble_eq_true rfl) ?_
    intro v38 T38 V38 h38 S38 C38 q38
    obtain ⟨rfl, rfl⟩ := q38
    show Go p e below _ (T38.setTop (mkF m 27 #[.val (.ref x), .val (.ref b), .val (.int (0 : Int32)), .val (.int (0 : Int32)), .val (.int (0 : Int32))] []))
    refine s_aloadN S38 (hb hby dAA_27) rfl rfl (pc' := 28) rfl ?_
    refine s_aloadN S38 (hb hby dAA_28) rfl rfl (pc' := 29) rfl ?_
    refine s_iloadN S38 (hb hby dAA_29) rfl (pc' := 30) rfl ?_
    refine s_iload S38 (hb hby dAA_30) rfl (pc' := 32) rfl ?_
    show Go p e below _ (T38.setTop (mkF m 32 #[.val (.ref x), .val (.ref b), .val (.int (0 : Int32)), .val (.int (0 : Int32)), .val (.int (0 : Int32))] [(.int (0 : Int32)), (.int (0 : Int32)), (.ref b), (.ref x)]))
    refine g_private S38 (rmAP X na S38.old Ex Fv Fk Fs Vc) (fun _ q => nomatch q) (w74 hw) (ni_sel (w72 hw) rfl) (w76 hw) (w75 hw) (w20 hw) (w78 hw) (by decide) (hb hby dAA_32) (by rw [hml]; rfl) x Ex [(.ref b), (.int (0 : Int32)), (.int (0 : Int32))] (lenOf pd4 rfl) rfl rfl (Nat.le_of_ble_eq_true rfl) (Nat.le_of_ble_eq_true rfl) (Nat.le_of_ble_eq_true rfl) (Nat.le_of_ble_eq_true rfl) ?_
    intro v39 T39 V39 h39 S39 C39 q39
    obtain ⟨rfl, K1, E1, F1, F2, F3⟩ := q39
    show Go p e below _ (T39.setTop (mkF m 35 #[.val (.ref x), .val (.ref b), .val (.int (0 : Int32)), .val (.int (0 : Int32)), .val (.int (0 : Int32))] []))
    refine s_aloadN S39 (hb hby dAA_35) rfl rfl (pc' := 36) rfl ?_
    exact g_aret S39 (hb hby dAA_36) hret rfl rfl rfl ⟨rfl, K1, E1, F1, F2, F3⟩
  · skip
    refine s_iloadN S0 (hb hby dAA_0) rfl (pc' := 1) rfl ?_
    refine s_iloadN S0 (hb hby dAA_1) rfl (pc' := 2) rfl ?_
    refine s_iadd S0 (hb hby dAA_2) (z := (0 : Int32)) rfl (pc' := 3) rfl ?_
    refine s_istore S0 (hb hby dAA_3) (L' := #[.val (.ref x), .val (.ref b), .val (.int (0 : Int32)), .val (.int (0 : Int32)), .val (.int (0 : Int32))]) rfl (pc' := 5) rfl ?_
    refine s_iloadN S0 (hb hby dAA_5) rfl (pc' := 6) rfl ?_
    refine s_iload S0 (hb hby dAA_6) rfl (pc' := 8) rfl ?_
    refine s_aloadN S0 (hb hby dAA_8) rfl rfl (pc' := 9) rfl ?_
    refine g_len S0 Vc (hb hby dAA_9) ?_
    show Go p e below _ (T0.setTop (mkF m 10 #[.val (.ref x), .val (.ref b), .val (.int (0 : Int32)), .val (.int (0 : Int32)), .val (.int (0 : Int32))] [(.int (0 : Int32)), (.int (0 : Int32)), (.int (0 : Int32))]))
    refine g_getS S0 (w61 hw) Via.refl (hfm.ext S0.old.2) (hb hby dAA_10) ?_
    intro T40 ST40
    show Go p e below _ (T40.setTop (mkF m 13 #[.val (.ref x), .val (.ref b), .val (.int (0 : Int32)), .val (.int (0 : Int32)), .val (.int (0 : Int32))] [(.ref fb), (.int (0 : Int32)), (.int (0 : Int32)), (.int (0 : Int32))]))
    show Go p e below _ (T40.setTop (mkF m 13 #[.val (.ref x), .val (.ref b), .val (.int (0 : Int32)), .val (.int (0 : Int32)), .val (.int (0 : Int32))] [(.ref fb), (.int (0 : Int32)), (.int (0 : Int32)), (.int (0 : Int32))]))
    refine g_static ST40 (rmCF000r X fb ST40.old) (fun _ q => nomatch q) (w64 hw) (w65 hw) (w62 hw) (w66 hw) (by decide) (hb hby dAA_13) (by rw [hml]; rfl) [(.int (0 : Int32)), (.int (0 : Int32)), (.int (0 : Int32)), (.ref fb)] (lenOf pd3 rfl) rfl rfl (Nat.le_of_ble_eq_true rfl) (Nat.le_of_ble_eq_true rfl) (Nat.le_of_ble_eq_true rfl) (Nat.le_of_ble_eq_true rfl) ?_
    intro v41 T41 V41 h41 S41 C41 q41
    obtain ⟨rfl, rfl⟩ := q41
    show Go p e below _ (T41.setTop (mkF m 16 #[.val (.ref x), .val (.ref b), .val (.int (0 : Int32)), .val (.int (0 : Int32)), .val (.int (0 : Int32))] [(.int (0 : Int32))]))
    refine s_pop S41 (hb hby dAA_16) rfl (pc' := 17) rfl ?_
    refine s_aloadN S41 (hb hby dAA_17) rfl rfl (pc' := 18) rfl ?_
    refine s_aloadN S41 (hb hby dAA_18) rfl rfl (pc' := 19) rfl ?_
    refine g_getF S41 (w67 hw) Via.refl Fs (hb hby dAA_19) ?_
    intro T42 ST42
    show Go p e below _ (T42.setTop (mkF m 22 #[.val (.ref x), .val (.ref b), .val (.int (0 : Int32)), .val (.int (0 : Int32)), .val (.int (0 : Int32))] [(.int (0 : Int32)), (.ref x)]))
    refine s_iloadN ST42 (hb hby dAA_22) rfl (pc' := 23) rfl ?_
    refine s_iadd ST42 (hb hby dAA_23) (z := (0 : Int32)) rfl (pc' := 24) rfl ?_
    show Go p e below _ (T42.setTop (mkF m 24 #[.val (.ref x), .val (.ref b), .val (.int (0 : Int32)), .val (.int (0 : Int32)), .val (.int (0 : Int32))] [(.int (0 : Int32)), (.ref x)]))
    refine g_private ST42 (rmEC0 X ST42.old Ex Fv Fk Fs Vb) (fun _ q => nomatch q) (w69 hw) (ni_sel (w72 hw) rfl) (w71 hw) (w70 hw) (w20 hw) (w73 hw) (by decide) (hb hby dAA_24) (by rw [hml]; rfl) x Ex [(.int (0 : Int32))] (lenOf pd0 rfl) rfl rfl (Nat.le_of_ble_eq_true rfl) (Nat.le_of_ble_eq_true rfl) (Nat.le_of_ble_eq_true rfl) (Nat.le_of_ble_eq_true rfl) ?_
    intro v43 T43 V43 h43 S43 C43 q43
    obtain ⟨rfl, rfl⟩ := q43
    show Go p e below _ (T43.setTop (mkF m 27 #[.val (.ref x), .val (.ref b), .val (.int (0 : Int32)), .val (.int (0 : Int32)), .val (.int (0 : Int32))] []))
    refine s_aloadN S43 (hb hby dAA_27) rfl rfl (pc' := 28) rfl ?_
    refine s_aloadN S43 (hb hby dAA_28) rfl rfl (pc' := 29) rfl ?_
    refine s_iloadN S43 (hb hby dAA_29) rfl (pc' := 30) rfl ?_
    refine s_iload S43 (hb hby dAA_30) rfl (pc' := 32) rfl ?_
    show Go p e below _ (T43.setTop (mkF m 32 #[.val (.ref x), .val (.ref b), .val (.int (0 : Int32)), .val (.int (0 : Int32)), .val (.int (0 : Int32))] [(.int (0 : Int32)), (.int (0 : Int32)), (.ref b), (.ref x)]))
    refine g_private S43 (rmAP X na S43.old Ex Fv Fk Fs Vc) (fun _ q => nomatch q) (w74 hw) (ni_sel (w72 hw) rfl) (w76 hw) (w75 hw) (w20 hw) (w78 hw) (by decide) (hb hby dAA_32) (by rw [hml]; rfl) x Ex [(.ref b), (.int (0 : Int32)), (.int (0 : Int32))] (lenOf pd4 rfl) rfl rfl (Nat.le_of_ble_eq_true rfl) (Nat.le_of_ble_eq_true rfl) (Nat.le_of_ble_eq_true rfl) (Nat.le_of_ble_eq_true rfl) ?_
    intro v44 T44 V44 h44 S44 C44 q44
    obtain ⟨rfl, K1, E1, F1, F2, F3⟩ := q44
    show Go p e below _ (T44.setTop (mkF m 35 #[.val (.ref x), .val (.ref b), .val (.int (0 : Int32)), .val (.int (0 : Int32)), .val (.int (0 : Int32))] []))
    refine s_aloadN S44 (hb hby dAA_35) rfl rfl (pc' := 36) rfl ?_
    exact g_aret S44 (hb hby dAA_36) hret rfl rfl rfl ⟨rfl, K1, E1, F1, F2, F3⟩
theorem dSA_0 : decode jdk_67_method_12_code 0 = .ok (.aload_n 0, 1) := by decide +kernel
theorem dSA_1 : decode jdk_67_method_12_code 1 = .ok (.aload_n 1, 1) := by decide +kernel
theorem dSA_2 : decode jdk_67_method_12_code 2 = .ok (.iload_n 2, 1) := by decide +kernel
theorem dSA_3 : decode jdk_67_method_12_code 3 = .ok (.iload_n 3, 1) := by decide +kernel
theorem dSA_4 : decode jdk_67_method_12_code 4 = .ok (.invokespecial 44, 3) := by decide +kernel
theorem dSA_7 : decode jdk_67_method_12_code 7 = .ok (.pop, 1) := by decide +kernel
theorem dSA_8 : decode jdk_67_method_12_code 8 = .ok (.aload_n 0, 1) := by decide +kernel
theorem dSA_9 : decode jdk_67_method_12_code 9 = .ok (.areturn, 1) := by decide +kernel
set_option maxRecDepth 65536 in
set_option maxHeartbeats 40000000 in
theorem rmSA {l : Launch} {Z : State} {a0 : Array Value} {n0 : Nat} (X : Ctx Z a0) {x tb b : Addr} {kc : ClassId} {vs : List Value} {dv : Value} (na : n0 ≤ x) {kb : ClassId} {bs : List Value} {db : Value} {h : Heap} (hO : Old Z n0 h) (Ex : Exa Z h x "java/lang/StringBuilder") (Fv : Fld Z h x "java/lang/AbstractStringBuilder" "value" "[B" (.ref tb)) (Fk : Fld Z h x "java/lang/AbstractStringBuilder" "coder" "B" (.int (0 : Int32))) (Fs : Fld Z h x "java/lang/AbstractStringBuilder" "count" "I" (.int (0 : Int32))) (Vc : Arv Z h b kc .char (0 : Int32) vs dv) (Vb : Arv Z h tb kb .byte (16 : Int32) bs db) :
    Ctr l Z EL1 n0 (⟨"java/lang/StringBuilder", "append", "([CII)Ljava/lang/StringBuilder;"⟩ : MethodName) jdk_67_method_12_code 4 (some (.object "java/lang/StringBuilder")) ({ frames := 3, cells := 0, slots := 0, locals := 48 } : Room) #[(.ref x), (.ref b), (.int (0 : Int32)), (.int (0 : Int32))] h [] (fun v h' => v = some (.ref x) ∧ Keep h h' [x] ∧ Exa Z h' x "java/lang/StringBuilder" ∧ Fld Z h' x "java/lang/AbstractStringBuilder" "value" "[B" (.ref tb) ∧ Fld Z h' x "java/lang/AbstractStringBuilder" "coder" "B" (.int (0 : Int32)) ∧ Fld Z h' x "java/lang/AbstractStringBuilder" "count" "I" (.int (0 : Int32))) := by
  have hw := X.hw
  obtain ⟨z1, hz1, hz2⟩ := X.2.2.1
  refine Ctr.intro (a0 := a0) (plainFor_of_name pn1) hO X.ew ?_
  intro p e s m below meth c T0 V0 S0 hby hml hret hnm hsf
  rw [ef8]
  refine s_aloadN S0 (hb hby dSA_0) rfl rfl (pc' := 1) rfl ?_
  refine s_aloadN S0 (hb hby dSA_1) rfl rfl (pc' := 2) rfl ?_
  refine s_iloadN S0 (hb hby dSA_2) rfl (pc' := 3) rfl ?_
  refine s_iloadN S0 (hb hby dSA_3) rfl (pc' := 4) rfl ?_
  show Go p e below _ (T0.setTop (mkF m 4 #[.val (.ref x), .val (.ref b), .val (.int (0 : Int32)), .val (.int (0 : Int32))] [(.int (0 : Int32)), (.int (0 : Int32)), (.ref b), (.ref x)]))
  refine g_super S0 (rmAA X na S0.old Ex Fv Fk Fs Vc Vb) (fun _ q => nomatch q) (by decide) (w56 hw) (ni_sel (w72 hw) rfl) (w57 hw) (w58 hw) (w20 hw) (w60 hw) (by decide) (hb hby dSA_4) (by rw [hml]; rfl) x Ex [(.ref b), (.int (0 : Int32)), (.int (0 : Int32))] (lenOf pd5 rfl) rfl rfl (Nat.le_of_ble_eq_true rfl) (Nat.le_of_ble_eq_true rfl) (Nat.le_of_ble_eq_true rfl) (Nat.le_of_ble_eq_true rfl) ?_
  intro v45 T45 V45 h45 S45 C45 q45
  obtain ⟨rfl, K1, E1, F1, F2, F3⟩ := q45
  show Go p e below _ (T45.setTop (mkF m 7 #[.val (.ref x), .val (.ref b), .val (.int (0 : Int32)), .val (.int (0 : Int32))] [(.ref x)]))
  refine s_pop S45 (hb hby dSA_7) rfl (pc' := 8) rfl ?_
  refine s_aloadN S45 (hb hby dSA_8) rfl rfl (pc' := 9) rfl ?_
  exact g_aret S45 (hb hby dSA_9) hret rfl rfl rfl ⟨rfl, K1, E1, F1, F2, F3⟩
theorem dIN_0 : decode prog_3_method_1_code 0 = .ok (.aload_n 0, 1) := by decide +kernel
theorem dIN_1 : decode prog_3_method_1_code 1 = .ok (.invokespecial 1, 3) := by decide +kernel
theorem dIN_4 : decode prog_3_method_1_code 4 = .ok (.aload_n 0, 1) := by decide +kernel
theorem dIN_5 : decode prog_3_method_1_code 5 = .ok (.new 7, 3) := by decide +kernel
theorem dIN_8 : decode prog_3_method_1_code 8 = .ok (.dup, 1) := by decide +kernel
theorem dIN_9 : decode prog_3_method_1_code 9 = .ok (.invokespecial 9, 3) := by decide +kernel
theorem dIN_12 : decode prog_3_method_1_code 12 = .ok (.putfield 10, 3) := by decide +kernel
theorem dIN_15 : decode prog_3_method_1_code 15 = .ok (.aload_n 0, 1) := by decide +kernel
theorem dIN_16 : decode prog_3_method_1_code 16 = .ok (.iconst 0, 1) := by decide +kernel
theorem dIN_17 : decode prog_3_method_1_code 17 = .ok (.newarray .int, 2) := by decide +kernel
theorem dIN_19 : decode prog_3_method_1_code 19 = .ok (.putfield 16, 3) := by decide +kernel
theorem dIN_22 : decode prog_3_method_1_code 22 = .ok (.return_, 1) := by decide +kernel
set_option maxRecDepth 65536 in
set_option maxHeartbeats 40000000 in
theorem rmIN {l : Launch} {Z : State} {a0 : Array Value} {n0 : Nat} (X : Ctx Z a0) {x : Addr} (na : n0 ≤ x) {h : Heap} (hO : Old Z n0 h) (Ex : Exa Z h x "com/example/nodewarden/nodewarden/core/Asides") (Ft : Fld Z h x "com/example/nodewarden/nodewarden/core/Asides" "text" "Ljava/lang/StringBuilder;" .null) (Fb : Fld Z h x "com/example/nodewarden/nodewarden/core/Asides" "table" "[I" .null) (Fn : Fld Z h x "com/example/nodewarden/nodewarden/core/Asides" "count" "I" (.int (0 : Int32))) :
    CtrV l Z EL1 n0 (⟨"com/example/nodewarden/nodewarden/core/Asides", "<init>", "()V"⟩ : MethodName) prog_3_method_1_code 1 none ({ frames := 3, cells := 3, slots := 20, locals := 39 } : Room) #[(.ref x)] h [] (fun v h' vm => v = none ∧ ∃ sb tb t kb kt, Keep h h' [x] ∧ AS Z h' n0 x sb tb t kb kt (0 : Int32) (0 : Int32) [] (16 : Int32) (0 : Int32) [] ∧ Safe Z EL1 vm h' tb) := by
  have hw := X.hw
  obtain ⟨z1, hz1, hz2⟩ := X.2.2.1
  refine CtrV.intro (a0 := a0) (plainFor_of_name pn3) hO X.ew ?_
  intro p e s m below meth c T0 V0 S0 hby hml hret hnm hsf
  rw [ef2]
  refine s_aloadN S0 (hb hby dIN_0) rfl rfl (pc' := 1) rfl ?_
  refine g_initO S0 (w7 hw) (w8 hw) (w9 hw) (by rw [hml]; rfl) (hb hby dIN_1) (Nat.le_of_ble_eq_true rfl) (Nat.le_of_ble_eq_true rfl) ?_
  intro T46 ST46
  show Go p e below _ (T46.setTop (mkF m 4 #[.val (.ref x)] []))
  refine s_aloadN ST46 (hb hby dIN_4) rfl rfl (pc' := 5) rfl ?_
  refine g_new ST46 (w10 hw) (w11 hw) (w12 hw) (hb hby dIN_5) (Nat.le_of_ble_eq_true rfl) (Nat.le_of_ble_eq_true rfl) ?_
  intro T47 h47 b47 S47 E47 fr47 lt47 na47 sf47 A47 D47
  have F48 : Fld Z h47 b47 "java/lang/AbstractStringBuilder" "value" "[B" .null := D47 (Or.inl (w27 hw)) (ty := (.array .byte)) (by decide)
  have F49 : Fld Z h47 b47 "java/lang/AbstractStringBuilder" "coder" "B" (.int (0 : Int32)) := D47 (Or.inl (w29 hw)) (ty := .byte) (by decide)
  have F50 : Fld Z h47 b47 "java/lang/AbstractStringBuilder" "count" "I" (.int (0 : Int32)) := D47 (Or.inl (w68 hw)) (ty := .int) (by decide)
  show Go p e below _ (T47.setTop (mkF m 8 #[.val (.ref x)] [(.ref b47), (.ref x)]))
  refine s_dup S47 (hb hby dIN_8) rfl (pc' := 9) rfl ?_
  show Go p e below _ (T47.setTop (mkF m 9 #[.val (.ref x)] [(.ref b47), (.ref b47), (.ref x)]))
  refine g_special S47 (rmSI X na47 S47.old A47 F48 F49 F50) (fun _ q => nomatch q) rfl (w13 hw) (w14 hw) (w12 hw) (w15 hw) (by decide) (hb hby dIN_9) (by rw [hml]; rfl) b47 [] (lenOf pd6 rfl) rfl rfl (Nat.le_of_ble_eq_true rfl) (Nat.le_of_ble_eq_true rfl) (Nat.le_of_ble_eq_true rfl) (Nat.le_of_ble_eq_true rfl) ?_
  intro v51 T51 V51 h51 S51 C51 q51
  obtain ⟨rfl, tb, kb, K1, ntb, frb, F1, sf1_⟩ := q51
  have nxs : x ≠ b47 := (Nat.ne_of_lt (Nat.lt_of_lt_of_le (Nat.lt_of_lt_of_le Ex.lt (Nat.le_refl _)) fr47))
  have X52 : Ext h h51 := ext_keep1 E47 K1 fr47
  have Ex53 := Ex.ext X52
  have nxb : x ≠ tb := Exa.neArv Ex53 F1.2.2.2.2 (w2 hw)
  show Go p e below _ (T51.setTop (mkF m 12 #[.val (.ref x)] [(.ref b47), (.ref x)]))
  show Go p e below _ (T51.setTop (mkF m 12 #[.val (.ref x)] [(.ref b47), (.ref x)]))
  have Ft55 := Ft.ext X52
  have Fb56 := Fb.ext X52
  have Fn57 := Fn.ext X52
  refine g_putF S51 (w30 hw) Via.refl Ft55 Ex53 (Or.inr ⟨(w31 hw), rfl, hnm⟩) (w2 hw) (ty := (.object "java/lang/StringBuilder")) (v' := (.ref b47)) (by decide) rfl rfl na (Safe.exa S51.warm.alike Ex53 (by decide) (by decide)) (hb hby dIN_12) ?_
  intro T54 h54 S54 K54 W54 A54 F54 sg54
  have sf58 := Safe.keep K54 (sfS (Safe.exa S51.warm.alike Ex53 (by decide) (by decide)) sf0) S51.chv sf1_
  have F59 := Fb56.other W54 (Or.inr (slot_ne (Or.inl (w34 hw)) (Or.inr (w31 hw)) (by decide) (t := (.array .int)) (t' := (.object "java/lang/StringBuilder")) (by decide) (by decide)))
  have F60 := Fn57.other W54 (Or.inr (slot_ne (Or.inl (w41 hw)) (Or.inr (w31 hw)) (by decide) (t := .int) (t' := (.object "java/lang/StringBuilder")) (by decide) (by decide)))
  show Go p e below _ (T54.setTop (mkF m 15 #[.val (.ref x)] []))
  refine s_aloadN S54 (hb hby dIN_15) rfl rfl (pc' := 16) rfl ?_
  refine s_iconst S54 (hb hby dIN_16) (v := (0 : Int32)) rfl (pc' := 17) rfl ?_
  refine g_newarr (aty := .int) S54 (w32 hw) (hb hby dIN_17) (by decide) (cap := 0) (by decide) (by decide) (Nat.le_of_ble_eq_true rfl) (Nat.le_of_ble_eq_true rfl) ?_
  intro T61 h61 b61 kc61 S61 E61 fr61 lt61 na61 sf61 A61
  have sf62 := Safe.ext E61 S54.chv sf58
  have V61 : Arv Z h61 b61 kc61 .int (0 : Int32) [] (.int (0 : Int32)) := A61 0
  show Go p e below _ (T61.setTop (mkF m 19 #[.val (.ref x)] [(.ref b61), (.ref x)]))
  show Go p e below _ (T61.setTop (mkF m 19 #[.val (.ref x)] [(.ref b61), (.ref x)]))
  have F64 := F59.ext E61
  have A65 := A54.ext E61
  have F66 := F54.ext E61
  have F67 := F60.ext E61
  refine g_putF S61 (w33 hw) Via.refl F64 A65 (Or.inl (w34 hw)) (w2 hw) (ty := (.array .int)) (v' := (.ref b61)) (by decide) rfl rfl na (Safe.exa S61.warm.alike A65 (by decide) (by decide)) (hb hby dIN_19) ?_
  intro T63 h63 S63 K63 W63 A63 F63 sg63
  have sf68 := Safe.keep K63 (sfS (Safe.exa S61.warm.alike A65 (by decide) (by decide)) sf0) S61.chv sf62
  have F69 := F66.other W63 (Or.inr (slot_ne (Or.inr (w31 hw)) (Or.inl (w34 hw)) (by decide) (t := (.object "java/lang/StringBuilder")) (t' := (.array .int)) (by decide) (by decide)))
  have F70 := F67.other W63 (Or.inr (slot_ne (Or.inl (w41 hw)) (Or.inl (w34 hw)) (by decide) (t := .int) (t' := (.array .int)) (by decide) (by decide)))
  show Go p e below _ (T63.setTop (mkF m 22 #[.val (.ref x)] []))
  show Go p e below _ (T63.setTop (mkF m 22 #[.val (.ref x)] []))
  have KA71 := ((Keep.refl h [x]).ext E47)
  have KA72 : Keep h h63 [x] := ((((KA71.trans K1 (allS (Or.inr fr47) all0)).trans K54 (fun y hy => Or.inl hy)).ext E61).trans K63 (fun y hy => Or.inl hy))
  have F73 := V61.keep K63 (ninS (Ne.symm (Nat.ne_of_lt (Nat.lt_of_lt_of_le (Nat.lt_of_lt_of_le Ex.lt (Nat.le_trans (Nat.le_trans (Nat.le_trans (Nat.le_refl _) E47.1) K1.1) K54.1)) fr61))) nin0)
  have F74 := F1.1.keep K54
  have F75 := F74.ext E61
  have F76 := F75.keep K63
  have F77 := F1.2.1.keep K54 (ninS (Ne.symm nxs) nin0)
  have F78 := F77.ext E61
  have F79 := F78.keep K63 (ninS (Ne.symm nxs) nin0)
  have F80 := F1.2.2.1.keep K54 (ninS (Ne.symm nxs) nin0)
  have F81 := F80.ext E61
  have F82 := F81.keep K63 (ninS (Ne.symm nxs) nin0)
  have F83 := F1.2.2.2.1.keep K54 (ninS (Ne.symm nxs) nin0)
  have F84 := F83.ext E61
  have F85 := F84.keep K63 (ninS (Ne.symm nxs) nin0)
  have F86 := F1.2.2.2.2.keep K54 (ninS (Ne.symm nxb) nin0)
  have F87 := F86.ext E61
  have F88 := F87.keep K63 (ninS (Ne.symm nxb) nin0)
  exact g_retV S63 (hb hby dIN_22) hret (fun sfx => ⟨rfl, b47, tb, b61, kb, _, KA72, ⟨A63, F69, F63, F70, F73, ⟨F76, F79, F82, F85, F88⟩, na, na47, ntb, na61⟩, sfx _ F88.lt sf68⟩)
theorem dCI_0 : decode jdk_65_method_123_code 0 = .ok (.iload_n 1, 1) := by decide +kernel
theorem dCI_1 : decode jdk_65_method_123_code 1 = .ok (.aload_n 0, 1) := by decide +kernel
theorem dCI_2 : decode jdk_65_method_123_code 2 = .ok (.arraylength, 1) := by decide +kernel
theorem dCI_3 : decode jdk_65_method_123_code 3 = .ok (.if_icmp .ne 11, 3) := by decide +kernel
theorem dCI_14 : decode jdk_65_method_123_code 14 = .ok (.iload_n 1, 1) := by decide +kernel
theorem dCI_15 : decode jdk_65_method_123_code 15 = .ok (.newarray .int, 2) := by decide +kernel
theorem dCI_17 : decode jdk_65_method_123_code 17 = .ok (.astore_n 2, 1) := by decide +kernel
theorem dCI_18 : decode jdk_65_method_123_code 18 = .ok (.aload_n 0, 1) := by decide +kernel
theorem dCI_19 : decode jdk_65_method_123_code 19 = .ok (.iconst 0, 1) := by decide +kernel
theorem dCI_20 : decode jdk_65_method_123_code 20 = .ok (.aload_n 2, 1) := by decide +kernel
theorem dCI_21 : decode jdk_65_method_123_code 21 = .ok (.iconst 0, 1) := by decide +kernel
theorem dCI_22 : decode jdk_65_method_123_code 22 = .ok (.aload_n 0, 1) := by decide +kernel
theorem dCI_23 : decode jdk_65_method_123_code 23 = .ok (.arraylength, 1) := by decide +kernel
theorem dCI_24 : decode jdk_65_method_123_code 24 = .ok (.iload_n 1, 1) := by decide +kernel
theorem dCI_25 : decode jdk_65_method_123_code 25 = .ok (.invokestatic 304, 3) := by decide +kernel
theorem dCI_28 : decode jdk_65_method_123_code 28 = .ok (.invokestatic 150, 3) := by decide +kernel
theorem dCI_31 : decode jdk_65_method_123_code 31 = .ok (.aload_n 2, 1) := by decide +kernel
theorem dCI_32 : decode jdk_65_method_123_code 32 = .ok (.areturn, 1) := by decide +kernel
set_option maxRecDepth 65536 in
set_option maxHeartbeats 40000000 in
theorem rmCI {l : Launch} {Z : State} {a0 : Array Value} {n0 : Nat} (X : Ctx Z a0) {t : Addr} {kt : ClassId} {vs : List Value} {h : Heap} (hO : Old Z n0 h) (Vt : Arv Z h t kt .int (0 : Int32) vs (.int (0 : Int32))) :
    Ctr l Z EL1 n0 (⟨"java/util/Arrays", "copyOf", "([II)[I"⟩ : MethodName) jdk_65_method_123_code 3 (some (.array .int)) ({ frames := 1, cells := 1, slots := 80, locals := 18 } : Room) #[(.ref t), (.int (80 : Int32))] h [] (fun v h' => ∃ u ku, v = some (.ref u) ∧ Ext h h' ∧ h.size ≤ u ∧ n0 ≤ u ∧ Arv Z h' u ku .int (80 : Int32) [(.int (0 : Int32)), (.int (0 : Int32)), (.int (0 : Int32)), (.int (0 : Int32)), (.int (0 : Int32)), (.int (0 : Int32)), (.int (0 : Int32)), (.int (0 : Int32)), (.int (0 : Int32)), (.int (0 : Int32)), (.int (0 : Int32)), (.int (0 : Int32)), (.int (0 : Int32)), (.int (0 : Int32)), (.int (0 : Int32))] (.int (0 : Int32))) := by
  have hw := X.hw
  obtain ⟨z1, hz1, hz2⟩ := X.2.2.1
  refine Ctr.intro (a0 := a0) (plainFor_of_name pn4) hO X.ew ?_
  intro p e s m below meth c T0 V0 S0 hby hml hret hnm hsf
  rw [ef5]
  refine s_iloadN S0 (hb hby dCI_0) rfl (pc' := 1) rfl ?_
  refine s_aloadN S0 (hb hby dCI_1) rfl rfl (pc' := 2) rfl ?_
  refine g_len S0 Vt (hb hby dCI_2) ?_
  show Go p e below _ (T0.setTop (mkF m 3 #[.val (.ref t), .val (.int (80 : Int32)), .unset] [(.int (0 : Int32)), (.int (80 : Int32))]))
  refine s_icmpY S0 (hb hby dCI_3) (by decide) (by decide) (pcT := 14) (by decide) ?_
  refine s_iloadN S0 (hb hby dCI_14) rfl (pc' := 15) rfl ?_
  refine g_newarr (aty := .int) S0 (w32 hw) (hb hby dCI_15) (by decide) (cap := 80) (by decide) (by decide) (Nat.le_of_ble_eq_true rfl) (Nat.le_of_ble_eq_true rfl) ?_
  intro T89 h89 b89 kc89 S89 E89 fr89 lt89 na89 sf89 A89
  have V89 : Arv Z h89 b89 kc89 .int (80 : Int32) [(.int (0 : Int32)), (.int (0 : Int32)), (.int (0 : Int32)), (.int (0 : Int32)), (.int (0 : Int32)), (.int (0 : Int32)), (.int (0 : Int32)), (.int (0 : Int32)), (.int (0 : Int32)), (.int (0 : Int32)), (.int (0 : Int32)), (.int (0 : Int32)), (.int (0 : Int32)), (.int (0 : Int32)), (.int (0 : Int32))] (.int (0 : Int32)) := A89 15
  show Go p e below _ (T89.setTop (mkF m 17 #[.val (.ref t), .val (.int (80 : Int32)), .unset] [(.ref b89)]))
  refine s_astoreN S89 (hb hby dCI_17) rfl (L' := #[.val (.ref t), .val (.int (80 : Int32)), .val (.ref b89)]) rfl (pc' := 18) rfl ?_
  refine s_aloadN S89 (hb hby dCI_18) rfl rfl (pc' := 19) rfl ?_
  refine s_iconst S89 (hb hby dCI_19) (v := (0 : Int32)) rfl (pc' := 20) rfl ?_
  refine s_aloadN S89 (hb hby dCI_20) rfl rfl (pc' := 21) rfl ?_
  refine s_iconst S89 (hb hby dCI_21) (v := (0 : Int32)) rfl (pc' := 22) rfl ?_
  refine s_aloadN S89 (hb hby dCI_22) rfl rfl (pc' := 23) rfl ?_
  have Vt90 := Vt.ext E89
  refine g_len S89 Vt90 (hb hby dCI_23) ?_
  show Go p e below _ (T89.setTop (mkF m 24 #[.val (.ref t), .val (.int (80 : Int32)), .val (.ref b89)] [(.int (0 : Int32)), (.int (0 : Int32)), (.ref b89), (.int (0 : Int32)), (.ref t)]))
  refine s_iloadN S89 (hb hby dCI_24) rfl (pc' := 25) rfl ?_
  show Go p e below _ (T89.setTop (mkF m 25 #[.val (.ref t), .val (.int (80 : Int32)), .val (.ref b89)] [(.int (80 : Int32)), (.int (0 : Int32)), (.int (0 : Int32)), (.ref b89), (.int (0 : Int32)), (.ref t)]))
  refine g_static S89 (rmMN X (z := (0 : Int32)) (by decide) S89.old) (fun _ q => nomatch q) (w93 hw) (w94 hw) (w44 hw) (w95 hw) (by decide) (hb hby dCI_25) (by rw [hml]; rfl) [(.int (0 : Int32)), (.int (80 : Int32))] (lenOf pd7 rfl) rfl rfl (Nat.le_of_ble_eq_true rfl) (Nat.le_of_ble_eq_true rfl) (Nat.le_of_ble_eq_true rfl) (Nat.le_of_ble_eq_true rfl) ?_
  intro v91 T91 V91 h91 S91 C91 q91
  obtain ⟨rfl, rfl⟩ := q91
  show Go p e below _ (T91.setTop (mkF m 28 #[.val (.ref t), .val (.int (80 : Int32)), .val (.ref b89)] [(.int (0 : Int32)), (.int (0 : Int32)), (.ref b89), (.int (0 : Int32)), (.ref t)]))
  show Go p e below _ (T91.setTop (mkF m 28 #[.val (.ref t), .val (.int (80 : Int32)), .val (.ref b89)] [(.int (0 : Int32)), (.int (0 : Int32)), (.ref b89), (.int (0 : Int32)), (.ref t)]))
  refine g_copy S91 (w96 hw) (w99 hw) (w97 hw) (w98 hw) Vt90 V89 rfl (by decide) (by decide) (by decide) (by decide) (by decide) (us := []) rfl (Nat.le_of_ble_eq_true rfl) na89 (Safe.arv S91.warm.alike V89 (by decide)) (hb hby dCI_28) (by rw [hml]; rfl) (Nat.le_of_ble_eq_true rfl) (by decide) ?_
  intro T92 h92 S92 K92 V92 sg92
  have V92 : Arv Z h92 b89 kc89 .int (80 : Int32) [(.int (0 : Int32)), (.int (0 : Int32)), (.int (0 : Int32)), (.int (0 : Int32)), (.int (0 : Int32)), (.int (0 : Int32)), (.int (0 : Int32)), (.int (0 : Int32)), (.int (0 : Int32)), (.int (0 : Int32)), (.int (0 : Int32)), (.int (0 : Int32)), (.int (0 : Int32)), (.int (0 : Int32)), (.int (0 : Int32))] (.int (0 : Int32)) := V92
  show Go p e below _ (T92.setTop (mkF m 31 #[.val (.ref t), .val (.int (80 : Int32)), .val (.ref b89)] []))
  refine s_aloadN S92 (hb hby dCI_31) rfl rfl (pc' := 32) rfl ?_
  show Go p e below _ (T92.setTop (mkF m 32 #[.val (.ref t), .val (.int (80 : Int32)), .val (.ref b89)] [(.ref b89)]))
  have X93 : Ext h h92 := ext_keep1 E89 K92 fr89
  exact g_aret S92 (hb hby dCI_32) hret rfl rfl rfl ⟨b89, _, rfl, X93, fr89, na89, V92⟩
theorem dAD0_0 : decode prog_3_method_13_code 0 = .ok (.aload_n 0, 1) := by decide +kernel
theorem dAD0_1 : decode prog_3_method_13_code 1 = .ok (.getfield 16, 3) := by decide +kernel
theorem dAD0_4 : decode prog_3_method_13_code 4 = .ok (.arraylength, 1) := by decide +kernel
theorem dAD0_5 : decode prog_3_method_13_code 5 = .ok (.aload_n 0, 1) := by decide +kernel
theorem dAD0_6 : decode prog_3_method_13_code 6 = .ok (.getfield 38, 3) := by decide +kernel
theorem dAD0_9 : decode prog_3_method_13_code 9 = .ok (.iconst 1, 1) := by decide +kernel
theorem dAD0_10 : decode prog_3_method_13_code 10 = .ok (.iadd, 1) := by decide +kernel
theorem dAD0_11 : decode prog_3_method_13_code 11 = .ok (.iconst 5, 1) := by decide +kernel
theorem dAD0_12 : decode prog_3_method_13_code 12 = .ok (.imul, 1) := by decide +kernel
theorem dAD0_13 : decode prog_3_method_13_code 13 = .ok (.if_icmp .ge 26, 3) := by decide +kernel
theorem dAD0_16 : decode prog_3_method_13_code 16 = .ok (.aload_n 0, 1) := by decide +kernel
theorem dAD0_17 : decode prog_3_method_13_code 17 = .ok (.aload_n 0, 1) := by decide +kernel
theorem dAD0_18 : decode prog_3_method_13_code 18 = .ok (.getfield 16, 3) := by decide +kernel
theorem dAD0_21 : decode prog_3_method_13_code 21 = .ok (.bipush 80, 2) := by decide +kernel
theorem dAD0_23 : decode prog_3_method_13_code 23 = .ok (.iconst 2, 1) := by decide +kernel
theorem dAD0_24 : decode prog_3_method_13_code 24 = .ok (.aload_n 0, 1) := by decide +kernel
theorem dAD0_25 : decode prog_3_method_13_code 25 = .ok (.getfield 16, 3) := by decide +kernel
theorem dAD0_28 : decode prog_3_method_13_code 28 = .ok (.arraylength, 1) := by decide +kernel
theorem dAD0_29 : decode prog_3_method_13_code 29 = .ok (.imul, 1) := by decide +kernel
theorem dAD0_30 : decode prog_3_method_13_code 30 = .ok (.invokestatic 56, 3) := by decide +kernel
theorem dAD0_33 : decode prog_3_method_13_code 33 = .ok (.invokestatic 42, 3) := by decide +kernel
theorem dAD0_36 : decode prog_3_method_13_code 36 = .ok (.putfield 16, 3) := by decide +kernel
theorem dAD0_39 : decode prog_3_method_13_code 39 = .ok (.aload_n 0, 1) := by decide +kernel
theorem dAD0_40 : decode prog_3_method_13_code 40 = .ok (.getfield 38, 3) := by decide +kernel
theorem dAD0_43 : decode prog_3_method_13_code 43 = .ok (.iconst 5, 1) := by decide +kernel
theorem dAD0_44 : decode prog_3_method_13_code 44 = .ok (.imul, 1) := by decide +kernel
theorem dAD0_45 : decode prog_3_method_13_code 45 = .ok (.istore 5, 2) := by decide +kernel
theorem dAD0_47 : decode prog_3_method_13_code 47 = .ok (.aload_n 0, 1) := by decide +kernel
theorem dAD0_48 : decode prog_3_method_13_code 48 = .ok (.getfield 16, 3) := by decide +kernel
theorem dAD0_51 : decode prog_3_method_13_code 51 = .ok (.iload 5, 2) := by decide +kernel
theorem dAD0_53 : decode prog_3_method_13_code 53 = .ok (.iconst 0, 1) := by decide +kernel
theorem dAD0_54 : decode prog_3_method_13_code 54 = .ok (.iadd, 1) := by decide +kernel
theorem dAD0_55 : decode prog_3_method_13_code 55 = .ok (.iload_n 1, 1) := by decide +kernel
theorem dAD0_56 : decode prog_3_method_13_code 56 = .ok (.iastore, 1) := by decide +kernel
theorem dAD0_57 : decode prog_3_method_13_code 57 = .ok (.aload_n 0, 1) := by decide +kernel
theorem dAD0_58 : decode prog_3_method_13_code 58 = .ok (.getfield 16, 3) := by decide +kernel
theorem dAD0_61 : decode prog_3_method_13_code 61 = .ok (.iload 5, 2) := by decide +kernel
theorem dAD0_63 : decode prog_3_method_13_code 63 = .ok (.iconst 1, 1) := by decide +kernel
theorem dAD0_64 : decode prog_3_method_13_code 64 = .ok (.iadd, 1) := by decide +kernel
theorem dAD0_65 : decode prog_3_method_13_code 65 = .ok (.iload_n 2, 1) := by decide +kernel
theorem dAD0_66 : decode prog_3_method_13_code 66 = .ok (.iastore, 1) := by decide +kernel
theorem dAD0_67 : decode prog_3_method_13_code 67 = .ok (.aload_n 0, 1) := by decide +kernel
theorem dAD0_68 : decode prog_3_method_13_code 68 = .ok (.getfield 16, 3) := by decide +kernel
theorem dAD0_71 : decode prog_3_method_13_code 71 = .ok (.iload 5, 2) := by decide +kernel
theorem dAD0_73 : decode prog_3_method_13_code 73 = .ok (.iconst 2, 1) := by decide +kernel
theorem dAD0_74 : decode prog_3_method_13_code 74 = .ok (.iadd, 1) := by decide +kernel
theorem dAD0_75 : decode prog_3_method_13_code 75 = .ok (.iload_n 3, 1) := by decide +kernel
theorem dAD0_76 : decode prog_3_method_13_code 76 = .ok (.iastore, 1) := by decide +kernel
theorem dAD0_77 : decode prog_3_method_13_code 77 = .ok (.aload_n 0, 1) := by decide +kernel
theorem dAD0_78 : decode prog_3_method_13_code 78 = .ok (.getfield 16, 3) := by decide +kernel
theorem dAD0_81 : decode prog_3_method_13_code 81 = .ok (.iload 5, 2) := by decide +kernel
theorem dAD0_83 : decode prog_3_method_13_code 83 = .ok (.iconst 3, 1) := by decide +kernel
theorem dAD0_84 : decode prog_3_method_13_code 84 = .ok (.iadd, 1) := by decide +kernel
theorem dAD0_85 : decode prog_3_method_13_code 85 = .ok (.iload 4, 2) := by decide +kernel
theorem dAD0_87 : decode prog_3_method_13_code 87 = .ok (.iastore, 1) := by decide +kernel
theorem dAD0_88 : decode prog_3_method_13_code 88 = .ok (.aload_n 0, 1) := by decide +kernel
theorem dAD0_89 : decode prog_3_method_13_code 89 = .ok (.getfield 16, 3) := by decide +kernel
theorem dAD0_92 : decode prog_3_method_13_code 92 = .ok (.iload 5, 2) := by decide +kernel
theorem dAD0_94 : decode prog_3_method_13_code 94 = .ok (.iconst 4, 1) := by decide +kernel
theorem dAD0_95 : decode prog_3_method_13_code 95 = .ok (.iadd, 1) := by decide +kernel
theorem dAD0_96 : decode prog_3_method_13_code 96 = .ok (.aload_n 0, 1) := by decide +kernel
theorem dAD0_97 : decode prog_3_method_13_code 97 = .ok (.getfield 10, 3) := by decide +kernel
theorem dAD0_100 : decode prog_3_method_13_code 100 = .ok (.invokevirtual 31, 3) := by decide +kernel
theorem dAD0_103 : decode prog_3_method_13_code 103 = .ok (.iastore, 1) := by decide +kernel
theorem dAD0_104 : decode prog_3_method_13_code 104 = .ok (.aload_n 0, 1) := by decide +kernel
theorem dAD0_105 : decode prog_3_method_13_code 105 = .ok (.dup, 1) := by decide +kernel
theorem dAD0_106 : decode prog_3_method_13_code 106 = .ok (.getfield 38, 3) := by decide +kernel
theorem dAD0_109 : decode prog_3_method_13_code 109 = .ok (.iconst 1, 1) := by decide +kernel
theorem dAD0_110 : decode prog_3_method_13_code 110 = .ok (.iadd, 1) := by decide +kernel
theorem dAD0_111 : decode prog_3_method_13_code 111 = .ok (.putfield 38, 3) := by decide +kernel
theorem dAD0_114 : decode prog_3_method_13_code 114 = .ok (.return_, 1) := by decide +kernel
set_option maxRecDepth 65536 in
set_option maxHeartbeats 40000000 in
theorem rmAD0 {l : Launch} {Z : State} {a0 : Array Value} {n0 : Nat} (X : Ctx Z a0) {x sb tb t : Addr} {kb kt : ClassId} {bs : List Value} {sc : Int32} (pp qq oo dd : Int32) {h : Heap} (hO : Old Z n0 h) (A : AS Z h n0 x sb tb t kb kt (0 : Int32) (0 : Int32) [] (16 : Int32) sc bs) :
    Ctr l Z EL1 n0 (⟨"com/example/nodewarden/nodewarden/core/Asides", "add", "(IIII)V"⟩ : MethodName) prog_3_method_13_code 6 none ({ frames := 2, cells := 1, slots := 80, locals := 33 } : Room) #[(.ref x), (.int pp), (.int qq), (.int oo), (.int dd)] h [] (fun v h' => v = none ∧ ∃ u ku, Keep h h' [x] ∧ AS Z h' n0 x sb tb u kb ku (1 : Int32) (80 : Int32) [(.int pp), (.int qq), (.int oo), (.int dd), (.int sc), (.int (0 : Int32)), (.int (0 : Int32)), (.int (0 : Int32)), (.int (0 : Int32)), (.int (0 : Int32)), (.int (0 : Int32)), (.int (0 : Int32)), (.int (0 : Int32)), (.int (0 : Int32)), (.int (0 : Int32))] (16 : Int32) sc bs) := by
  have hw := X.hw
  obtain ⟨z1, hz1, hz2⟩ := X.2.2.1
  refine Ctr.intro (a0 := a0) (plainFor_of_name pn3) hO X.ew ?_
  intro p e s m below meth c T0 V0 S0 hby hml hret hnm hsf
  rw [ef9]
  obtain ⟨Ex, Ft, Fb, Fn, Vt, ⟨Es, Fv, Fk, Fs, Vb⟩, nx, ns, nb, nt⟩ := A
  have nXS : x ≠ sb := ne_exa Ex Es (by decide)
  have nXT : x ≠ t := Exa.neArv Ex Vt (w2 hw)
  have nXB : x ≠ tb := Exa.neArv Ex Vb (w2 hw)
  have nST : sb ≠ t := Exa.neArv Es Vt (w11 hw)
  have nSB : sb ≠ tb := Exa.neArv Es Vb (w11 hw)
  have nTB : t ≠ tb := arv_kne Vt Vb (by decide)
  show Go p e below _ (T0.setTop (mkF m 0 #[.val (.ref x), .val (.int pp), .val (.int qq), .val (.int oo), .val (.int dd), .unset] []))
  refine s_aloadN S0 (hb hby dAD0_0) rfl rfl (pc' := 1) rfl ?_
  refine g_getF S0 (w33 hw) Via.refl Fb (hb hby dAD0_1) ?_
  intro T94 ST94
  show Go p e below _ (T94.setTop (mkF m 4 #[.val (.ref x), .val (.int pp), .val (.int qq), .val (.int oo), .val (.int dd), .unset] [(.ref t)]))
  refine g_len ST94 Vt (hb hby dAD0_4) ?_
  show Go p e below _ (T94.setTop (mkF m 5 #[.val (.ref x), .val (.int pp), .val (.int qq), .val (.int oo), .val (.int dd), .unset] [(.int (0 : Int32))]))
  refine s_aloadN ST94 (hb hby dAD0_5) rfl rfl (pc' := 6) rfl ?_
  refine g_getF ST94 (w40 hw) Via.refl Fn (hb hby dAD0_6) ?_
  intro T95 ST95
  show Go p e below _ (T95.setTop (mkF m 9 #[.val (.ref x), .val (.int pp), .val (.int qq), .val (.int oo), .val (.int dd), .unset] [(.int (0 : Int32)), (.int (0 : Int32))]))
  refine s_iconst ST95 (hb hby dAD0_9) (v := (1 : Int32)) rfl (pc' := 10) rfl ?_
  refine s_iadd ST95 (hb hby dAD0_10) (z := (1 : Int32)) rfl (pc' := 11) rfl ?_
  refine s_iconst ST95 (hb hby dAD0_11) (v := (5 : Int32)) rfl (pc' := 12) rfl ?_
  refine s_imul ST95 (hb hby dAD0_12) (z := (5 : Int32)) rfl (pc' := 13) rfl ?_
  refine s_icmpN ST95 (hb hby dAD0_13) (by decide) (pc' := 16) rfl ?_
  refine s_aloadN ST95 (hb hby dAD0_16) rfl rfl (pc' := 17) rfl ?_
  refine s_aloadN ST95 (hb hby dAD0_17) rfl rfl (pc' := 18) rfl ?_
  refine g_getF ST95 (w33 hw) Via.refl Fb (hb hby dAD0_18) ?_
  intro T96 ST96
  show Go p e below _ (T96.setTop (mkF m 21 #[.val (.ref x), .val (.int pp), .val (.int qq), .val (.int oo), .val (.int dd), .unset] [(.ref t), (.ref x)]))
  refine s_bipush ST96 (hb hby dAD0_21) (v := (80 : Int32)) rfl (pc' := 23) rfl ?_
  refine s_iconst ST96 (hb hby dAD0_23) (v := (2 : Int32)) rfl (pc' := 24) rfl ?_
  refine s_aloadN ST96 (hb hby dAD0_24) rfl rfl (pc' := 25) rfl ?_
  refine g_getF ST96 (w33 hw) Via.refl Fb (hb hby dAD0_25) ?_
  intro T97 ST97
  show Go p e below _ (T97.setTop (mkF m 28 #[.val (.ref x), .val (.int pp), .val (.int qq), .val (.int oo), .val (.int dd), .unset] [(.ref t), (.int (2 : Int32)), (.int (80 : Int32)), (.ref t), (.ref x)]))
  refine g_len ST97 Vt (hb hby dAD0_28) ?_
  show Go p e below _ (T97.setTop (mkF m 29 #[.val (.ref x), .val (.int pp), .val (.int qq), .val (.int oo), .val (.int dd), .unset] [(.int (0 : Int32)), (.int (2 : Int32)), (.int (80 : Int32)), (.ref t), (.ref x)]))
  refine s_imul ST97 (hb hby dAD0_29) (z := (0 : Int32)) rfl (pc' := 30) rfl ?_
  show Go p e below _ (T97.setTop (mkF m 30 #[.val (.ref x), .val (.int pp), .val (.int qq), .val (.int oo), .val (.int dd), .unset] [(.int (0 : Int32)), (.int (80 : Int32)), (.ref t), (.ref x)]))
  refine g_static ST97 (rmMX X (z := (80 : Int32)) (by decide) ST97.old) (fun _ q => nomatch q) (w88 hw) (w43 hw) (w44 hw) (w45 hw) (by decide) (hb hby dAD0_30) (by rw [hml]; rfl) [(.int (80 : Int32)), (.int (0 : Int32))] (lenOf pd7 rfl) rfl rfl (Nat.le_of_ble_eq_true rfl) (Nat.le_of_ble_eq_true rfl) (Nat.le_of_ble_eq_true rfl) (Nat.le_of_ble_eq_true rfl) ?_
  intro v98 T98 V98 h98 S98 C98 q98
  obtain ⟨rfl, rfl⟩ := q98
  show Go p e below _ (T98.setTop (mkF m 33 #[.val (.ref x), .val (.int pp), .val (.int qq), .val (.int oo), .val (.int dd), .unset] [(.int (80 : Int32)), (.ref t), (.ref x)]))
  show Go p e below _ (T98.setTop (mkF m 33 #[.val (.ref x), .val (.int pp), .val (.int qq), .val (.int oo), .val (.int dd), .unset] [(.int (80 : Int32)), (.ref t), (.ref x)]))
  refine g_static S98 (rmCI X S98.old Vt) (fun _ q => nomatch q) (w89 hw) (w90 hw) (w91 hw) (w92 hw) (by decide) (hb hby dAD0_33) (by rw [hml]; rfl) [(.ref t), (.int (80 : Int32))] (lenOf pd8 rfl) rfl rfl (Nat.le_of_ble_eq_true rfl) (Nat.le_of_ble_eq_true rfl) (Nat.le_of_ble_eq_true rfl) (Nat.le_of_ble_eq_true rfl) ?_
  intro v99 T99 V99 h99 S99 C99 q99
  obtain ⟨u, ku, rfl, Eu, fru, nau, Vu⟩ := q99
  show Go p e below _ (T99.setTop (mkF m 36 #[.val (.ref x), .val (.int pp), .val (.int qq), .val (.int oo), .val (.int dd), .unset] [(.ref u), (.ref x)]))
  show Go p e below _ (T99.setTop (mkF m 36 #[.val (.ref x), .val (.int pp), .val (.int qq), .val (.int oo), .val (.int dd), .unset] [(.ref u), (.ref x)]))
  have Fb101 := Fb.ext Eu
  have Ex102 := Ex.ext Eu
  have Ft103 := Ft.ext Eu
  have Fn104 := Fn.ext Eu
  refine g_putF S99 (w33 hw) Via.refl Fb101 Ex102 (Or.inl (w34 hw)) (w2 hw) (ty := (.array .int)) (v' := (.ref u)) (by decide) rfl rfl nx (Safe.exa S99.warm.alike Ex102 (by decide) (by decide)) (hb hby dAD0_36) ?_
  intro T100 h100 S100 K100 W100 A100 F100 sg100
  have F105 := Ft103.other W100 (Or.inr (slot_ne (Or.inr (w31 hw)) (Or.inl (w34 hw)) (by decide) (t := (.object "java/lang/StringBuilder")) (t' := (.array .int)) (by decide) (by decide)))
  have F106 := Fn104.other W100 (Or.inr (slot_ne (Or.inl (w41 hw)) (Or.inl (w34 hw)) (by decide) (t := .int) (t' := (.array .int)) (by decide) (by decide)))
  show Go p e below _ (T100.setTop (mkF m 39 #[.val (.ref x), .val (.int pp), .val (.int qq), .val (.int oo), .val (.int dd), .unset] []))
  refine s_aloadN S100 (hb hby dAD0_39) rfl rfl (pc' := 40) rfl ?_
  refine g_getF S100 (w40 hw) Via.refl F106 (hb hby dAD0_40) ?_
  intro T107 ST107
  show Go p e below _ (T107.setTop (mkF m 43 #[.val (.ref x), .val (.int pp), .val (.int qq), .val (.int oo), .val (.int dd), .unset] [(.int (0 : Int32))]))
  refine s_iconst ST107 (hb hby dAD0_43) (v := (5 : Int32)) rfl (pc' := 44) rfl ?_
  refine s_imul ST107 (hb hby dAD0_44) (z := (0 : Int32)) rfl (pc' := 45) rfl ?_
  refine s_istore ST107 (hb hby dAD0_45) (L' := #[.val (.ref x), .val (.int pp), .val (.int qq), .val (.int oo), .val (.int dd), .val (.int (0 : Int32))]) rfl (pc' := 47) rfl ?_
  refine s_aloadN ST107 (hb hby dAD0_47) rfl rfl (pc' := 48) rfl ?_
  refine g_getF ST107 (w33 hw) Via.refl F100 (hb hby dAD0_48) ?_
  intro T108 ST108
  show Go p e below _ (T108.setTop (mkF m 51 #[.val (.ref x), .val (.int pp), .val (.int qq), .val (.int oo), .val (.int dd), .val (.int (0 : Int32))] [(.ref u)]))
  refine s_iload ST108 (hb hby dAD0_51) rfl (pc' := 53) rfl ?_
  refine s_iconst ST108 (hb hby dAD0_53) (v := (0 : Int32)) rfl (pc' := 54) rfl ?_
  refine s_iadd ST108 (hb hby dAD0_54) (z := (0 : Int32)) rfl (pc' := 55) rfl ?_
  refine s_iloadN ST108 (hb hby dAD0_55) rfl (pc' := 56) rfl ?_
  show Go p e below _ (T108.setTop (mkF m 56 #[.val (.ref x), .val (.int pp), .val (.int qq), .val (.int oo), .val (.int dd), .val (.int (0 : Int32))] [(.int pp), (.int (0 : Int32)), (.ref u)]))
  have F110 := Vu.keep K100 (ninS (Ne.symm (Nat.ne_of_lt (Nat.lt_of_lt_of_le (Nat.lt_of_lt_of_le Ex.lt (Nat.le_refl _)) fru))) nin0)
  refine g_iastore ST108 F110 ⟨by decide, by decide⟩ 0 rfl (Nat.le_of_ble_eq_true rfl) nau (hb hby dAD0_56) ?_
  intro T109 h109 S109 K109 V109 sg109
  have V109 : Arv Z h109 u ku .int (80 : Int32) [(.int pp), (.int (0 : Int32)), (.int (0 : Int32)), (.int (0 : Int32)), (.int (0 : Int32)), (.int (0 : Int32)), (.int (0 : Int32)), (.int (0 : Int32)), (.int (0 : Int32)), (.int (0 : Int32)), (.int (0 : Int32)), (.int (0 : Int32)), (.int (0 : Int32)), (.int (0 : Int32)), (.int (0 : Int32))] (.int (0 : Int32)) := V109
  show Go p e below _ (T109.setTop (mkF m 57 #[.val (.ref x), .val (.int pp), .val (.int qq), .val (.int oo), .val (.int dd), .val (.int (0 : Int32))] []))
  refine s_aloadN S109 (hb hby dAD0_57) rfl rfl (pc' := 58) rfl ?_
  have F111 := F100.keep K109 (ninS (Nat.ne_of_lt (Nat.lt_of_lt_of_le (Nat.lt_of_lt_of_le Ex.lt (Nat.le_refl _)) fru)) nin0)
  refine g_getF S109 (w33 hw) Via.refl F111 (hb hby dAD0_58) ?_
  intro T112 ST112
  show Go p e below _ (T112.setTop (mkF m 61 #[.val (.ref x), .val (.int pp), .val (.int qq), .val (.int oo), .val (.int dd), .val (.int (0 : Int32))] [(.ref u)]))
  refine s_iload ST112 (hb hby dAD0_61) rfl (pc' := 63) rfl ?_
  refine s_iconst ST112 (hb hby dAD0_63) (v := (1 : Int32)) rfl (pc' := 64) rfl ?_
  refine s_iadd ST112 (hb hby dAD0_64) (z := (1 : Int32)) rfl (pc' := 65) rfl ?_
  refine s_iloadN ST112 (hb hby dAD0_65) rfl (pc' := 66) rfl ?_
  show Go p e below _ (T112.setTop (mkF m 66 #[.val (.ref x), .val (.int pp), .val (.int qq), .val (.int oo), .val (.int dd), .val (.int (0 : Int32))] [(.int qq), (.int (1 : Int32)), (.ref u)]))
  refine g_iastore ST112 V109 ⟨by decide, by decide⟩ 1 rfl (Nat.le_of_ble_eq_true rfl) nau (hb hby dAD0_66) ?_
  intro T113 h113 S113 K113 V113 sg113
  have V113 : Arv Z h113 u ku .int (80 : Int32) [(.int pp), (.int qq), (.int (0 : Int32)), (.int (0 : Int32)), (.int (0 : Int32)), (.int (0 : Int32)), (.int (0 : Int32)), (.int (0 : Int32)), (.int (0 : Int32)), (.int (0 : Int32)), (.int (0 : Int32)), (.int (0 : Int32)), (.int (0 : Int32)), (.int (0 : Int32)), (.int (0 : Int32))] (.int (0 : Int32)) := V113
  show Go p e below _ (T113.setTop (mkF m 67 #[.val (.ref x), .val (.int pp), .val (.int qq), .val (.int oo), .val (.int dd), .val (.int (0 : Int32))] []))
  refine s_aloadN S113 (hb hby dAD0_67) rfl rfl (pc' := 68) rfl ?_
  have F114 := F111.keep K113 (ninS (Nat.ne_of_lt (Nat.lt_of_lt_of_le (Nat.lt_of_lt_of_le Ex.lt (Nat.le_refl _)) fru)) nin0)
  refine g_getF S113 (w33 hw) Via.refl F114 (hb hby dAD0_68) ?_
  intro T115 ST115
  show Go p e below _ (T115.setTop (mkF m 71 #[.val (.ref x), .val (.int pp), .val (.int qq), .val (.int oo), .val (.int dd), .val (.int (0 : Int32))] [(.ref u)]))
  refine s_iload ST115 (hb hby dAD0_71) rfl (pc' := 73) rfl ?_
  refine s_iconst ST115 (hb hby dAD0_73) (v := (2 : Int32)) rfl (pc' := 74) rfl ?_
  refine s_iadd ST115 (hb hby dAD0_74) (z := (2 : Int32)) rfl (pc' := 75) rfl ?_
  refine s_iloadN ST115 (hb hby dAD0_75) rfl (pc' := 76) rfl ?_
  show Go p e below _ (T115.setTop (mkF m 76 #[.val (.ref x), .val (.int pp), .val (.int qq), .val (.int oo), .val (.int dd), .val (.int (0 : Int32))] [(.int oo), (.int (2 : Int32)), (.ref u)]))
  refine g_iastore ST115 V113 ⟨by decide, by decide⟩ 2 rfl (Nat.le_of_ble_eq_true rfl) nau (hb hby dAD0_76) ?_
  intro T116 h116 S116 K116 V116 sg116
  have V116 : Arv Z h116 u ku .int (80 : Int32) [(.int pp), (.int qq), (.int oo), (.int (0 : Int32)), (.int (0 : Int32)), (.int (0 : Int32)), (.int (0 : Int32)), (.int (0 : Int32)), (.int (0 : Int32)), (.int (0 : Int32)), (.int (0 : Int32)), (.int (0 : Int32)), (.int (0 : Int32)), (.int (0 : Int32)), (.int (0 : Int32))] (.int (0 : Int32)) := V116
  show Go p e below _ (T116.setTop (mkF m 77 #[.val (.ref x), .val (.int pp), .val (.int qq), .val (.int oo), .val (.int dd), .val (.int (0 : Int32))] []))
  refine s_aloadN S116 (hb hby dAD0_77) rfl rfl (pc' := 78) rfl ?_
  have F117 := F114.keep K116 (ninS (Nat.ne_of_lt (Nat.lt_of_lt_of_le (Nat.lt_of_lt_of_le Ex.lt (Nat.le_refl _)) fru)) nin0)
  refine g_getF S116 (w33 hw) Via.refl F117 (hb hby dAD0_78) ?_
  intro T118 ST118
  show Go p e below _ (T118.setTop (mkF m 81 #[.val (.ref x), .val (.int pp), .val (.int qq), .val (.int oo), .val (.int dd), .val (.int (0 : Int32))] [(.ref u)]))
  refine s_iload ST118 (hb hby dAD0_81) rfl (pc' := 83) rfl ?_
  refine s_iconst ST118 (hb hby dAD0_83) (v := (3 : Int32)) rfl (pc' := 84) rfl ?_
  refine s_iadd ST118 (hb hby dAD0_84) (z := (3 : Int32)) rfl (pc' := 85) rfl ?_
  refine s_iload ST118 (hb hby dAD0_85) rfl (pc' := 87) rfl ?_
  show Go p e below _ (T118.setTop (mkF m 87 #[.val (.ref x), .val (.int pp), .val (.int qq), .val (.int oo), .val (.int dd), .val (.int (0 : Int32))] [(.int dd), (.int (3 : Int32)), (.ref u)]))
  refine g_iastore ST118 V116 ⟨by decide, by decide⟩ 3 rfl (Nat.le_of_ble_eq_true rfl) nau (hb hby dAD0_87) ?_
  intro T119 h119 S119 K119 V119 sg119
  have V119 : Arv Z h119 u ku .int (80 : Int32) [(.int pp), (.int qq), (.int oo), (.int dd), (.int (0 : Int32)), (.int (0 : Int32)), (.int (0 : Int32)), (.int (0 : Int32)), (.int (0 : Int32)), (.int (0 : Int32)), (.int (0 : Int32)), (.int (0 : Int32)), (.int (0 : Int32)), (.int (0 : Int32)), (.int (0 : Int32))] (.int (0 : Int32)) := V119
  show Go p e below _ (T119.setTop (mkF m 88 #[.val (.ref x), .val (.int pp), .val (.int qq), .val (.int oo), .val (.int dd), .val (.int (0 : Int32))] []))
  refine s_aloadN S119 (hb hby dAD0_88) rfl rfl (pc' := 89) rfl ?_
  have F120 := F117.keep K119 (ninS (Nat.ne_of_lt (Nat.lt_of_lt_of_le (Nat.lt_of_lt_of_le Ex.lt (Nat.le_refl _)) fru)) nin0)
  refine g_getF S119 (w33 hw) Via.refl F120 (hb hby dAD0_89) ?_
  intro T121 ST121
  show Go p e below _ (T121.setTop (mkF m 92 #[.val (.ref x), .val (.int pp), .val (.int qq), .val (.int oo), .val (.int dd), .val (.int (0 : Int32))] [(.ref u)]))
  refine s_iload ST121 (hb hby dAD0_92) rfl (pc' := 94) rfl ?_
  refine s_iconst ST121 (hb hby dAD0_94) (v := (4 : Int32)) rfl (pc' := 95) rfl ?_
  refine s_iadd ST121 (hb hby dAD0_95) (z := (4 : Int32)) rfl (pc' := 96) rfl ?_
  refine s_aloadN ST121 (hb hby dAD0_96) rfl rfl (pc' := 97) rfl ?_
  have F122 := F105.keep K109 (ninS (Nat.ne_of_lt (Nat.lt_of_lt_of_le (Nat.lt_of_lt_of_le Ex.lt (Nat.le_refl _)) fru)) nin0)
  have F123 := F122.keep K113 (ninS (Nat.ne_of_lt (Nat.lt_of_lt_of_le (Nat.lt_of_lt_of_le Ex.lt (Nat.le_refl _)) fru)) nin0)
  have F124 := F123.keep K116 (ninS (Nat.ne_of_lt (Nat.lt_of_lt_of_le (Nat.lt_of_lt_of_le Ex.lt (Nat.le_refl _)) fru)) nin0)
  have F125 := F124.keep K119 (ninS (Nat.ne_of_lt (Nat.lt_of_lt_of_le (Nat.lt_of_lt_of_le Ex.lt (Nat.le_refl _)) fru)) nin0)
  refine g_getF ST121 (w30 hw) Via.refl F125 (hb hby dAD0_97) ?_
  intro T126 ST126
  show Go p e below _ (T126.setTop (mkF m 100 #[.val (.ref x), .val (.int pp), .val (.int qq), .val (.int oo), .val (.int dd), .val (.int (0 : Int32))] [(.ref sb), (.int (4 : Int32)), (.ref u)]))
  have F127 := Es.ext Eu
  have F128 := F127.keep K100
  have F129 := F128.keep K109
  have F130 := F129.keep K113
  have F131 := F130.keep K116
  have F132 := F131.keep K119
  have F133 := Fv.ext Eu
  have F134 := F133.keep K100 (ninS (Ne.symm nXS) nin0)
  have F135 := F134.keep K109 (ninS (Nat.ne_of_lt (Nat.lt_of_lt_of_le (Nat.lt_of_lt_of_le Es.lt (Nat.le_refl _)) fru)) nin0)
  have F136 := F135.keep K113 (ninS (Nat.ne_of_lt (Nat.lt_of_lt_of_le (Nat.lt_of_lt_of_le Es.lt (Nat.le_refl _)) fru)) nin0)
  have F137 := F136.keep K116 (ninS (Nat.ne_of_lt (Nat.lt_of_lt_of_le (Nat.lt_of_lt_of_le Es.lt (Nat.le_refl _)) fru)) nin0)
  have F138 := F137.keep K119 (ninS (Nat.ne_of_lt (Nat.lt_of_lt_of_le (Nat.lt_of_lt_of_le Es.lt (Nat.le_refl _)) fru)) nin0)
  have F139 := Fk.ext Eu
  have F140 := F139.keep K100 (ninS (Ne.symm nXS) nin0)
  have F141 := F140.keep K109 (ninS (Nat.ne_of_lt (Nat.lt_of_lt_of_le (Nat.lt_of_lt_of_le Es.lt (Nat.le_refl _)) fru)) nin0)
  have F142 := F141.keep K113 (ninS (Nat.ne_of_lt (Nat.lt_of_lt_of_le (Nat.lt_of_lt_of_le Es.lt (Nat.le_refl _)) fru)) nin0)
  have F143 := F142.keep K116 (ninS (Nat.ne_of_lt (Nat.lt_of_lt_of_le (Nat.lt_of_lt_of_le Es.lt (Nat.le_refl _)) fru)) nin0)
  have F144 := F143.keep K119 (ninS (Nat.ne_of_lt (Nat.lt_of_lt_of_le (Nat.lt_of_lt_of_le Es.lt (Nat.le_refl _)) fru)) nin0)
  have F145 := Fs.ext Eu
  have F146 := F145.keep K100 (ninS (Ne.symm nXS) nin0)
  have F147 := F146.keep K109 (ninS (Nat.ne_of_lt (Nat.lt_of_lt_of_le (Nat.lt_of_lt_of_le Es.lt (Nat.le_refl _)) fru)) nin0)
  have F148 := F147.keep K113 (ninS (Nat.ne_of_lt (Nat.lt_of_lt_of_le (Nat.lt_of_lt_of_le Es.lt (Nat.le_refl _)) fru)) nin0)
  have F149 := F148.keep K116 (ninS (Nat.ne_of_lt (Nat.lt_of_lt_of_le (Nat.lt_of_lt_of_le Es.lt (Nat.le_refl _)) fru)) nin0)
  have F150 := F149.keep K119 (ninS (Nat.ne_of_lt (Nat.lt_of_lt_of_le (Nat.lt_of_lt_of_le Es.lt (Nat.le_refl _)) fru)) nin0)
  show Go p e below _ (T126.setTop (mkF m 100 #[.val (.ref x), .val (.int pp), .val (.int qq), .val (.int oo), .val (.int dd), .val (.int (0 : Int32))] [(.ref sb), (.int (4 : Int32)), (.ref u)]))
  refine g_virtual ST126 (rmSL X ST126.old F132 F138 F144 F150) (fun _ q => nomatch q) (w100 hw) (w101 hw) (w103 hw) (w102 hw) (w12 hw) (w104 hw) (by decide) (fun _ h => notFace_of_selects h) (hb hby dAD0_100) (by rw [hml]; rfl) sb F132 [] (lenOf pd1 rfl) rfl rfl (Nat.le_of_ble_eq_true rfl) (Nat.le_of_ble_eq_true rfl) (Nat.le_of_ble_eq_true rfl) (Nat.le_of_ble_eq_true rfl) ?_
  intro v151 T151 V151 h151 S151 C151 q151
  obtain ⟨rfl, rfl⟩ := q151
  show Go p e below _ (T151.setTop (mkF m 103 #[.val (.ref x), .val (.int pp), .val (.int qq), .val (.int oo), .val (.int dd), .val (.int (0 : Int32))] [(.int sc), (.int (4 : Int32)), (.ref u)]))
  show Go p e below _ (T151.setTop (mkF m 103 #[.val (.ref x), .val (.int pp), .val (.int qq), .val (.int oo), .val (.int dd), .val (.int (0 : Int32))] [(.int sc), (.int (4 : Int32)), (.ref u)]))
  refine g_iastore S151 V119 ⟨by decide, by decide⟩ 4 rfl (Nat.le_of_ble_eq_true rfl) nau (hb hby dAD0_103) ?_
  intro T152 h152 S152 K152 V152 sg152
  have V152 : Arv Z h152 u ku .int (80 : Int32) [(.int pp), (.int qq), (.int oo), (.int dd), (.int sc), (.int (0 : Int32)), (.int (0 : Int32)), (.int (0 : Int32)), (.int (0 : Int32)), (.int (0 : Int32)), (.int (0 : Int32)), (.int (0 : Int32)), (.int (0 : Int32)), (.int (0 : Int32)), (.int (0 : Int32))] (.int (0 : Int32)) := V152
  show Go p e below _ (T152.setTop (mkF m 104 #[.val (.ref x), .val (.int pp), .val (.int qq), .val (.int oo), .val (.int dd), .val (.int (0 : Int32))] []))
  refine s_aloadN S152 (hb hby dAD0_104) rfl rfl (pc' := 105) rfl ?_
  refine s_dup S152 (hb hby dAD0_105) rfl (pc' := 106) rfl ?_
  have F153 := F106.keep K109 (ninS (Nat.ne_of_lt (Nat.lt_of_lt_of_le (Nat.lt_of_lt_of_le Ex.lt (Nat.le_refl _)) fru)) nin0)
  have F154 := F153.keep K113 (ninS (Nat.ne_of_lt (Nat.lt_of_lt_of_le (Nat.lt_of_lt_of_le Ex.lt (Nat.le_refl _)) fru)) nin0)
  have F155 := F154.keep K116 (ninS (Nat.ne_of_lt (Nat.lt_of_lt_of_le (Nat.lt_of_lt_of_le Ex.lt (Nat.le_refl _)) fru)) nin0)
  have F156 := F155.keep K119 (ninS (Nat.ne_of_lt (Nat.lt_of_lt_of_le (Nat.lt_of_lt_of_le Ex.lt (Nat.le_refl _)) fru)) nin0)
  have F157 := F156.keep K152 (ninS (Nat.ne_of_lt (Nat.lt_of_lt_of_le (Nat.lt_of_lt_of_le Ex.lt (Nat.le_refl _)) fru)) nin0)
  refine g_getF S152 (w40 hw) Via.refl F157 (hb hby dAD0_106) ?_
  intro T158 ST158
  show Go p e below _ (T158.setTop (mkF m 109 #[.val (.ref x), .val (.int pp), .val (.int qq), .val (.int oo), .val (.int dd), .val (.int (0 : Int32))] [(.int (0 : Int32)), (.ref x)]))
  refine s_iconst ST158 (hb hby dAD0_109) (v := (1 : Int32)) rfl (pc' := 110) rfl ?_
  refine s_iadd ST158 (hb hby dAD0_110) (z := (1 : Int32)) rfl (pc' := 111) rfl ?_
  show Go p e below _ (T158.setTop (mkF m 111 #[.val (.ref x), .val (.int pp), .val (.int qq), .val (.int oo), .val (.int dd), .val (.int (0 : Int32))] [(.int (1 : Int32)), (.ref x)]))
  have F160 := A100.keep K109
  have F161 := F160.keep K113
  have F162 := F161.keep K116
  have F163 := F162.keep K119
  have F164 := F163.keep K152
  have F165 := F125.keep K152 (ninS (Nat.ne_of_lt (Nat.lt_of_lt_of_le (Nat.lt_of_lt_of_le Ex.lt (Nat.le_refl _)) fru)) nin0)
  have F166 := F120.keep K152 (ninS (Nat.ne_of_lt (Nat.lt_of_lt_of_le (Nat.lt_of_lt_of_le Ex.lt (Nat.le_refl _)) fru)) nin0)
  refine g_putF ST158 (w40 hw) Via.refl F157 F164 (Or.inl (w41 hw)) (w2 hw) (ty := .int) (v' := (.int (1 : Int32))) (by decide) rfl rfl nx (Safe.exa ST158.warm.alike F164 (by decide) (by decide)) (hb hby dAD0_111) ?_
  intro T159 h159 S159 K159 W159 A159 F159 sg159
  have F167 := F165.other W159 (Or.inr (slot_ne (Or.inr (w31 hw)) (Or.inl (w41 hw)) (by decide) (t := (.object "java/lang/StringBuilder")) (t' := .int) (by decide) (by decide)))
  have F168 := F166.other W159 (Or.inr (slot_ne (Or.inl (w34 hw)) (Or.inl (w41 hw)) (by decide) (t := (.array .int)) (t' := .int) (by decide) (by decide)))
  show Go p e below _ (T159.setTop (mkF m 114 #[.val (.ref x), .val (.int pp), .val (.int qq), .val (.int oo), .val (.int dd), .val (.int (0 : Int32))] []))
  show Go p e below _ (T159.setTop (mkF m 114 #[.val (.ref x), .val (.int pp), .val (.int qq), .val (.int oo), .val (.int dd), .val (.int (0 : Int32))] []))
  have KA169 := ((Keep.refl h98 [x]).ext Eu)
  have KA170 := (KA169.trans K100 (allS (Or.inl (by simp)) all0))
  have KA171 := (KA170.trans K109 (allS (Or.inr fru) all0))
  have KA172 := (KA171.trans K113 (allS (Or.inr fru) all0))
  have KA173 := (KA172.trans K116 (allS (Or.inr fru) all0))
  have KA174 := (KA173.trans K119 (allS (Or.inr fru) all0))
  have KA175 := (KA174.trans K152 (allS (Or.inr fru) all0))
  have KA176 : Keep h98 h159 [x] := (KA175.trans K159 (allS (Or.inl (by simp)) all0))
  have F177 := V152.keep K159 (ninS (Ne.symm (Nat.ne_of_lt (Nat.lt_of_lt_of_le (Nat.lt_of_lt_of_le Ex.lt (Nat.le_refl _)) fru))) nin0)
  have F178 := F132.keep K152
  have F179 := F178.keep K159
  have F180 := F138.keep K152 (ninS (Nat.ne_of_lt (Nat.lt_of_lt_of_le (Nat.lt_of_lt_of_le Es.lt (Nat.le_refl _)) fru)) nin0)
  have F181 := F180.keep K159 (ninS (Ne.symm nXS) nin0)
  have F182 := F144.keep K152 (ninS (Nat.ne_of_lt (Nat.lt_of_lt_of_le (Nat.lt_of_lt_of_le Es.lt (Nat.le_refl _)) fru)) nin0)
  have F183 := F182.keep K159 (ninS (Ne.symm nXS) nin0)
  have F184 := F150.keep K152 (ninS (Nat.ne_of_lt (Nat.lt_of_lt_of_le (Nat.lt_of_lt_of_le Es.lt (Nat.le_refl _)) fru)) nin0)
  have F185 := F184.keep K159 (ninS (Ne.symm nXS) nin0)
  have F186 := Vb.ext Eu
  have F187 := F186.keep K100 (ninS (Ne.symm nXB) nin0)
  have F188 := F187.keep K109 (ninS (Nat.ne_of_lt (Nat.lt_of_lt_of_le (Nat.lt_of_lt_of_le Vb.lt (Nat.le_refl _)) fru)) nin0)
  have F189 := F188.keep K113 (ninS (Nat.ne_of_lt (Nat.lt_of_lt_of_le (Nat.lt_of_lt_of_le Vb.lt (Nat.le_refl _)) fru)) nin0)
  have F190 := F189.keep K116 (ninS (Nat.ne_of_lt (Nat.lt_of_lt_of_le (Nat.lt_of_lt_of_le Vb.lt (Nat.le_refl _)) fru)) nin0)
  have F191 := F190.keep K119 (ninS (Nat.ne_of_lt (Nat.lt_of_lt_of_le (Nat.lt_of_lt_of_le Vb.lt (Nat.le_refl _)) fru)) nin0)
  have F192 := F191.keep K152 (ninS (Nat.ne_of_lt (Nat.lt_of_lt_of_le (Nat.lt_of_lt_of_le Vb.lt (Nat.le_refl _)) fru)) nin0)
  have F193 := F192.keep K159 (ninS (Ne.symm nXB) nin0)
  exact g_ret S159 (hb hby dAD0_114) hret ⟨rfl, u, ku, KA176, ⟨A159, F167, F168, F159, F177, ⟨F179, F181, F183, F185, F193⟩, nx, ns, nb, nau⟩⟩
theorem dAD1_0 : decode prog_3_method_13_code 0 = .ok (.aload_n 0, 1) := by decide +kernel
theorem dAD1_1 : decode prog_3_method_13_code 1 = .ok (.getfield 16, 3) := by decide +kernel
theorem dAD1_4 : decode prog_3_method_13_code 4 = .ok (.arraylength, 1) := by decide +kernel
theorem dAD1_5 : decode prog_3_method_13_code 5 = .ok (.aload_n 0, 1) := by decide +kernel
theorem dAD1_6 : decode prog_3_method_13_code 6 = .ok (.getfield 38, 3) := by decide +kernel
theorem dAD1_9 : decode prog_3_method_13_code 9 = .ok (.iconst 1, 1) := by decide +kernel
theorem dAD1_10 : decode prog_3_method_13_code 10 = .ok (.iadd, 1) := by decide +kernel
theorem dAD1_11 : decode prog_3_method_13_code 11 = .ok (.iconst 5, 1) := by decide +kernel
theorem dAD1_12 : decode prog_3_method_13_code 12 = .ok (.imul, 1) := by decide +kernel
theorem dAD1_13 : decode prog_3_method_13_code 13 = .ok (.if_icmp .ge 26, 3) := by decide +kernel
theorem dAD1_39 : decode prog_3_method_13_code 39 = .ok (.aload_n 0, 1) := by decide +kernel
theorem dAD1_40 : decode prog_3_method_13_code 40 = .ok (.getfield 38, 3) := by decide +kernel
theorem dAD1_43 : decode prog_3_method_13_code 43 = .ok (.iconst 5, 1) := by decide +kernel
theorem dAD1_44 : decode prog_3_method_13_code 44 = .ok (.imul, 1) := by decide +kernel
theorem dAD1_45 : decode prog_3_method_13_code 45 = .ok (.istore 5, 2) := by decide +kernel
theorem dAD1_47 : decode prog_3_method_13_code 47 = .ok (.aload_n 0, 1) := by decide +kernel
theorem dAD1_48 : decode prog_3_method_13_code 48 = .ok (.getfield 16, 3) := by decide +kernel
theorem dAD1_51 : decode prog_3_method_13_code 51 = .ok (.iload 5, 2) := by decide +kernel
theorem dAD1_53 : decode prog_3_method_13_code 53 = .ok (.iconst 0, 1) := by decide +kernel
theorem dAD1_54 : decode prog_3_method_13_code 54 = .ok (.iadd, 1) := by decide +kernel
theorem dAD1_55 : decode prog_3_method_13_code 55 = .ok (.iload_n 1, 1) := by decide +kernel
theorem dAD1_56 : decode prog_3_method_13_code 56 = .ok (.iastore, 1) := by decide +kernel
theorem dAD1_57 : decode prog_3_method_13_code 57 = .ok (.aload_n 0, 1) := by decide +kernel
theorem dAD1_58 : decode prog_3_method_13_code 58 = .ok (.getfield 16, 3) := by decide +kernel
theorem dAD1_61 : decode prog_3_method_13_code 61 = .ok (.iload 5, 2) := by decide +kernel
theorem dAD1_63 : decode prog_3_method_13_code 63 = .ok (.iconst 1, 1) := by decide +kernel
theorem dAD1_64 : decode prog_3_method_13_code 64 = .ok (.iadd, 1) := by decide +kernel
theorem dAD1_65 : decode prog_3_method_13_code 65 = .ok (.iload_n 2, 1) := by decide +kernel
theorem dAD1_66 : decode prog_3_method_13_code 66 = .ok (.iastore, 1) := by decide +kernel
theorem dAD1_67 : decode prog_3_method_13_code 67 = .ok (.aload_n 0, 1) := by decide +kernel
theorem dAD1_68 : decode prog_3_method_13_code 68 = .ok (.getfield 16, 3) := by decide +kernel
theorem dAD1_71 : decode prog_3_method_13_code 71 = .ok (.iload 5, 2) := by decide +kernel
theorem dAD1_73 : decode prog_3_method_13_code 73 = .ok (.iconst 2, 1) := by decide +kernel
theorem dAD1_74 : decode prog_3_method_13_code 74 = .ok (.iadd, 1) := by decide +kernel
theorem dAD1_75 : decode prog_3_method_13_code 75 = .ok (.iload_n 3, 1) := by decide +kernel
theorem dAD1_76 : decode prog_3_method_13_code 76 = .ok (.iastore, 1) := by decide +kernel
theorem dAD1_77 : decode prog_3_method_13_code 77 = .ok (.aload_n 0, 1) := by decide +kernel
theorem dAD1_78 : decode prog_3_method_13_code 78 = .ok (.getfield 16, 3) := by decide +kernel
theorem dAD1_81 : decode prog_3_method_13_code 81 = .ok (.iload 5, 2) := by decide +kernel
theorem dAD1_83 : decode prog_3_method_13_code 83 = .ok (.iconst 3, 1) := by decide +kernel
theorem dAD1_84 : decode prog_3_method_13_code 84 = .ok (.iadd, 1) := by decide +kernel
theorem dAD1_85 : decode prog_3_method_13_code 85 = .ok (.iload 4, 2) := by decide +kernel
theorem dAD1_87 : decode prog_3_method_13_code 87 = .ok (.iastore, 1) := by decide +kernel
theorem dAD1_88 : decode prog_3_method_13_code 88 = .ok (.aload_n 0, 1) := by decide +kernel
theorem dAD1_89 : decode prog_3_method_13_code 89 = .ok (.getfield 16, 3) := by decide +kernel
theorem dAD1_92 : decode prog_3_method_13_code 92 = .ok (.iload 5, 2) := by decide +kernel
theorem dAD1_94 : decode prog_3_method_13_code 94 = .ok (.iconst 4, 1) := by decide +kernel
theorem dAD1_95 : decode prog_3_method_13_code 95 = .ok (.iadd, 1) := by decide +kernel
theorem dAD1_96 : decode prog_3_method_13_code 96 = .ok (.aload_n 0, 1) := by decide +kernel
theorem dAD1_97 : decode prog_3_method_13_code 97 = .ok (.getfield 10, 3) := by decide +kernel
theorem dAD1_100 : decode prog_3_method_13_code 100 = .ok (.invokevirtual 31, 3) := by decide +kernel
theorem dAD1_103 : decode prog_3_method_13_code 103 = .ok (.iastore, 1) := by decide +kernel
theorem dAD1_104 : decode prog_3_method_13_code 104 = .ok (.aload_n 0, 1) := by decide +kernel
theorem dAD1_105 : decode prog_3_method_13_code 105 = .ok (.dup, 1) := by decide +kernel
theorem dAD1_106 : decode prog_3_method_13_code 106 = .ok (.getfield 38, 3) := by decide +kernel
theorem dAD1_109 : decode prog_3_method_13_code 109 = .ok (.iconst 1, 1) := by decide +kernel
theorem dAD1_110 : decode prog_3_method_13_code 110 = .ok (.iadd, 1) := by decide +kernel
theorem dAD1_111 : decode prog_3_method_13_code 111 = .ok (.putfield 38, 3) := by decide +kernel
theorem dAD1_114 : decode prog_3_method_13_code 114 = .ok (.return_, 1) := by decide +kernel
set_option maxRecDepth 65536 in
set_option maxHeartbeats 40000000 in
theorem rmAD1 {l : Launch} {Z : State} {a0 : Array Value} {n0 : Nat} (X : Ctx Z a0) {x sb tb t : Addr} {kb kt : ClassId} {bs : List Value} {sc r0 r1 r2 r3 r4 : Int32} (pp qq oo dd : Int32) {h : Heap} (hO : Old Z n0 h) (A : AS Z h n0 x sb tb t kb kt (1 : Int32) (80 : Int32) [(.int r0), (.int r1), (.int r2), (.int r3), (.int r4), (.int (0 : Int32)), (.int (0 : Int32)), (.int (0 : Int32)), (.int (0 : Int32)), (.int (0 : Int32)), (.int (0 : Int32)), (.int (0 : Int32)), (.int (0 : Int32)), (.int (0 : Int32)), (.int (0 : Int32))] (16 : Int32) sc bs) :
    Ctr l Z EL1 n0 (⟨"com/example/nodewarden/nodewarden/core/Asides", "add", "(IIII)V"⟩ : MethodName) prog_3_method_13_code 6 none ({ frames := 2, cells := 0, slots := 0, locals := 26 } : Room) #[(.ref x), (.int pp), (.int qq), (.int oo), (.int dd)] h [] (fun v h' => v = none ∧ Keep h h' [x, t] ∧ AS Z h' n0 x sb tb t kb kt (2 : Int32) (80 : Int32) [(.int r0), (.int r1), (.int r2), (.int r3), (.int r4), (.int pp), (.int qq), (.int oo), (.int dd), (.int sc), (.int (0 : Int32)), (.int (0 : Int32)), (.int (0 : Int32)), (.int (0 : Int32)), (.int (0 : Int32))] (16 : Int32) sc bs) := by
  have hw := X.hw
  obtain ⟨z1, hz1, hz2⟩ := X.2.2.1
  refine Ctr.intro (a0 := a0) (plainFor_of_name pn3) hO X.ew ?_
  intro p e s m below meth c T0 V0 S0 hby hml hret hnm hsf
  rw [ef9]
  obtain ⟨Ex, Ft, Fb, Fn, Vt, ⟨Es, Fv, Fk, Fs, Vb⟩, nx, ns, nb, nt⟩ := A
  have nXS : x ≠ sb := ne_exa Ex Es (by decide)
  have nXT : x ≠ t := Exa.neArv Ex Vt (w2 hw)
  have nXB : x ≠ tb := Exa.neArv Ex Vb (w2 hw)
  have nST : sb ≠ t := Exa.neArv Es Vt (w11 hw)
  have nSB : sb ≠ tb := Exa.neArv Es Vb (w11 hw)
  have nTB : t ≠ tb := arv_kne Vt Vb (by decide)
  show Go p e below _ (T0.setTop (mkF m 0 #[.val (.ref x), .val (.int pp), .val (.int qq), .val (.int oo), .val (.int dd), .unset] []))
  refine s_aloadN S0 (hb hby dAD1_0) rfl rfl (pc' := 1) rfl ?_
  refine g_getF S0 (w33 hw) Via.refl Fb (hb hby dAD1_1) ?_
  intro T194 ST194
  show Go p e below _ (T194.setTop (mkF m 4 #[.val (.ref x), .val (.int pp), .val (.int qq), .val (.int oo), .val (.int dd), .unset] [(.ref t)]))
  refine g_len ST194 Vt (hb hby dAD1_4) ?_
  show Go p e below _ (T194.setTop (mkF m 5 #[.val (.ref x), .val (.int pp), .val (.int qq), .val (.int oo), .val (.int dd), .unset] [(.int (80 : Int32))]))
  refine s_aloadN ST194 (hb hby dAD1_5) rfl rfl (pc' := 6) rfl ?_
  refine g_getF ST194 (w40 hw) Via.refl Fn (hb hby dAD1_6) ?_
  intro T195 ST195
  show Go p e below _ (T195.setTop (mkF m 9 #[.val (.ref x), .val (.int pp), .val (.int qq), .val (.int oo), .val (.int dd), .unset] [(.int (1 : Int32)), (.int (80 : Int32))]))
  refine s_iconst ST195 (hb hby dAD1_9) (v := (1 : Int32)) rfl (pc' := 10) rfl ?_
  refine s_iadd ST195 (hb hby dAD1_10) (z := (2 : Int32)) rfl (pc' := 11) rfl ?_
  refine s_iconst ST195 (hb hby dAD1_11) (v := (5 : Int32)) rfl (pc' := 12) rfl ?_
  refine s_imul ST195 (hb hby dAD1_12) (z := (10 : Int32)) rfl (pc' := 13) rfl ?_
  refine s_icmpY ST195 (hb hby dAD1_13) (by decide) (by decide) (pcT := 39) (by decide) ?_
  refine s_aloadN ST195 (hb hby dAD1_39) rfl rfl (pc' := 40) rfl ?_
  refine g_getF ST195 (w40 hw) Via.refl Fn (hb hby dAD1_40) ?_
  intro T196 ST196
  show Go p e below _ (T196.setTop (mkF m 43 #[.val (.ref x), .val (.int pp), .val (.int qq), .val (.int oo), .val (.int dd), .unset] [(.int (1 : Int32))]))
  refine s_iconst ST196 (hb hby dAD1_43) (v := (5 : Int32)) rfl (pc' := 44) rfl ?_
  refine s_imul ST196 (hb hby dAD1_44) (z := (5 : Int32)) rfl (pc' := 45) rfl ?_
  refine s_istore ST196 (hb hby dAD1_45) (L' := #[.val (.ref x), .val (.int pp), .val (.int qq), .val (.int oo), .val (.int dd), .val (.int (5 : Int32))]) rfl (pc' := 47) rfl ?_
  refine s_aloadN ST196 (hb hby dAD1_47) rfl rfl (pc' := 48) rfl ?_
  refine g_getF ST196 (w33 hw) Via.refl Fb (hb hby dAD1_48) ?_
  intro T197 ST197
  show Go p e below _ (T197.setTop (mkF m 51 #[.val (.ref x), .val (.int pp), .val (.int qq), .val (.int oo), .val (.int dd), .val (.int (5 : Int32))] [(.ref t)]))
  refine s_iload ST197 (hb hby dAD1_51) rfl (pc' := 53) rfl ?_
  refine s_iconst ST197 (hb hby dAD1_53) (v := (0 : Int32)) rfl (pc' := 54) rfl ?_
  refine s_iadd ST197 (hb hby dAD1_54) (z := (5 : Int32)) rfl (pc' := 55) rfl ?_
  refine s_iloadN ST197 (hb hby dAD1_55) rfl (pc' := 56) rfl ?_
  show Go p e below _ (T197.setTop (mkF m 56 #[.val (.ref x), .val (.int pp), .val (.int qq), .val (.int oo), .val (.int dd), .val (.int (5 : Int32))] [(.int pp), (.int (5 : Int32)), (.ref t)]))
  refine g_iastore ST197 Vt ⟨by decide, by decide⟩ 5 rfl (Nat.le_of_ble_eq_true rfl) nt (hb hby dAD1_56) ?_
  intro T198 h198 S198 K198 V198 sg198
  have V198 : Arv Z h198 t kt .int (80 : Int32) [(.int r0), (.int r1), (.int r2), (.int r3), (.int r4), (.int pp), (.int (0 : Int32)), (.int (0 : Int32)), (.int (0 : Int32)), (.int (0 : Int32)), (.int (0 : Int32)), (.int (0 : Int32)), (.int (0 : Int32)), (.int (0 : Int32)), (.int (0 : Int32))] (.int (0 : Int32)) := V198
  show Go p e below _ (T198.setTop (mkF m 57 #[.val (.ref x), .val (.int pp), .val (.int qq), .val (.int oo), .val (.int dd), .val (.int (5 : Int32))] []))
  refine s_aloadN S198 (hb hby dAD1_57) rfl rfl (pc' := 58) rfl ?_
  have F199 := Fb.keep K198 (ninS nXT nin0)
  refine g_getF S198 (w33 hw) Via.refl F199 (hb hby dAD1_58) ?_
  intro T200 ST200
  show Go p e below _ (T200.setTop (mkF m 61 #[.val (.ref x), .val (.int pp), .val (.int qq), .val (.int oo), .val (.int dd), .val (.int (5 : Int32))] [(.ref t)]))
  refine s_iload ST200 (hb hby dAD1_61) rfl (pc' := 63) rfl ?_
  refine s_iconst ST200 (hb hby dAD1_63) (v := (1 : Int32)) rfl (pc' := 64) rfl ?_
  refine s_iadd ST200 (hb hby dAD1_64) (z := (6 : Int32)) rfl (pc' := 65) rfl ?_
  refine s_iloadN ST200 (hb hby dAD1_65) rfl (pc' := 66) rfl ?_
  show Go p e below _ (T200.setTop (mkF m 66 #[.val (.ref x), .val (.int pp), .val (.int qq), .val (.int oo), .val (.int dd), .val (.int (5 : Int32))] [(.int qq), (.int (6 : Int32)), (.ref t)]))
  refine g_iastore ST200 V198 ⟨by decide, by decide⟩ 6 rfl (Nat.le_of_ble_eq_true rfl) nt (hb hby dAD1_66) ?_
  intro T201 h201 S201 K201 V201 sg201
  have V201 : Arv Z h201 t kt .int (80 : Int32) [(.int r0), (.int r1), (.int r2), (.int r3), (.int r4), (.int pp), (.int qq), (.int (0 : Int32)), (.int (0 : Int32)), (.int (0 : Int32)), (.int (0 : Int32)), (.int (0 : Int32)), (.int (0 : Int32)), (.int (0 : Int32)), (.int (0 : Int32))] (.int (0 : Int32)) := V201
  show Go p e below _ (T201.setTop (mkF m 67 #[.val (.ref x), .val (.int pp), .val (.int qq), .val (.int oo), .val (.int dd), .val (.int (5 : Int32))] []))
  refine s_aloadN S201 (hb hby dAD1_67) rfl rfl (pc' := 68) rfl ?_
  have F202 := F199.keep K201 (ninS nXT nin0)
  refine g_getF S201 (w33 hw) Via.refl F202 (hb hby dAD1_68) ?_
  intro T203 ST203
  show Go p e below _ (T203.setTop (mkF m 71 #[.val (.ref x), .val (.int pp), .val (.int qq), .val (.int oo), .val (.int dd), .val (.int (5 : Int32))] [(.ref t)]))
  refine s_iload ST203 (hb hby dAD1_71) rfl (pc' := 73) rfl ?_
  refine s_iconst ST203 (hb hby dAD1_73) (v := (2 : Int32)) rfl (pc' := 74) rfl ?_
  refine s_iadd ST203 (hb hby dAD1_74) (z := (7 : Int32)) rfl (pc' := 75) rfl ?_
  refine s_iloadN ST203 (hb hby dAD1_75) rfl (pc' := 76) rfl ?_
  show Go p e below _ (T203.setTop (mkF m 76 #[.val (.ref x), .val (.int pp), .val (.int qq), .val (.int oo), .val (.int dd), .val (.int (5 : Int32))] [(.int oo), (.int (7 : Int32)), (.ref t)]))
  refine g_iastore ST203 V201 ⟨by decide, by decide⟩ 7 rfl (Nat.le_of_ble_eq_true rfl) nt (hb hby dAD1_76) ?_
  intro T204 h204 S204 K204 V204 sg204
  have V204 : Arv Z h204 t kt .int (80 : Int32) [(.int r0), (.int r1), (.int r2), (.int r3), (.int r4), (.int pp), (.int qq), (.int oo), (.int (0 : Int32)), (.int (0 : Int32)), (.int (0 : Int32)), (.int (0 : Int32)), (.int (0 : Int32)), (.int (0 : Int32)), (.int (0 : Int32))] (.int (0 : Int32)) := V204
  show Go p e below _ (T204.setTop (mkF m 77 #[.val (.ref x), .val (.int pp), .val (.int qq), .val (.int oo), .val (.int dd), .val (.int (5 : Int32))] []))
  refine s_aloadN S204 (hb hby dAD1_77) rfl rfl (pc' := 78) rfl ?_
  have F205 := F202.keep K204 (ninS nXT nin0)
  refine g_getF S204 (w33 hw) Via.refl F205 (hb hby dAD1_78) ?_
  intro T206 ST206
  show Go p e below _ (T206.setTop (mkF m 81 #[.val (.ref x), .val (.int pp), .val (.int qq), .val (.int oo), .val (.int dd), .val (.int (5 : Int32))] [(.ref t)]))
  refine s_iload ST206 (hb hby dAD1_81) rfl (pc' := 83) rfl ?_
  refine s_iconst ST206 (hb hby dAD1_83) (v := (3 : Int32)) rfl (pc' := 84) rfl ?_
  refine s_iadd ST206 (hb hby dAD1_84) (z := (8 : Int32)) rfl (pc' := 85) rfl ?_
  refine s_iload ST206 (hb hby dAD1_85) rfl (pc' := 87) rfl ?_
  show Go p e below _ (T206.setTop (mkF m 87 #[.val (.ref x), .val (.int pp), .val (.int qq), .val (.int oo), .val (.int dd), .val (.int (5 : Int32))] [(.int dd), (.int (8 : Int32)), (.ref t)]))
  refine g_iastore ST206 V204 ⟨by decide, by decide⟩ 8 rfl (Nat.le_of_ble_eq_true rfl) nt (hb hby dAD1_87) ?_
  intro T207 h207 S207 K207 V207 sg207
  have V207 : Arv Z h207 t kt .int (80 : Int32) [(.int r0), (.int r1), (.int r2), (.int r3), (.int r4), (.int pp), (.int qq), (.int oo), (.int dd), (.int (0 : Int32)), (.int (0 : Int32)), (.int (0 : Int32)), (.int (0 : Int32)), (.int (0 : Int32)), (.int (0 : Int32))] (.int (0 : Int32)) := V207
  show Go p e below _ (T207.setTop (mkF m 88 #[.val (.ref x), .val (.int pp), .val (.int qq), .val (.int oo), .val (.int dd), .val (.int (5 : Int32))] []))
  refine s_aloadN S207 (hb hby dAD1_88) rfl rfl (pc' := 89) rfl ?_
  have F208 := F205.keep K207 (ninS nXT nin0)
  refine g_getF S207 (w33 hw) Via.refl F208 (hb hby dAD1_89) ?_
  intro T209 ST209
  show Go p e below _ (T209.setTop (mkF m 92 #[.val (.ref x), .val (.int pp), .val (.int qq), .val (.int oo), .val (.int dd), .val (.int (5 : Int32))] [(.ref t)]))
  refine s_iload ST209 (hb hby dAD1_92) rfl (pc' := 94) rfl ?_
  refine s_iconst ST209 (hb hby dAD1_94) (v := (4 : Int32)) rfl (pc' := 95) rfl ?_
  refine s_iadd ST209 (hb hby dAD1_95) (z := (9 : Int32)) rfl (pc' := 96) rfl ?_
  refine s_aloadN ST209 (hb hby dAD1_96) rfl rfl (pc' := 97) rfl ?_
  have F210 := Ft.keep K198 (ninS nXT nin0)
  have F211 := F210.keep K201 (ninS nXT nin0)
  have F212 := F211.keep K204 (ninS nXT nin0)
  have F213 := F212.keep K207 (ninS nXT nin0)
  refine g_getF ST209 (w30 hw) Via.refl F213 (hb hby dAD1_97) ?_
  intro T214 ST214
  show Go p e below _ (T214.setTop (mkF m 100 #[.val (.ref x), .val (.int pp), .val (.int qq), .val (.int oo), .val (.int dd), .val (.int (5 : Int32))] [(.ref sb), (.int (9 : Int32)), (.ref t)]))
  have F215 := Es.keep K198
  have F216 := F215.keep K201
  have F217 := F216.keep K204
  have F218 := F217.keep K207
  have F219 := Fv.keep K198 (ninS nST nin0)
  have F220 := F219.keep K201 (ninS nST nin0)
  have F221 := F220.keep K204 (ninS nST nin0)
  have F222 := F221.keep K207 (ninS nST nin0)
  have F223 := Fk.keep K198 (ninS nST nin0)
  have F224 := F223.keep K201 (ninS nST nin0)
  have F225 := F224.keep K204 (ninS nST nin0)
  have F226 := F225.keep K207 (ninS nST nin0)
  have F227 := Fs.keep K198 (ninS nST nin0)
  have F228 := F227.keep K201 (ninS nST nin0)
  have F229 := F228.keep K204 (ninS nST nin0)
  have F230 := F229.keep K207 (ninS nST nin0)
  show Go p e below _ (T214.setTop (mkF m 100 #[.val (.ref x), .val (.int pp), .val (.int qq), .val (.int oo), .val (.int dd), .val (.int (5 : Int32))] [(.ref sb), (.int (9 : Int32)), (.ref t)]))
  refine g_virtual ST214 (rmSL X ST214.old F218 F222 F226 F230) (fun _ q => nomatch q) (w100 hw) (w101 hw) (w103 hw) (w102 hw) (w12 hw) (w104 hw) (by decide) (fun _ h => notFace_of_selects h) (hb hby dAD1_100) (by rw [hml]; rfl) sb F218 [] (lenOf pd1 rfl) rfl rfl (Nat.le_of_ble_eq_true rfl) (Nat.le_of_ble_eq_true rfl) (Nat.le_of_ble_eq_true rfl) (Nat.le_of_ble_eq_true rfl) ?_
  intro v231 T231 V231 h231 S231 C231 q231
  obtain ⟨rfl, rfl⟩ := q231
  show Go p e below _ (T231.setTop (mkF m 103 #[.val (.ref x), .val (.int pp), .val (.int qq), .val (.int oo), .val (.int dd), .val (.int (5 : Int32))] [(.int sc), (.int (9 : Int32)), (.ref t)]))
  show Go p e below _ (T231.setTop (mkF m 103 #[.val (.ref x), .val (.int pp), .val (.int qq), .val (.int oo), .val (.int dd), .val (.int (5 : Int32))] [(.int sc), (.int (9 : Int32)), (.ref t)]))
  refine g_iastore S231 V207 ⟨by decide, by decide⟩ 9 rfl (Nat.le_of_ble_eq_true rfl) nt (hb hby dAD1_103) ?_
  intro T232 h232 S232 K232 V232 sg232
  have V232 : Arv Z h232 t kt .int (80 : Int32) [(.int r0), (.int r1), (.int r2), (.int r3), (.int r4), (.int pp), (.int qq), (.int oo), (.int dd), (.int sc), (.int (0 : Int32)), (.int (0 : Int32)), (.int (0 : Int32)), (.int (0 : Int32)), (.int (0 : Int32))] (.int (0 : Int32)) := V232
  show Go p e below _ (T232.setTop (mkF m 104 #[.val (.ref x), .val (.int pp), .val (.int qq), .val (.int oo), .val (.int dd), .val (.int (5 : Int32))] []))
  refine s_aloadN S232 (hb hby dAD1_104) rfl rfl (pc' := 105) rfl ?_
  refine s_dup S232 (hb hby dAD1_105) rfl (pc' := 106) rfl ?_
  have F233 := Fn.keep K198 (ninS nXT nin0)
  have F234 := F233.keep K201 (ninS nXT nin0)
  have F235 := F234.keep K204 (ninS nXT nin0)
  have F236 := F235.keep K207 (ninS nXT nin0)
  have F237 := F236.keep K232 (ninS nXT nin0)
  refine g_getF S232 (w40 hw) Via.refl F237 (hb hby dAD1_106) ?_
  intro T238 ST238
  show Go p e below _ (T238.setTop (mkF m 109 #[.val (.ref x), .val (.int pp), .val (.int qq), .val (.int oo), .val (.int dd), .val (.int (5 : Int32))] [(.int (1 : Int32)), (.ref x)]))
  refine s_iconst ST238 (hb hby dAD1_109) (v := (1 : Int32)) rfl (pc' := 110) rfl ?_
  refine s_iadd ST238 (hb hby dAD1_110) (z := (2 : Int32)) rfl (pc' := 111) rfl ?_
  show Go p e below _ (T238.setTop (mkF m 111 #[.val (.ref x), .val (.int pp), .val (.int qq), .val (.int oo), .val (.int dd), .val (.int (5 : Int32))] [(.int (2 : Int32)), (.ref x)]))
  have F240 := Ex.keep K198
  have F241 := F240.keep K201
  have F242 := F241.keep K204
  have F243 := F242.keep K207
  have F244 := F243.keep K232
  have F245 := F213.keep K232 (ninS nXT nin0)
  have F246 := F208.keep K232 (ninS nXT nin0)
  refine g_putF ST238 (w40 hw) Via.refl F237 F244 (Or.inl (w41 hw)) (w2 hw) (ty := .int) (v' := (.int (2 : Int32))) (by decide) rfl rfl nx (Safe.exa ST238.warm.alike F244 (by decide) (by decide)) (hb hby dAD1_111) ?_
  intro T239 h239 S239 K239 W239 A239 F239 sg239
  have F247 := F245.other W239 (Or.inr (slot_ne (Or.inr (w31 hw)) (Or.inl (w41 hw)) (by decide) (t := (.object "java/lang/StringBuilder")) (t' := .int) (by decide) (by decide)))
  have F248 := F246.other W239 (Or.inr (slot_ne (Or.inl (w34 hw)) (Or.inl (w41 hw)) (by decide) (t := (.array .int)) (t' := .int) (by decide) (by decide)))
  show Go p e below _ (T239.setTop (mkF m 114 #[.val (.ref x), .val (.int pp), .val (.int qq), .val (.int oo), .val (.int dd), .val (.int (5 : Int32))] []))
  show Go p e below _ (T239.setTop (mkF m 114 #[.val (.ref x), .val (.int pp), .val (.int qq), .val (.int oo), .val (.int dd), .val (.int (5 : Int32))] []))
  have KA249 := (Keep.refl h [x, t])
  have KA250 := (KA249.trans K198 (allS (Or.inl (by simp)) all0))
  have KA251 := (KA250.trans K201 (allS (Or.inl (by simp)) all0))
  have KA252 := (KA251.trans K204 (allS (Or.inl (by simp)) all0))
  have KA253 := (KA252.trans K207 (allS (Or.inl (by simp)) all0))
  have KA254 := (KA253.trans K232 (allS (Or.inl (by simp)) all0))
  have KA255 : Keep h h239 [x, t] := (KA254.trans K239 (allS (Or.inl (by simp)) all0))
  have F256 := V232.keep K239 (ninS (Ne.symm nXT) nin0)
  have F257 := F218.keep K232
  have F258 := F257.keep K239
  have F259 := F222.keep K232 (ninS nST nin0)
  have F260 := F259.keep K239 (ninS (Ne.symm nXS) nin0)
  have F261 := F226.keep K232 (ninS nST nin0)
  have F262 := F261.keep K239 (ninS (Ne.symm nXS) nin0)
  have F263 := F230.keep K232 (ninS nST nin0)
  have F264 := F263.keep K239 (ninS (Ne.symm nXS) nin0)
  have F265 := Vb.keep K198 (ninS (Ne.symm nTB) nin0)
  have F266 := F265.keep K201 (ninS (Ne.symm nTB) nin0)
  have F267 := F266.keep K204 (ninS (Ne.symm nTB) nin0)
  have F268 := F267.keep K207 (ninS (Ne.symm nTB) nin0)
  have F269 := F268.keep K232 (ninS (Ne.symm nTB) nin0)
  have F270 := F269.keep K239 (ninS (Ne.symm nXB) nin0)
  exact g_ret S239 (hb hby dAD1_114) hret ⟨rfl, KA255, ⟨A239, F247, F248, F239, F256, ⟨F258, F260, F262, F264, F270⟩, nx, ns, nb, nt⟩⟩
theorem dAD2_0 : decode prog_3_method_13_code 0 = .ok (.aload_n 0, 1) := by decide +kernel
theorem dAD2_1 : decode prog_3_method_13_code 1 = .ok (.getfield 16, 3) := by decide +kernel
theorem dAD2_4 : decode prog_3_method_13_code 4 = .ok (.arraylength, 1) := by decide +kernel
theorem dAD2_5 : decode prog_3_method_13_code 5 = .ok (.aload_n 0, 1) := by decide +kernel
theorem dAD2_6 : decode prog_3_method_13_code 6 = .ok (.getfield 38, 3) := by decide +kernel
theorem dAD2_9 : decode prog_3_method_13_code 9 = .ok (.iconst 1, 1) := by decide +kernel
theorem dAD2_10 : decode prog_3_method_13_code 10 = .ok (.iadd, 1) := by decide +kernel
theorem dAD2_11 : decode prog_3_method_13_code 11 = .ok (.iconst 5, 1) := by decide +kernel
theorem dAD2_12 : decode prog_3_method_13_code 12 = .ok (.imul, 1) := by decide +kernel
theorem dAD2_13 : decode prog_3_method_13_code 13 = .ok (.if_icmp .ge 26, 3) := by decide +kernel
theorem dAD2_39 : decode prog_3_method_13_code 39 = .ok (.aload_n 0, 1) := by decide +kernel
theorem dAD2_40 : decode prog_3_method_13_code 40 = .ok (.getfield 38, 3) := by decide +kernel
theorem dAD2_43 : decode prog_3_method_13_code 43 = .ok (.iconst 5, 1) := by decide +kernel
theorem dAD2_44 : decode prog_3_method_13_code 44 = .ok (.imul, 1) := by decide +kernel
theorem dAD2_45 : decode prog_3_method_13_code 45 = .ok (.istore 5, 2) := by decide +kernel
theorem dAD2_47 : decode prog_3_method_13_code 47 = .ok (.aload_n 0, 1) := by decide +kernel
theorem dAD2_48 : decode prog_3_method_13_code 48 = .ok (.getfield 16, 3) := by decide +kernel
theorem dAD2_51 : decode prog_3_method_13_code 51 = .ok (.iload 5, 2) := by decide +kernel
theorem dAD2_53 : decode prog_3_method_13_code 53 = .ok (.iconst 0, 1) := by decide +kernel
theorem dAD2_54 : decode prog_3_method_13_code 54 = .ok (.iadd, 1) := by decide +kernel
theorem dAD2_55 : decode prog_3_method_13_code 55 = .ok (.iload_n 1, 1) := by decide +kernel
theorem dAD2_56 : decode prog_3_method_13_code 56 = .ok (.iastore, 1) := by decide +kernel
theorem dAD2_57 : decode prog_3_method_13_code 57 = .ok (.aload_n 0, 1) := by decide +kernel
theorem dAD2_58 : decode prog_3_method_13_code 58 = .ok (.getfield 16, 3) := by decide +kernel
theorem dAD2_61 : decode prog_3_method_13_code 61 = .ok (.iload 5, 2) := by decide +kernel
theorem dAD2_63 : decode prog_3_method_13_code 63 = .ok (.iconst 1, 1) := by decide +kernel
theorem dAD2_64 : decode prog_3_method_13_code 64 = .ok (.iadd, 1) := by decide +kernel
theorem dAD2_65 : decode prog_3_method_13_code 65 = .ok (.iload_n 2, 1) := by decide +kernel
theorem dAD2_66 : decode prog_3_method_13_code 66 = .ok (.iastore, 1) := by decide +kernel
theorem dAD2_67 : decode prog_3_method_13_code 67 = .ok (.aload_n 0, 1) := by decide +kernel
theorem dAD2_68 : decode prog_3_method_13_code 68 = .ok (.getfield 16, 3) := by decide +kernel
theorem dAD2_71 : decode prog_3_method_13_code 71 = .ok (.iload 5, 2) := by decide +kernel
theorem dAD2_73 : decode prog_3_method_13_code 73 = .ok (.iconst 2, 1) := by decide +kernel
theorem dAD2_74 : decode prog_3_method_13_code 74 = .ok (.iadd, 1) := by decide +kernel
theorem dAD2_75 : decode prog_3_method_13_code 75 = .ok (.iload_n 3, 1) := by decide +kernel
theorem dAD2_76 : decode prog_3_method_13_code 76 = .ok (.iastore, 1) := by decide +kernel
theorem dAD2_77 : decode prog_3_method_13_code 77 = .ok (.aload_n 0, 1) := by decide +kernel
theorem dAD2_78 : decode prog_3_method_13_code 78 = .ok (.getfield 16, 3) := by decide +kernel
theorem dAD2_81 : decode prog_3_method_13_code 81 = .ok (.iload 5, 2) := by decide +kernel
theorem dAD2_83 : decode prog_3_method_13_code 83 = .ok (.iconst 3, 1) := by decide +kernel
theorem dAD2_84 : decode prog_3_method_13_code 84 = .ok (.iadd, 1) := by decide +kernel
theorem dAD2_85 : decode prog_3_method_13_code 85 = .ok (.iload 4, 2) := by decide +kernel
theorem dAD2_87 : decode prog_3_method_13_code 87 = .ok (.iastore, 1) := by decide +kernel
theorem dAD2_88 : decode prog_3_method_13_code 88 = .ok (.aload_n 0, 1) := by decide +kernel
theorem dAD2_89 : decode prog_3_method_13_code 89 = .ok (.getfield 16, 3) := by decide +kernel
theorem dAD2_92 : decode prog_3_method_13_code 92 = .ok (.iload 5, 2) := by decide +kernel
theorem dAD2_94 : decode prog_3_method_13_code 94 = .ok (.iconst 4, 1) := by decide +kernel
theorem dAD2_95 : decode prog_3_method_13_code 95 = .ok (.iadd, 1) := by decide +kernel
theorem dAD2_96 : decode prog_3_method_13_code 96 = .ok (.aload_n 0, 1) := by decide +kernel
theorem dAD2_97 : decode prog_3_method_13_code 97 = .ok (.getfield 10, 3) := by decide +kernel
theorem dAD2_100 : decode prog_3_method_13_code 100 = .ok (.invokevirtual 31, 3) := by decide +kernel
theorem dAD2_103 : decode prog_3_method_13_code 103 = .ok (.iastore, 1) := by decide +kernel
theorem dAD2_104 : decode prog_3_method_13_code 104 = .ok (.aload_n 0, 1) := by decide +kernel
theorem dAD2_105 : decode prog_3_method_13_code 105 = .ok (.dup, 1) := by decide +kernel
theorem dAD2_106 : decode prog_3_method_13_code 106 = .ok (.getfield 38, 3) := by decide +kernel
theorem dAD2_109 : decode prog_3_method_13_code 109 = .ok (.iconst 1, 1) := by decide +kernel
theorem dAD2_110 : decode prog_3_method_13_code 110 = .ok (.iadd, 1) := by decide +kernel
theorem dAD2_111 : decode prog_3_method_13_code 111 = .ok (.putfield 38, 3) := by decide +kernel
theorem dAD2_114 : decode prog_3_method_13_code 114 = .ok (.return_, 1) := by decide +kernel
set_option maxRecDepth 65536 in
set_option maxHeartbeats 40000000 in
theorem rmAD2 {l : Launch} {Z : State} {a0 : Array Value} {n0 : Nat} (X : Ctx Z a0) {x sb tb t : Addr} {kb kt : ClassId} {bs : List Value} {sc r0 r1 r2 r3 r4 r5 r6 r7 r8 r9 : Int32} (pp qq oo dd : Int32) {h : Heap} (hO : Old Z n0 h) (A : AS Z h n0 x sb tb t kb kt (2 : Int32) (80 : Int32) [(.int r0), (.int r1), (.int r2), (.int r3), (.int r4), (.int r5), (.int r6), (.int r7), (.int r8), (.int r9), (.int (0 : Int32)), (.int (0 : Int32)), (.int (0 : Int32)), (.int (0 : Int32)), (.int (0 : Int32))] (16 : Int32) sc bs) :
    Ctr l Z EL1 n0 (⟨"com/example/nodewarden/nodewarden/core/Asides", "add", "(IIII)V"⟩ : MethodName) prog_3_method_13_code 6 none ({ frames := 2, cells := 0, slots := 0, locals := 26 } : Room) #[(.ref x), (.int pp), (.int qq), (.int oo), (.int dd)] h [] (fun v h' => v = none ∧ Keep h h' [x, t] ∧ AS Z h' n0 x sb tb t kb kt (3 : Int32) (80 : Int32) [(.int r0), (.int r1), (.int r2), (.int r3), (.int r4), (.int r5), (.int r6), (.int r7), (.int r8), (.int r9), (.int pp), (.int qq), (.int oo), (.int dd), (.int sc)] (16 : Int32) sc bs) := by
  have hw := X.hw
  obtain ⟨z1, hz1, hz2⟩ := X.2.2.1
  refine Ctr.intro (a0 := a0) (plainFor_of_name pn3) hO X.ew ?_
  intro p e s m below meth c T0 V0 S0 hby hml hret hnm hsf
  rw [ef9]
  obtain ⟨Ex, Ft, Fb, Fn, Vt, ⟨Es, Fv, Fk, Fs, Vb⟩, nx, ns, nb, nt⟩ := A
  have nXS : x ≠ sb := ne_exa Ex Es (by decide)
  have nXT : x ≠ t := Exa.neArv Ex Vt (w2 hw)
  have nXB : x ≠ tb := Exa.neArv Ex Vb (w2 hw)
  have nST : sb ≠ t := Exa.neArv Es Vt (w11 hw)
  have nSB : sb ≠ tb := Exa.neArv Es Vb (w11 hw)
  have nTB : t ≠ tb := arv_kne Vt Vb (by decide)
  show Go p e below _ (T0.setTop (mkF m 0 #[.val (.ref x), .val (.int pp), .val (.int qq), .val (.int oo), .val (.int dd), .unset] []))
  refine s_aloadN S0 (hb hby dAD2_0) rfl rfl (pc' := 1) rfl ?_
  refine g_getF S0 (w33 hw) Via.refl Fb (hb hby dAD2_1) ?_
  intro T271 ST271
  show Go p e below _ (T271.setTop (mkF m 4 #[.val (.ref x), .val (.int pp), .val (.int qq), .val (.int oo), .val (.int dd), .unset] [(.ref t)]))
  refine g_len ST271 Vt (hb hby dAD2_4) ?_
  show Go p e below _ (T271.setTop (mkF m 5 #[.val (.ref x), .val (.int pp), .val (.int qq), .val (.int oo), .val (.int dd), .unset] [(.int (80 : Int32))]))
  refine s_aloadN ST271 (hb hby dAD2_5) rfl rfl (pc' := 6) rfl ?_
  refine g_getF ST271 (w40 hw) Via.refl Fn (hb hby dAD2_6) ?_
  intro T272 ST272
  show Go p e below _ (T272.setTop (mkF m 9 #[.val (.ref x), .val (.int pp), .val (.int qq), .val (.int oo), .val (.int dd), .unset] [(.int (2 : Int32)), (.int (80 : Int32))]))
  refine s_iconst ST272 (hb hby dAD2_9) (v := (1 : Int32)) rfl (pc' := 10) rfl ?_
  refine s_iadd ST272 (hb hby dAD2_10) (z := (3 : Int32)) rfl (pc' := 11) rfl ?_
  refine s_iconst ST272 (hb hby dAD2_11) (v := (5 : Int32)) rfl (pc' := 12) rfl ?_
  refine s_imul ST272 (hb hby dAD2_12) (z := (15 : Int32)) rfl (pc' := 13) rfl ?_
  refine s_icmpY ST272 (hb hby dAD2_13) (by decide) (by decide) (pcT := 39) (by decide) ?_
  refine s_aloadN ST272 (hb hby dAD2_39) rfl rfl (pc' := 40) rfl ?_
  refine g_getF ST272 (w40 hw) Via.refl Fn (hb hby dAD2_40) ?_
  intro T273 ST273
  show Go p e below _ (T273.setTop (mkF m 43 #[.val (.ref x), .val (.int pp), .val (.int qq), .val (.int oo), .val (.int dd), .unset] [(.int (2 : Int32))]))
  refine s_iconst ST273 (hb hby dAD2_43) (v := (5 : Int32)) rfl (pc' := 44) rfl ?_
  refine s_imul ST273 (hb hby dAD2_44) (z := (10 : Int32)) rfl (pc' := 45) rfl ?_
  refine s_istore ST273 (hb hby dAD2_45) (L' := #[.val (.ref x), .val (.int pp), .val (.int qq), .val (.int oo), .val (.int dd), .val (.int (10 : Int32))]) rfl (pc' := 47) rfl ?_
  refine s_aloadN ST273 (hb hby dAD2_47) rfl rfl (pc' := 48) rfl ?_
  refine g_getF ST273 (w33 hw) Via.refl Fb (hb hby dAD2_48) ?_
  intro T274 ST274
  show Go p e below _ (T274.setTop (mkF m 51 #[.val (.ref x), .val (.int pp), .val (.int qq), .val (.int oo), .val (.int dd), .val (.int (10 : Int32))] [(.ref t)]))
  refine s_iload ST274 (hb hby dAD2_51) rfl (pc' := 53) rfl ?_
  refine s_iconst ST274 (hb hby dAD2_53) (v := (0 : Int32)) rfl (pc' := 54) rfl ?_
  refine s_iadd ST274 (hb hby dAD2_54) (z := (10 : Int32)) rfl (pc' := 55) rfl ?_
  refine s_iloadN ST274 (hb hby dAD2_55) rfl (pc' := 56) rfl ?_
  show Go p e below _ (T274.setTop (mkF m 56 #[.val (.ref x), .val (.int pp), .val (.int qq), .val (.int oo), .val (.int dd), .val (.int (10 : Int32))] [(.int pp), (.int (10 : Int32)), (.ref t)]))
  refine g_iastore ST274 Vt ⟨by decide, by decide⟩ 10 rfl (Nat.le_of_ble_eq_true rfl) nt (hb hby dAD2_56) ?_
  intro T275 h275 S275 K275 V275 sg275
  have V275 : Arv Z h275 t kt .int (80 : Int32) [(.int r0), (.int r1), (.int r2), (.int r3), (.int r4), (.int r5), (.int r6), (.int r7), (.int r8), (.int r9), (.int pp), (.int (0 : Int32)), (.int (0 : Int32)), (.int (0 : Int32)), (.int (0 : Int32))] (.int (0 : Int32)) := V275
  show Go p e below _ (T275.setTop (mkF m 57 #[.val (.ref x), .val (.int pp), .val (.int qq), .val (.int oo), .val (.int dd), .val (.int (10 : Int32))] []))
  refine s_aloadN S275 (hb hby dAD2_57) rfl rfl (pc' := 58) rfl ?_
  have F276 := Fb.keep K275 (ninS nXT nin0)
  refine g_getF S275 (w33 hw) Via.refl F276 (hb hby dAD2_58) ?_
  intro T277 ST277
  show Go p e below _ (T277.setTop (mkF m 61 #[.val (.ref x), .val (.int pp), .val (.int qq), .val (.int oo), .val (.int dd), .val (.int (10 : Int32))] [(.ref t)]))
  refine s_iload ST277 (hb hby dAD2_61) rfl (pc' := 63) rfl ?_
  refine s_iconst ST277 (hb hby dAD2_63) (v := (1 : Int32)) rfl (pc' := 64) rfl ?_
  refine s_iadd ST277 (hb hby dAD2_64) (z := (11 : Int32)) rfl (pc' := 65) rfl ?_
  refine s_iloadN ST277 (hb hby dAD2_65) rfl (pc' := 66) rfl ?_
  show Go p e below _ (T277.setTop (mkF m 66 #[.val (.ref x), .val (.int pp), .val (.int qq), .val (.int oo), .val (.int dd), .val (.int (10 : Int32))] [(.int qq), (.int (11 : Int32)), (.ref t)]))
  refine g_iastore ST277 V275 ⟨by decide, by decide⟩ 11 rfl (Nat.le_of_ble_eq_true rfl) nt (hb hby dAD2_66) ?_
  intro T278 h278 S278 K278 V278 sg278
  have V278 : Arv Z h278 t kt .int (80 : Int32) [(.int r0), (.int r1), (.int r2), (.int r3), (.int r4), (.int r5), (.int r6), (.int r7), (.int r8), (.int r9), (.int pp), (.int qq), (.int (0 : Int32)), (.int (0 : Int32)), (.int (0 : Int32))] (.int (0 : Int32)) := V278
  show Go p e below _ (T278.setTop (mkF m 67 #[.val (.ref x), .val (.int pp), .val (.int qq), .val (.int oo), .val (.int dd), .val (.int (10 : Int32))] []))
  refine s_aloadN S278 (hb hby dAD2_67) rfl rfl (pc' := 68) rfl ?_
  have F279 := F276.keep K278 (ninS nXT nin0)
  refine g_getF S278 (w33 hw) Via.refl F279 (hb hby dAD2_68) ?_
  intro T280 ST280
  show Go p e below _ (T280.setTop (mkF m 71 #[.val (.ref x), .val (.int pp), .val (.int qq), .val (.int oo), .val (.int dd), .val (.int (10 : Int32))] [(.ref t)]))
  refine s_iload ST280 (hb hby dAD2_71) rfl (pc' := 73) rfl ?_
  refine s_iconst ST280 (hb hby dAD2_73) (v := (2 : Int32)) rfl (pc' := 74) rfl ?_
  refine s_iadd ST280 (hb hby dAD2_74) (z := (12 : Int32)) rfl (pc' := 75) rfl ?_
  refine s_iloadN ST280 (hb hby dAD2_75) rfl (pc' := 76) rfl ?_
  show Go p e below _ (T280.setTop (mkF m 76 #[.val (.ref x), .val (.int pp), .val (.int qq), .val (.int oo), .val (.int dd), .val (.int (10 : Int32))] [(.int oo), (.int (12 : Int32)), (.ref t)]))
  refine g_iastore ST280 V278 ⟨by decide, by decide⟩ 12 rfl (Nat.le_of_ble_eq_true rfl) nt (hb hby dAD2_76) ?_
  intro T281 h281 S281 K281 V281 sg281
  have V281 : Arv Z h281 t kt .int (80 : Int32) [(.int r0), (.int r1), (.int r2), (.int r3), (.int r4), (.int r5), (.int r6), (.int r7), (.int r8), (.int r9), (.int pp), (.int qq), (.int oo), (.int (0 : Int32)), (.int (0 : Int32))] (.int (0 : Int32)) := V281
  show Go p e below _ (T281.setTop (mkF m 77 #[.val (.ref x), .val (.int pp), .val (.int qq), .val (.int oo), .val (.int dd), .val (.int (10 : Int32))] []))
  refine s_aloadN S281 (hb hby dAD2_77) rfl rfl (pc' := 78) rfl ?_
  have F282 := F279.keep K281 (ninS nXT nin0)
  refine g_getF S281 (w33 hw) Via.refl F282 (hb hby dAD2_78) ?_
  intro T283 ST283
  show Go p e below _ (T283.setTop (mkF m 81 #[.val (.ref x), .val (.int pp), .val (.int qq), .val (.int oo), .val (.int dd), .val (.int (10 : Int32))] [(.ref t)]))
  refine s_iload ST283 (hb hby dAD2_81) rfl (pc' := 83) rfl ?_
  refine s_iconst ST283 (hb hby dAD2_83) (v := (3 : Int32)) rfl (pc' := 84) rfl ?_
  refine s_iadd ST283 (hb hby dAD2_84) (z := (13 : Int32)) rfl (pc' := 85) rfl ?_
  refine s_iload ST283 (hb hby dAD2_85) rfl (pc' := 87) rfl ?_
  show Go p e below _ (T283.setTop (mkF m 87 #[.val (.ref x), .val (.int pp), .val (.int qq), .val (.int oo), .val (.int dd), .val (.int (10 : Int32))] [(.int dd), (.int (13 : Int32)), (.ref t)]))
  refine g_iastore ST283 V281 ⟨by decide, by decide⟩ 13 rfl (Nat.le_of_ble_eq_true rfl) nt (hb hby dAD2_87) ?_
  intro T284 h284 S284 K284 V284 sg284
  have V284 : Arv Z h284 t kt .int (80 : Int32) [(.int r0), (.int r1), (.int r2), (.int r3), (.int r4), (.int r5), (.int r6), (.int r7), (.int r8), (.int r9), (.int pp), (.int qq), (.int oo), (.int dd), (.int (0 : Int32))] (.int (0 : Int32)) := V284
  show Go p e below _ (T284.setTop (mkF m 88 #[.val (.ref x), .val (.int pp), .val (.int qq), .val (.int oo), .val (.int dd), .val (.int (10 : Int32))] []))
  refine s_aloadN S284 (hb hby dAD2_88) rfl rfl (pc' := 89) rfl ?_
  have F285 := F282.keep K284 (ninS nXT nin0)
  refine g_getF S284 (w33 hw) Via.refl F285 (hb hby dAD2_89) ?_
  intro T286 ST286
  show Go p e below _ (T286.setTop (mkF m 92 #[.val (.ref x), .val (.int pp), .val (.int qq), .val (.int oo), .val (.int dd), .val (.int (10 : Int32))] [(.ref t)]))
  refine s_iload ST286 (hb hby dAD2_92) rfl (pc' := 94) rfl ?_
  refine s_iconst ST286 (hb hby dAD2_94) (v := (4 : Int32)) rfl (pc' := 95) rfl ?_
  refine s_iadd ST286 (hb hby dAD2_95) (z := (14 : Int32)) rfl (pc' := 96) rfl ?_
  refine s_aloadN ST286 (hb hby dAD2_96) rfl rfl (pc' := 97) rfl ?_
  have F287 := Ft.keep K275 (ninS nXT nin0)
  have F288 := F287.keep K278 (ninS nXT nin0)
  have F289 := F288.keep K281 (ninS nXT nin0)
  have F290 := F289.keep K284 (ninS nXT nin0)
  refine g_getF ST286 (w30 hw) Via.refl F290 (hb hby dAD2_97) ?_
  intro T291 ST291
  show Go p e below _ (T291.setTop (mkF m 100 #[.val (.ref x), .val (.int pp), .val (.int qq), .val (.int oo), .val (.int dd), .val (.int (10 : Int32))] [(.ref sb), (.int (14 : Int32)), (.ref t)]))
  have F292 := Es.keep K275
  have F293 := F292.keep K278
  have F294 := F293.keep K281
  have F295 := F294.keep K284
  have F296 := Fv.keep K275 (ninS nST nin0)
  have F297 := F296.keep K278 (ninS nST nin0)
  have F298 := F297.keep K281 (ninS nST nin0)
  have F299 := F298.keep K284 (ninS nST nin0)
  have F300 := Fk.keep K275 (ninS nST nin0)
  have F301 := F300.keep K278 (ninS nST nin0)
  have F302 := F301.keep K281 (ninS nST nin0)
  have F303 := F302.keep K284 (ninS nST nin0)
  have F304 := Fs.keep K275 (ninS nST nin0)
  have F305 := F304.keep K278 (ninS nST nin0)
  have F306 := F305.keep K281 (ninS nST nin0)
  have F307 := F306.keep K284 (ninS nST nin0)
  show Go p e below _ (T291.setTop (mkF m 100 #[.val (.ref x), .val (.int pp), .val (.int qq), .val (.int oo), .val (.int dd), .val (.int (10 : Int32))] [(.ref sb), (.int (14 : Int32)), (.ref t)]))
  refine g_virtual ST291 (rmSL X ST291.old F295 F299 F303 F307) (fun _ q => nomatch q) (w100 hw) (w101 hw) (w103 hw) (w102 hw) (w12 hw) (w104 hw) (by decide) (fun _ h => notFace_of_selects h) (hb hby dAD2_100) (by rw [hml]; rfl) sb F295 [] (lenOf pd1 rfl) rfl rfl (Nat.le_of_ble_eq_true rfl) (Nat.le_of_ble_eq_true rfl) (Nat.le_of_ble_eq_true rfl) (Nat.le_of_ble_eq_true rfl) ?_
  intro v308 T308 V308 h308 S308 C308 q308
  obtain ⟨rfl, rfl⟩ := q308
  show Go p e below _ (T308.setTop (mkF m 103 #[.val (.ref x), .val (.int pp), .val (.int qq), .val (.int oo), .val (.int dd), .val (.int (10 : Int32))] [(.int sc), (.int (14 : Int32)), (.ref t)]))
  show Go p e below _ (T308.setTop (mkF m 103 #[.val (.ref x), .val (.int pp), .val (.int qq), .val (.int oo), .val (.int dd), .val (.int (10 : Int32))] [(.int sc), (.int (14 : Int32)), (.ref t)]))
  refine g_iastore S308 V284 ⟨by decide, by decide⟩ 14 rfl (Nat.le_of_ble_eq_true rfl) nt (hb hby dAD2_103) ?_
  intro T309 h309 S309 K309 V309 sg309
  have V309 : Arv Z h309 t kt .int (80 : Int32) [(.int r0), (.int r1), (.int r2), (.int r3), (.int r4), (.int r5), (.int r6), (.int r7), (.int r8), (.int r9), (.int pp), (.int qq), (.int oo), (.int dd), (.int sc)] (.int (0 : Int32)) := V309
  show Go p e below _ (T309.setTop (mkF m 104 #[.val (.ref x), .val (.int pp), .val (.int qq), .val (.int oo), .val (.int dd), .val (.int (10 : Int32))] []))
  refine s_aloadN S309 (hb hby dAD2_104) rfl rfl (pc' := 105) rfl ?_
  refine s_dup S309 (hb hby dAD2_105) rfl (pc' := 106) rfl ?_
  have F310 := Fn.keep K275 (ninS nXT nin0)
  have F311 := F310.keep K278 (ninS nXT nin0)
  have F312 := F311.keep K281 (ninS nXT nin0)
  have F313 := F312.keep K284 (ninS nXT nin0)
  have F314 := F313.keep K309 (ninS nXT nin0)
  refine g_getF S309 (w40 hw) Via.refl F314 (hb hby dAD2_106) ?_
  intro T315 ST315
  show Go p e below _ (T315.setTop (mkF m 109 #[.val (.ref x), .val (.int pp), .val (.int qq), .val (.int oo), .val (.int dd), .val (.int (10 : Int32))] [(.int (2 : Int32)), (.ref x)]))
  refine s_iconst ST315 (hb hby dAD2_109) (v := (1 : Int32)) rfl (pc' := 110) rfl ?_
  refine s_iadd ST315 (hb hby dAD2_110) (z := (3 : Int32)) rfl (pc' := 111) rfl ?_
  show Go p e below _ (T315.setTop (mkF m 111 #[.val (.ref x), .val (.int pp), .val (.int qq), .val (.int oo), .val (.int dd), .val (.int (10 : Int32))] [(.int (3 : Int32)), (.ref x)]))
  have F317 := Ex.keep K275
  have F318 := F317.keep K278
  have F319 := F318.keep K281
  have F320 := F319.keep K284
  have F321 := F320.keep K309
  have F322 := F290.keep K309 (ninS nXT nin0)
  have F323 := F285.keep K309 (ninS nXT nin0)
  refine g_putF ST315 (w40 hw) Via.refl F314 F321 (Or.inl (w41 hw)) (w2 hw) (ty := .int) (v' := (.int (3 : Int32))) (by decide) rfl rfl nx (Safe.exa ST315.warm.alike F321 (by decide) (by decide)) (hb hby dAD2_111) ?_
  intro T316 h316 S316 K316 W316 A316 F316 sg316
  have F324 := F322.other W316 (Or.inr (slot_ne (Or.inr (w31 hw)) (Or.inl (w41 hw)) (by decide) (t := (.object "java/lang/StringBuilder")) (t' := .int) (by decide) (by decide)))
  have F325 := F323.other W316 (Or.inr (slot_ne (Or.inl (w34 hw)) (Or.inl (w41 hw)) (by decide) (t := (.array .int)) (t' := .int) (by decide) (by decide)))
  show Go p e below _ (T316.setTop (mkF m 114 #[.val (.ref x), .val (.int pp), .val (.int qq), .val (.int oo), .val (.int dd), .val (.int (10 : Int32))] []))
  show Go p e below _ (T316.setTop (mkF m 114 #[.val (.ref x), .val (.int pp), .val (.int qq), .val (.int oo), .val (.int dd), .val (.int (10 : Int32))] []))
  have KA326 := (Keep.refl h [x, t])
  have KA327 := (KA326.trans K275 (allS (Or.inl (by simp)) all0))
  have KA328 := (KA327.trans K278 (allS (Or.inl (by simp)) all0))
  have KA329 := (KA328.trans K281 (allS (Or.inl (by simp)) all0))
  have KA330 := (KA329.trans K284 (allS (Or.inl (by simp)) all0))
  have KA331 := (KA330.trans K309 (allS (Or.inl (by simp)) all0))
  have KA332 : Keep h h316 [x, t] := (KA331.trans K316 (allS (Or.inl (by simp)) all0))
  have F333 := V309.keep K316 (ninS (Ne.symm nXT) nin0)
  have F334 := F295.keep K309
  have F335 := F334.keep K316
  have F336 := F299.keep K309 (ninS nST nin0)
  have F337 := F336.keep K316 (ninS (Ne.symm nXS) nin0)
  have F338 := F303.keep K309 (ninS nST nin0)
  have F339 := F338.keep K316 (ninS (Ne.symm nXS) nin0)
  have F340 := F307.keep K309 (ninS nST nin0)
  have F341 := F340.keep K316 (ninS (Ne.symm nXS) nin0)
  have F342 := Vb.keep K275 (ninS (Ne.symm nTB) nin0)
  have F343 := F342.keep K278 (ninS (Ne.symm nTB) nin0)
  have F344 := F343.keep K281 (ninS (Ne.symm nTB) nin0)
  have F345 := F344.keep K284 (ninS (Ne.symm nTB) nin0)
  have F346 := F345.keep K309 (ninS (Ne.symm nTB) nin0)
  have F347 := F346.keep K316 (ninS (Ne.symm nXB) nin0)
  exact g_ret S316 (hb hby dAD2_114) hret ⟨rfl, KA332, ⟨A316, F324, F325, F316, F333, ⟨F335, F337, F339, F341, F347⟩, nx, ns, nb, nt⟩⟩
theorem dAC0_0 : decode prog_3_method_2_code 0 = .ok (.aload_n 0, 1) := by decide +kernel
theorem dAC0_1 : decode prog_3_method_2_code 1 = .ok (.getfield 10, 3) := by decide +kernel
theorem dAC0_4 : decode prog_3_method_2_code 4 = .ok (.aload 4, 2) := by decide +kernel
theorem dAC0_6 : decode prog_3_method_2_code 6 = .ok (.iload 5, 2) := by decide +kernel
theorem dAC0_8 : decode prog_3_method_2_code 8 = .ok (.iload 6, 2) := by decide +kernel
theorem dAC0_10 : decode prog_3_method_2_code 10 = .ok (.invokevirtual 20, 3) := by decide +kernel
theorem dAC0_13 : decode prog_3_method_2_code 13 = .ok (.pop, 1) := by decide +kernel
theorem dAC0_14 : decode prog_3_method_2_code 14 = .ok (.aload_n 0, 1) := by decide +kernel
theorem dAC0_15 : decode prog_3_method_2_code 15 = .ok (.iload_n 1, 1) := by decide +kernel
theorem dAC0_16 : decode prog_3_method_2_code 16 = .ok (.iload_n 2, 1) := by decide +kernel
theorem dAC0_17 : decode prog_3_method_2_code 17 = .ok (.iload_n 3, 1) := by decide +kernel
theorem dAC0_18 : decode prog_3_method_2_code 18 = .ok (.iconst (-1), 1) := by decide +kernel
theorem dAC0_19 : decode prog_3_method_2_code 19 = .ok (.invokevirtual 24, 3) := by decide +kernel
theorem dAC0_22 : decode prog_3_method_2_code 22 = .ok (.return_, 1) := by decide +kernel
set_option maxRecDepth 65536 in
set_option maxHeartbeats 40000000 in
theorem rmAC0 {l : Launch} {Z : State} {a0 : Array Value} {n0 : Nat} (X : Ctx Z a0) {x sb tb t : Addr} {kb kt : ClassId} {bs : List Value} {b : Addr} {kc : ClassId} {cs : List Value} {dv : Value} (pp qq oo : Int32) {h : Heap} (hO : Old Z n0 h) (A : AS Z h n0 x sb tb t kb kt (0 : Int32) (0 : Int32) [] (16 : Int32) (0 : Int32) bs) (Vc : Arv Z h b kc .char (0 : Int32) cs dv) :
    Ctr l Z EL1 n0 (⟨"com/example/nodewarden/nodewarden/core/Asides", "addComment", "(III[CII)V"⟩ : MethodName) prog_3_method_2_code 7 none ({ frames := 4, cells := 1, slots := 80, locals := 63 } : Room) #[(.ref x), (.int pp), (.int qq), (.int oo), (.ref b), (.int (0 : Int32)), (.int (0 : Int32))] h [] (fun v h' => v = none ∧ ∃ u ku, AS Z h' n0 x sb tb u kb ku (1 : Int32) (80 : Int32) [(.int pp), (.int qq), (.int oo), (.int (-1 : Int32)), (.int (0 : Int32)), (.int (0 : Int32)), (.int (0 : Int32)), (.int (0 : Int32)), (.int (0 : Int32)), (.int (0 : Int32)), (.int (0 : Int32)), (.int (0 : Int32)), (.int (0 : Int32)), (.int (0 : Int32)), (.int (0 : Int32))] (16 : Int32) (0 : Int32) bs ∧ Arv Z h' b kc .char (0 : Int32) cs dv) := by
  have hw := X.hw
  obtain ⟨z1, hz1, hz2⟩ := X.2.2.1
  refine Ctr.intro (a0 := a0) (plainFor_of_name pn3) hO X.ew ?_
  intro p e s m below meth c T0 V0 S0 hby hml hret hnm hsf
  rw [ef10]
  obtain ⟨Ex, Ft, Fb, Fn, Vt, ⟨Es, Fv, Fk, Fs, Vb⟩, nx, ns, nb, nt⟩ := A
  have nXS : x ≠ sb := ne_exa Ex Es (by decide)
  have nXT : x ≠ t := Exa.neArv Ex Vt (w2 hw)
  have nXB : x ≠ tb := Exa.neArv Ex Vb (w2 hw)
  have nST : sb ≠ t := Exa.neArv Es Vt (w11 hw)
  have nSB : sb ≠ tb := Exa.neArv Es Vb (w11 hw)
  have nTB : t ≠ tb := arv_kne Vt Vb (by decide)
  have nXC : x ≠ b := Exa.neArv Ex Vc (w2 hw)
  have nSC : sb ≠ b := Exa.neArv Es Vc (w11 hw)
  have nTC : t ≠ b := arv_kne Vt Vc (by decide)
  show Go p e below _ (T0.setTop (mkF m 0 #[.val (.ref x), .val (.int pp), .val (.int qq), .val (.int oo), .val (.ref b), .val (.int (0 : Int32)), .val (.int (0 : Int32))] []))
  refine s_aloadN S0 (hb hby dAC0_0) rfl rfl (pc' := 1) rfl ?_
  refine g_getF S0 (w30 hw) Via.refl Ft (hb hby dAC0_1) ?_
  intro T348 ST348
  show Go p e below _ (T348.setTop (mkF m 4 #[.val (.ref x), .val (.int pp), .val (.int qq), .val (.int oo), .val (.ref b), .val (.int (0 : Int32)), .val (.int (0 : Int32))] [(.ref sb)]))
  refine s_aload ST348 (hb hby dAC0_4) rfl rfl (pc' := 6) rfl ?_
  refine s_iload ST348 (hb hby dAC0_6) rfl (pc' := 8) rfl ?_
  refine s_iload ST348 (hb hby dAC0_8) rfl (pc' := 10) rfl ?_
  show Go p e below _ (T348.setTop (mkF m 10 #[.val (.ref x), .val (.int pp), .val (.int qq), .val (.int oo), .val (.ref b), .val (.int (0 : Int32)), .val (.int (0 : Int32))] [(.int (0 : Int32)), (.int (0 : Int32)), (.ref b), (.ref sb)]))
  refine g_virtual ST348 (rmSA X ns ST348.old Es Fv Fk Fs Vc Vb) (fun _ q => nomatch q) (w51 hw) (w52 hw) (w54 hw) (w53 hw) (w12 hw) (w55 hw) (by decide) (fun _ h => notFace_of_selects h) (hb hby dAC0_10) (by rw [hml]; rfl) sb Es [(.ref b), (.int (0 : Int32)), (.int (0 : Int32))] (lenOf pd9 rfl) rfl rfl (Nat.le_of_ble_eq_true rfl) (Nat.le_of_ble_eq_true rfl) (Nat.le_of_ble_eq_true rfl) (Nat.le_of_ble_eq_true rfl) ?_
  intro v349 T349 V349 h349 S349 C349 q349
  obtain ⟨rfl, K1, E1, F1, F2, F3⟩ := q349
  show Go p e below _ (T349.setTop (mkF m 13 #[.val (.ref x), .val (.int pp), .val (.int qq), .val (.int oo), .val (.ref b), .val (.int (0 : Int32)), .val (.int (0 : Int32))] [(.ref sb)]))
  refine s_pop S349 (hb hby dAC0_13) rfl (pc' := 14) rfl ?_
  refine s_aloadN S349 (hb hby dAC0_14) rfl rfl (pc' := 15) rfl ?_
  refine s_iloadN S349 (hb hby dAC0_15) rfl (pc' := 16) rfl ?_
  refine s_iloadN S349 (hb hby dAC0_16) rfl (pc' := 17) rfl ?_
  refine s_iloadN S349 (hb hby dAC0_17) rfl (pc' := 18) rfl ?_
  refine s_iconst S349 (hb hby dAC0_18) (v := (-1 : Int32)) rfl (pc' := 19) rfl ?_
  have F350 := Ex.keep K1
  have F351 := Ft.keep K1 (ninS nXS nin0)
  have F352 := Fb.keep K1 (ninS nXS nin0)
  have F353 := Fn.keep K1 (ninS nXS nin0)
  have F354 := Vt.keep K1 (ninS (Ne.symm nST) nin0)
  have F355 := Vb.keep K1 (ninS (Ne.symm nSB) nin0)
  show Go p e below _ (T349.setTop (mkF m 19 #[.val (.ref x), .val (.int pp), .val (.int qq), .val (.int oo), .val (.ref b), .val (.int (0 : Int32)), .val (.int (0 : Int32))] [(.int (-1 : Int32)), (.int oo), (.int qq), (.int pp), (.ref x)]))
  refine g_private S349 (rmAD0 X pp qq oo (-1 : Int32) S349.old ⟨F350, F351, F352, F353, F354, ⟨E1, F1, F2, F3, F355⟩, nx, ns, nb, nt⟩) (fun _ q => nomatch q) (w84 hw) (ni_inst (w2 hw)) (w86 hw) (w85 hw) (w3 hw) (w87 hw) (by decide) (hb hby dAC0_19) (by rw [hml]; rfl) x F350 [(.int pp), (.int qq), (.int oo), (.int (-1 : Int32))] (lenOf pd10 rfl) rfl rfl (Nat.le_of_ble_eq_true rfl) (Nat.le_of_ble_eq_true rfl) (Nat.le_of_ble_eq_true rfl) (Nat.le_of_ble_eq_true rfl) ?_
  intro v356 T356 V356 h356 S356 C356 q356
  obtain ⟨rfl, u, ku, K2, A2⟩ := q356
  show Go p e below _ (T356.setTop (mkF m 22 #[.val (.ref x), .val (.int pp), .val (.int qq), .val (.int oo), .val (.ref b), .val (.int (0 : Int32)), .val (.int (0 : Int32))] []))
  show Go p e below _ (T356.setTop (mkF m 22 #[.val (.ref x), .val (.int pp), .val (.int qq), .val (.int oo), .val (.ref b), .val (.int (0 : Int32)), .val (.int (0 : Int32))] []))
  have F357 := Vc.keep K1 (ninS (Ne.symm nSC) nin0)
  have F358 := F357.keep K2 (ninS (Ne.symm nXC) nin0)
  exact g_ret S356 (hb hby dAC0_22) hret ⟨rfl, u, ku, A2, F358⟩
theorem dAC1_0 : decode prog_3_method_2_code 0 = .ok (.aload_n 0, 1) := by decide +kernel
theorem dAC1_1 : decode prog_3_method_2_code 1 = .ok (.getfield 10, 3) := by decide +kernel
theorem dAC1_4 : decode prog_3_method_2_code 4 = .ok (.aload 4, 2) := by decide +kernel
theorem dAC1_6 : decode prog_3_method_2_code 6 = .ok (.iload 5, 2) := by decide +kernel
theorem dAC1_8 : decode prog_3_method_2_code 8 = .ok (.iload 6, 2) := by decide +kernel
theorem dAC1_10 : decode prog_3_method_2_code 10 = .ok (.invokevirtual 20, 3) := by decide +kernel
theorem dAC1_13 : decode prog_3_method_2_code 13 = .ok (.pop, 1) := by decide +kernel
theorem dAC1_14 : decode prog_3_method_2_code 14 = .ok (.aload_n 0, 1) := by decide +kernel
theorem dAC1_15 : decode prog_3_method_2_code 15 = .ok (.iload_n 1, 1) := by decide +kernel
theorem dAC1_16 : decode prog_3_method_2_code 16 = .ok (.iload_n 2, 1) := by decide +kernel
theorem dAC1_17 : decode prog_3_method_2_code 17 = .ok (.iload_n 3, 1) := by decide +kernel
theorem dAC1_18 : decode prog_3_method_2_code 18 = .ok (.iconst (-1), 1) := by decide +kernel
theorem dAC1_19 : decode prog_3_method_2_code 19 = .ok (.invokevirtual 24, 3) := by decide +kernel
theorem dAC1_22 : decode prog_3_method_2_code 22 = .ok (.return_, 1) := by decide +kernel
set_option maxRecDepth 65536 in
set_option maxHeartbeats 40000000 in
theorem rmAC1 {l : Launch} {Z : State} {a0 : Array Value} {n0 : Nat} (X : Ctx Z a0) {x sb tb t : Addr} {kb kt : ClassId} {bs : List Value} {b : Addr} {kc : ClassId} {cs : List Value} {dv : Value} {r0 r1 r2 r3 r4 : Int32} (pp qq oo : Int32) {h : Heap} (hO : Old Z n0 h) (A : AS Z h n0 x sb tb t kb kt (1 : Int32) (80 : Int32) [(.int r0), (.int r1), (.int r2), (.int r3), (.int r4), (.int (0 : Int32)), (.int (0 : Int32)), (.int (0 : Int32)), (.int (0 : Int32)), (.int (0 : Int32)), (.int (0 : Int32)), (.int (0 : Int32)), (.int (0 : Int32)), (.int (0 : Int32)), (.int (0 : Int32))] (16 : Int32) (0 : Int32) bs) (Vc : Arv Z h b kc .char (0 : Int32) cs dv) :
    Ctr l Z EL1 n0 (⟨"com/example/nodewarden/nodewarden/core/Asides", "addComment", "(III[CII)V"⟩ : MethodName) prog_3_method_2_code 7 none ({ frames := 4, cells := 0, slots := 0, locals := 63 } : Room) #[(.ref x), (.int pp), (.int qq), (.int oo), (.ref b), (.int (0 : Int32)), (.int (0 : Int32))] h [] (fun v h' => v = none ∧ AS Z h' n0 x sb tb t kb kt (2 : Int32) (80 : Int32) [(.int r0), (.int r1), (.int r2), (.int r3), (.int r4), (.int pp), (.int qq), (.int oo), (.int (-1 : Int32)), (.int (0 : Int32)), (.int (0 : Int32)), (.int (0 : Int32)), (.int (0 : Int32)), (.int (0 : Int32)), (.int (0 : Int32))] (16 : Int32) (0 : Int32) bs ∧ Arv Z h' b kc .char (0 : Int32) cs dv) := by
  have hw := X.hw
  obtain ⟨z1, hz1, hz2⟩ := X.2.2.1
  refine Ctr.intro (a0 := a0) (plainFor_of_name pn3) hO X.ew ?_
  intro p e s m below meth c T0 V0 S0 hby hml hret hnm hsf
  rw [ef10]
  obtain ⟨Ex, Ft, Fb, Fn, Vt, ⟨Es, Fv, Fk, Fs, Vb⟩, nx, ns, nb, nt⟩ := A
  have nXS : x ≠ sb := ne_exa Ex Es (by decide)
  have nXT : x ≠ t := Exa.neArv Ex Vt (w2 hw)
  have nXB : x ≠ tb := Exa.neArv Ex Vb (w2 hw)
  have nST : sb ≠ t := Exa.neArv Es Vt (w11 hw)
  have nSB : sb ≠ tb := Exa.neArv Es Vb (w11 hw)
  have nTB : t ≠ tb := arv_kne Vt Vb (by decide)
  have nXC : x ≠ b := Exa.neArv Ex Vc (w2 hw)
  have nSC : sb ≠ b := Exa.neArv Es Vc (w11 hw)
  have nTC : t ≠ b := arv_kne Vt Vc (by decide)
  show Go p e below _ (T0.setTop (mkF m 0 #[.val (.ref x), .val (.int pp), .val (.int qq), .val (.int oo), .val (.ref b), .val (.int (0 : Int32)), .val (.int (0 : Int32))] []))
  refine s_aloadN S0 (hb hby dAC1_0) rfl rfl (pc' := 1) rfl ?_
  refine g_getF S0 (w30 hw) Via.refl Ft (hb hby dAC1_1) ?_
  intro T359 ST359
  show Go p e below _ (T359.setTop (mkF m 4 #[.val (.ref x), .val (.int pp), .val (.int qq), .val (.int oo), .val (.ref b), .val (.int (0 : Int32)), .val (.int (0 : Int32))] [(.ref sb)]))
  refine s_aload ST359 (hb hby dAC1_4) rfl rfl (pc' := 6) rfl ?_
  refine s_iload ST359 (hb hby dAC1_6) rfl (pc' := 8) rfl ?_
  refine s_iload ST359 (hb hby dAC1_8) rfl (pc' := 10) rfl ?_
  show Go p e below _ (T359.setTop (mkF m 10 #[.val (.ref x), .val (.int pp), .val (.int qq), .val (.int oo), .val (.ref b), .val (.int (0 : Int32)), .val (.int (0 : Int32))] [(.int (0 : Int32)), (.int (0 : Int32)), (.ref b), (.ref sb)]))
  refine g_virtual ST359 (rmSA X ns ST359.old Es Fv Fk Fs Vc Vb) (fun _ q => nomatch q) (w51 hw) (w52 hw) (w54 hw) (w53 hw) (w12 hw) (w55 hw) (by decide) (fun _ h => notFace_of_selects h) (hb hby dAC1_10) (by rw [hml]; rfl) sb Es [(.ref b), (.int (0 : Int32)), (.int (0 : Int32))] (lenOf pd9 rfl) rfl rfl (Nat.le_of_ble_eq_true rfl) (Nat.le_of_ble_eq_true rfl) (Nat.le_of_ble_eq_true rfl) (Nat.le_of_ble_eq_true rfl) ?_
  intro v360 T360 V360 h360 S360 C360 q360
  obtain ⟨rfl, K1, E1, F1, F2, F3⟩ := q360
  show Go p e below _ (T360.setTop (mkF m 13 #[.val (.ref x), .val (.int pp), .val (.int qq), .val (.int oo), .val (.ref b), .val (.int (0 : Int32)), .val (.int (0 : Int32))] [(.ref sb)]))
  refine s_pop S360 (hb hby dAC1_13) rfl (pc' := 14) rfl ?_
  refine s_aloadN S360 (hb hby dAC1_14) rfl rfl (pc' := 15) rfl ?_
  refine s_iloadN S360 (hb hby dAC1_15) rfl (pc' := 16) rfl ?_
  refine s_iloadN S360 (hb hby dAC1_16) rfl (pc' := 17) rfl ?_
  refine s_iloadN S360 (hb hby dAC1_17) rfl (pc' := 18) rfl ?_
  refine s_iconst S360 (hb hby dAC1_18) (v := (-1 : Int32)) rfl (pc' := 19) rfl ?_
  have F361 := Ex.keep K1
  have F362 := Ft.keep K1 (ninS nXS nin0)
  have F363 := Fb.keep K1 (ninS nXS nin0)
  have F364 := Fn.keep K1 (ninS nXS nin0)
  have F365 := Vt.keep K1 (ninS (Ne.symm nST) nin0)
  have F366 := Vb.keep K1 (ninS (Ne.symm nSB) nin0)
  show Go p e below _ (T360.setTop (mkF m 19 #[.val (.ref x), .val (.int pp), .val (.int qq), .val (.int oo), .val (.ref b), .val (.int (0 : Int32)), .val (.int (0 : Int32))] [(.int (-1 : Int32)), (.int oo), (.int qq), (.int pp), (.ref x)]))
  refine g_private S360 (rmAD1 X pp qq oo (-1 : Int32) S360.old ⟨F361, F362, F363, F364, F365, ⟨E1, F1, F2, F3, F366⟩, nx, ns, nb, nt⟩) (fun _ q => nomatch q) (w84 hw) (ni_inst (w2 hw)) (w86 hw) (w85 hw) (w3 hw) (w87 hw) (by decide) (hb hby dAC1_19) (by rw [hml]; rfl) x F361 [(.int pp), (.int qq), (.int oo), (.int (-1 : Int32))] (lenOf pd10 rfl) rfl rfl (Nat.le_of_ble_eq_true rfl) (Nat.le_of_ble_eq_true rfl) (Nat.le_of_ble_eq_true rfl) (Nat.le_of_ble_eq_true rfl) ?_
  intro v367 T367 V367 h367 S367 C367 q367
  obtain ⟨rfl, K2, A2⟩ := q367
  show Go p e below _ (T367.setTop (mkF m 22 #[.val (.ref x), .val (.int pp), .val (.int qq), .val (.int oo), .val (.ref b), .val (.int (0 : Int32)), .val (.int (0 : Int32))] []))
  show Go p e below _ (T367.setTop (mkF m 22 #[.val (.ref x), .val (.int pp), .val (.int qq), .val (.int oo), .val (.ref b), .val (.int (0 : Int32)), .val (.int (0 : Int32))] []))
  have F368 := Vc.keep K1 (ninS (Ne.symm nSC) nin0)
  have F369 := F368.keep K2 (ninS (Ne.symm nXC) (ninS (Ne.symm nTC) nin0))
  exact g_ret S367 (hb hby dAC1_22) hret ⟨rfl, A2, F369⟩
theorem dAC2_0 : decode prog_3_method_2_code 0 = .ok (.aload_n 0, 1) := by decide +kernel
theorem dAC2_1 : decode prog_3_method_2_code 1 = .ok (.getfield 10, 3) := by decide +kernel
theorem dAC2_4 : decode prog_3_method_2_code 4 = .ok (.aload 4, 2) := by decide +kernel
theorem dAC2_6 : decode prog_3_method_2_code 6 = .ok (.iload 5, 2) := by decide +kernel
theorem dAC2_8 : decode prog_3_method_2_code 8 = .ok (.iload 6, 2) := by decide +kernel
theorem dAC2_10 : decode prog_3_method_2_code 10 = .ok (.invokevirtual 20, 3) := by decide +kernel
theorem dAC2_13 : decode prog_3_method_2_code 13 = .ok (.pop, 1) := by decide +kernel
theorem dAC2_14 : decode prog_3_method_2_code 14 = .ok (.aload_n 0, 1) := by decide +kernel
theorem dAC2_15 : decode prog_3_method_2_code 15 = .ok (.iload_n 1, 1) := by decide +kernel
theorem dAC2_16 : decode prog_3_method_2_code 16 = .ok (.iload_n 2, 1) := by decide +kernel
theorem dAC2_17 : decode prog_3_method_2_code 17 = .ok (.iload_n 3, 1) := by decide +kernel
theorem dAC2_18 : decode prog_3_method_2_code 18 = .ok (.iconst (-1), 1) := by decide +kernel
theorem dAC2_19 : decode prog_3_method_2_code 19 = .ok (.invokevirtual 24, 3) := by decide +kernel
theorem dAC2_22 : decode prog_3_method_2_code 22 = .ok (.return_, 1) := by decide +kernel
set_option maxRecDepth 65536 in
set_option maxHeartbeats 40000000 in
theorem rmAC2 {l : Launch} {Z : State} {a0 : Array Value} {n0 : Nat} (X : Ctx Z a0) {x sb tb t : Addr} {kb kt : ClassId} {bs : List Value} {b : Addr} {kc : ClassId} {cs : List Value} {dv : Value} {r0 r1 r2 r3 r4 r5 r6 r7 r8 r9 : Int32} (pp qq oo : Int32) {h : Heap} (hO : Old Z n0 h) (A : AS Z h n0 x sb tb t kb kt (2 : Int32) (80 : Int32) [(.int r0), (.int r1), (.int r2), (.int r3), (.int r4), (.int r5), (.int r6), (.int r7), (.int r8), (.int r9), (.int (0 : Int32)), (.int (0 : Int32)), (.int (0 : Int32)), (.int (0 : Int32)), (.int (0 : Int32))] (16 : Int32) (0 : Int32) bs) (Vc : Arv Z h b kc .char (0 : Int32) cs dv) :
    Ctr l Z EL1 n0 (⟨"com/example/nodewarden/nodewarden/core/Asides", "addComment", "(III[CII)V"⟩ : MethodName) prog_3_method_2_code 7 none ({ frames := 4, cells := 0, slots := 0, locals := 63 } : Room) #[(.ref x), (.int pp), (.int qq), (.int oo), (.ref b), (.int (0 : Int32)), (.int (0 : Int32))] h [] (fun v h' => v = none ∧ AS Z h' n0 x sb tb t kb kt (3 : Int32) (80 : Int32) [(.int r0), (.int r1), (.int r2), (.int r3), (.int r4), (.int r5), (.int r6), (.int r7), (.int r8), (.int r9), (.int pp), (.int qq), (.int oo), (.int (-1 : Int32)), (.int (0 : Int32))] (16 : Int32) (0 : Int32) bs ∧ Arv Z h' b kc .char (0 : Int32) cs dv) := by
  have hw := X.hw
  obtain ⟨z1, hz1, hz2⟩ := X.2.2.1
  refine Ctr.intro (a0 := a0) (plainFor_of_name pn3) hO X.ew ?_
  intro p e s m below meth c T0 V0 S0 hby hml hret hnm hsf
  rw [ef10]
  obtain ⟨Ex, Ft, Fb, Fn, Vt, ⟨Es, Fv, Fk, Fs, Vb⟩, nx, ns, nb, nt⟩ := A
  have nXS : x ≠ sb := ne_exa Ex Es (by decide)
  have nXT : x ≠ t := Exa.neArv Ex Vt (w2 hw)
  have nXB : x ≠ tb := Exa.neArv Ex Vb (w2 hw)
  have nST : sb ≠ t := Exa.neArv Es Vt (w11 hw)
  have nSB : sb ≠ tb := Exa.neArv Es Vb (w11 hw)
  have nTB : t ≠ tb := arv_kne Vt Vb (by decide)
  have nXC : x ≠ b := Exa.neArv Ex Vc (w2 hw)
  have nSC : sb ≠ b := Exa.neArv Es Vc (w11 hw)
  have nTC : t ≠ b := arv_kne Vt Vc (by decide)
  show Go p e below _ (T0.setTop (mkF m 0 #[.val (.ref x), .val (.int pp), .val (.int qq), .val (.int oo), .val (.ref b), .val (.int (0 : Int32)), .val (.int (0 : Int32))] []))
  refine s_aloadN S0 (hb hby dAC2_0) rfl rfl (pc' := 1) rfl ?_
  refine g_getF S0 (w30 hw) Via.refl Ft (hb hby dAC2_1) ?_
  intro T370 ST370
  show Go p e below _ (T370.setTop (mkF m 4 #[.val (.ref x), .val (.int pp), .val (.int qq), .val (.int oo), .val (.ref b), .val (.int (0 : Int32)), .val (.int (0 : Int32))] [(.ref sb)]))
  refine s_aload ST370 (hb hby dAC2_4) rfl rfl (pc' := 6) rfl ?_
  refine s_iload ST370 (hb hby dAC2_6) rfl (pc' := 8) rfl ?_
  refine s_iload ST370 (hb hby dAC2_8) rfl (pc' := 10) rfl ?_
  show Go p e below _ (T370.setTop (mkF m 10 #[.val (.ref x), .val (.int pp), .val (.int qq), .val (.int oo), .val (.ref b), .val (.int (0 : Int32)), .val (.int (0 : Int32))] [(.int (0 : Int32)), (.int (0 : Int32)), (.ref b), (.ref sb)]))
  refine g_virtual ST370 (rmSA X ns ST370.old Es Fv Fk Fs Vc Vb) (fun _ q => nomatch q) (w51 hw) (w52 hw) (w54 hw) (w53 hw) (w12 hw) (w55 hw) (by decide) (fun _ h => notFace_of_selects h) (hb hby dAC2_10) (by rw [hml]; rfl) sb Es [(.ref b), (.int (0 : Int32)), (.int (0 : Int32))] (lenOf pd9 rfl) rfl rfl (Nat.le_of_ble_eq_true rfl) (Nat.le_of_ble_eq_true rfl) (Nat.le_of_ble_eq_true rfl) (Nat.le_of_ble_eq_true rfl) ?_
  intro v371 T371 V371 h371 S371 C371 q371
  obtain ⟨rfl, K1, E1, F1, F2, F3⟩ := q371
  show Go p e below _ (T371.setTop (mkF m 13 #[.val (.ref x), .val (.int pp), .val (.int qq), .val (.int oo), .val (.ref b), .val (.int (0 : Int32)), .val (.int (0 : Int32))] [(.ref sb)]))
  refine s_pop S371 (hb hby dAC2_13) rfl (pc' := 14) rfl ?_
  refine s_aloadN S371 (hb hby dAC2_14) rfl rfl (pc' := 15) rfl ?_
  refine s_iloadN S371 (hb hby dAC2_15) rfl (pc' := 16) rfl ?_
  refine s_iloadN S371 (hb hby dAC2_16) rfl (pc' := 17) rfl ?_
  refine s_iloadN S371 (hb hby dAC2_17) rfl (pc' := 18) rfl ?_
  refine s_iconst S371 (hb hby dAC2_18) (v := (-1 : Int32)) rfl (pc' := 19) rfl ?_
  have F372 := Ex.keep K1
  have F373 := Ft.keep K1 (ninS nXS nin0)
  have F374 := Fb.keep K1 (ninS nXS nin0)
  have F375 := Fn.keep K1 (ninS nXS nin0)
  have F376 := Vt.keep K1 (ninS (Ne.symm nST) nin0)
  have F377 := Vb.keep K1 (ninS (Ne.symm nSB) nin0)
  show Go p e below _ (T371.setTop (mkF m 19 #[.val (.ref x), .val (.int pp), .val (.int qq), .val (.int oo), .val (.ref b), .val (.int (0 : Int32)), .val (.int (0 : Int32))] [(.int (-1 : Int32)), (.int oo), (.int qq), (.int pp), (.ref x)]))
  refine g_private S371 (rmAD2 X pp qq oo (-1 : Int32) S371.old ⟨F372, F373, F374, F375, F376, ⟨E1, F1, F2, F3, F377⟩, nx, ns, nb, nt⟩) (fun _ q => nomatch q) (w84 hw) (ni_inst (w2 hw)) (w86 hw) (w85 hw) (w3 hw) (w87 hw) (by decide) (hb hby dAC2_19) (by rw [hml]; rfl) x F372 [(.int pp), (.int qq), (.int oo), (.int (-1 : Int32))] (lenOf pd10 rfl) rfl rfl (Nat.le_of_ble_eq_true rfl) (Nat.le_of_ble_eq_true rfl) (Nat.le_of_ble_eq_true rfl) (Nat.le_of_ble_eq_true rfl) ?_
  intro v378 T378 V378 h378 S378 C378 q378
  obtain ⟨rfl, K2, A2⟩ := q378
  show Go p e below _ (T378.setTop (mkF m 22 #[.val (.ref x), .val (.int pp), .val (.int qq), .val (.int oo), .val (.ref b), .val (.int (0 : Int32)), .val (.int (0 : Int32))] []))
  show Go p e below _ (T378.setTop (mkF m 22 #[.val (.ref x), .val (.int pp), .val (.int qq), .val (.int oo), .val (.ref b), .val (.int (0 : Int32)), .val (.int (0 : Int32))] []))
  have F379 := Vc.keep K1 (ninS (Ne.symm nSC) nin0)
  have F380 := F379.keep K2 (ninS (Ne.symm nXC) (ninS (Ne.symm nTC) nin0))
  exact g_ret S378 (hb hby dAC2_22) hret ⟨rfl, A2, F380⟩
theorem dI1_0 : decode method_3_code 0 = .ok (.iload_n 0, 1) := by decide +kernel
theorem dI1_1 : decode method_3_code 1 = .ok (.iload_n 1, 1) := by decide +kernel
theorem dI1_2 : decode method_3_code 2 = .ok (.if_icmp .lt 12, 3) := by decide +kernel
theorem dI1_5 : decode method_3_code 5 = .ok (.iload_n 0, 1) := by decide +kernel
theorem dI1_6 : decode method_3_code 6 = .ok (.iload_n 2, 1) := by decide +kernel
theorem dI1_7 : decode method_3_code 7 = .ok (.if_icmp .ge 7, 3) := by decide +kernel
theorem dI1_10 : decode method_3_code 10 = .ok (.iconst 1, 1) := by decide +kernel
theorem dI1_11 : decode method_3_code 11 = .ok (.goto 4, 3) := by decide +kernel
theorem dI1_15 : decode method_3_code 15 = .ok (.ireturn, 1) := by decide +kernel
set_option maxRecDepth 65536 in
set_option maxHeartbeats 40000000 in
theorem rmI1 {l : Launch} {Z : State} {a0 : Array Value} {n0 : Nat} (X : Ctx Z a0) {pp fi en : Int32} {h : Heap} (hO : Old Z n0 h) (h1 : ¬ pp < fi) (h2 : pp < en) :
    Ctr l Z EL1 n0 (⟨"com/example/nodewarden/nodewarden/core/AsidesAfterPinLaw", "in", "(III)Z"⟩ : MethodName) method_3_code 3 (some .boolean) ({ frames := 0, cells := 0, slots := 0, locals := 0 } : Room) #[(.int pp), (.int fi), (.int en)] h [] (fun v h' => v = some (.int 1) ∧ h' = h) := by
  have hw := X.hw
  obtain ⟨z1, hz1, hz2⟩ := X.2.2.1
  refine Ctr.intro (a0 := a0) (plainFor_of_name pn5) hO X.ew ?_
  intro p e s m below meth c T0 V0 S0 hby hml hret hnm hsf
  rw [ef11]
  refine s_iloadN S0 (hb hby dI1_0) rfl (pc' := 1) rfl ?_
  refine s_iloadN S0 (hb hby dI1_1) rfl (pc' := 2) rfl ?_
  refine g_icmp S0 (hb hby dI1_2) (by decide) (pcT := 14) (by decide) (fun q => ?_) (fun q => ?_)
  · have hc2_381 : pp < fi := icT_lt q
    exact absurd hc2_381 h1
  · have hc2_381 : ¬ pp < fi := icF_lt q
    show Go p e below _ (T0.setTop (mkF m 5 #[.val (.int pp), .val (.int fi), .val (.int en)] []))
    refine s_iloadN S0 (hb hby dI1_5) rfl (pc' := 6) rfl ?_
    refine s_iloadN S0 (hb hby dI1_6) rfl (pc' := 7) rfl ?_
    refine g_icmp S0 (hb hby dI1_7) (by decide) (pcT := 14) (by decide) (fun q => ?_) (fun q => ?_)
    · have hc7_382 : ¬ pp < en := icT_ge q
      exact absurd h2 hc7_382
    · have hc7_382 : pp < en := icF_ge q
      show Go p e below _ (T0.setTop (mkF m 10 #[.val (.int pp), .val (.int fi), .val (.int en)] []))
      refine s_iconst S0 (hb hby dI1_10) (v := (1 : Int32)) rfl (pc' := 11) rfl ?_
      refine s_goto S0 (hb hby dI1_11) (by decide) (pcT := 15) (by decide) ?_
      exact g_iretN S0 (hb hby dI1_15) hret (by simp) ⟨rfl, rfl⟩
theorem dI0_0 : decode method_3_code 0 = .ok (.iload_n 0, 1) := by decide +kernel
theorem dI0_1 : decode method_3_code 1 = .ok (.iload_n 1, 1) := by decide +kernel
theorem dI0_2 : decode method_3_code 2 = .ok (.if_icmp .lt 12, 3) := by decide +kernel
theorem dI0_5 : decode method_3_code 5 = .ok (.iload_n 0, 1) := by decide +kernel
theorem dI0_6 : decode method_3_code 6 = .ok (.iload_n 2, 1) := by decide +kernel
theorem dI0_7 : decode method_3_code 7 = .ok (.if_icmp .ge 7, 3) := by decide +kernel
theorem dI0_14 : decode method_3_code 14 = .ok (.iconst 0, 1) := by decide +kernel
theorem dI0_15 : decode method_3_code 15 = .ok (.ireturn, 1) := by decide +kernel
set_option maxRecDepth 65536 in
set_option maxHeartbeats 40000000 in
theorem rmI0 {l : Launch} {Z : State} {a0 : Array Value} {n0 : Nat} (X : Ctx Z a0) {pp fi en : Int32} {h : Heap} (hO : Old Z n0 h) (hh : pp < fi ∨ ¬ pp < en) :
    Ctr l Z EL1 n0 (⟨"com/example/nodewarden/nodewarden/core/AsidesAfterPinLaw", "in", "(III)Z"⟩ : MethodName) method_3_code 3 (some .boolean) ({ frames := 0, cells := 0, slots := 0, locals := 0 } : Room) #[(.int pp), (.int fi), (.int en)] h [] (fun v h' => v = some (.int 0) ∧ h' = h) := by
  have hw := X.hw
  obtain ⟨z1, hz1, hz2⟩ := X.2.2.1
  refine Ctr.intro (a0 := a0) (plainFor_of_name pn5) hO X.ew ?_
  intro p e s m below meth c T0 V0 S0 hby hml hret hnm hsf
  rw [ef11]
  refine s_iloadN S0 (hb hby dI0_0) rfl (pc' := 1) rfl ?_
  refine s_iloadN S0 (hb hby dI0_1) rfl (pc' := 2) rfl ?_
  refine g_icmp S0 (hb hby dI0_2) (by decide) (pcT := 14) (by decide) (fun q => ?_) (fun q => ?_)
  · have hc2_383 : pp < fi := icT_lt q
    show Go p e below _ (T0.setTop (mkF m 14 #[.val (.int pp), .val (.int fi), .val (.int en)] []))
    refine s_iconst S0 (hb hby dI0_14) (v := (0 : Int32)) rfl (pc' := 15) rfl ?_
    exact g_iretN S0 (hb hby dI0_15) hret (by simp) ⟨rfl, rfl⟩
  · have hc2_383 : ¬ pp < fi := icF_lt q
    show Go p e below _ (T0.setTop (mkF m 5 #[.val (.int pp), .val (.int fi), .val (.int en)] []))
    refine s_iloadN S0 (hb hby dI0_5) rfl (pc' := 6) rfl ?_
    refine s_iloadN S0 (hb hby dI0_6) rfl (pc' := 7) rfl ?_
    refine g_icmp S0 (hb hby dI0_7) (by decide) (pcT := 14) (by decide) (fun q => ?_) (fun q => ?_)
    · have hc7_384 : ¬ pp < en := icT_ge q
      show Go p e below _ (T0.setTop (mkF m 14 #[.val (.int pp), .val (.int fi), .val (.int en)] []))
      refine s_iconst S0 (hb hby dI0_14) (v := (0 : Int32)) rfl (pc' := 15) rfl ?_
      exact g_iretN S0 (hb hby dI0_15) hret (by simp) ⟨rfl, rfl⟩
    · have hc7_384 : pp < en := icF_ge q
      exact hh.elim (fun q => absurd q hc2_383) (fun q => absurd hc7_384 q)
theorem dAF00_0 : decode prog_3_method_6_code 0 = .ok (.iload_n 1, 1) := by decide +kernel
theorem dAF00_1 : decode prog_3_method_6_code 1 = .ok (.istore 4, 2) := by decide +kernel
theorem dAF00_3 : decode prog_3_method_6_code 3 = .ok (.iload 4, 2) := by decide +kernel
theorem dAF00_5 : decode prog_3_method_6_code 5 = .ok (.aload_n 0, 1) := by decide +kernel
theorem dAF00_6 : decode prog_3_method_6_code 6 = .ok (.getfield 38, 3) := by decide +kernel
theorem dAF00_9 : decode prog_3_method_6_code 9 = .ok (.if_icmp .ge 39, 3) := by decide +kernel
theorem dAF00_48 : decode prog_3_method_6_code 48 = .ok (.iload 4, 2) := by decide +kernel
theorem dAF00_50 : decode prog_3_method_6_code 50 = .ok (.ireturn, 1) := by decide +kernel
set_option maxRecDepth 65536 in
set_option maxHeartbeats 40000000 in
theorem rmAF00 {l : Launch} {Z : State} {a0 : Array Value} {n0 : Nat} (X : Ctx Z a0) {x sb tb t : Addr} {kb kt : ClassId} {bs : List Value} {fi en : Int32} {h : Heap} (hO : Old Z n0 h) (A : AS Z h n0 x sb tb t kb kt (0 : Int32) (0 : Int32) [] (16 : Int32) (0 : Int32) bs) :
    Ctr l Z EL1 n0 (⟨"com/example/nodewarden/nodewarden/core/Asides", "after", "(III)I"⟩ : MethodName) prog_3_method_6_code 5 (some .int) ({ frames := 0, cells := 0, slots := 0, locals := 0 } : Room) #[(.ref x), (.int (0 : Int32)), (.int fi), (.int en)] h [] (fun v h' => ∃ r : Int32, v = some (.int r) ∧ ((r = (0 : Int32) ∧ True)) ∧ h' = h) := by
  have hw := X.hw
  obtain ⟨z1, hz1, hz2⟩ := X.2.2.1
  refine Ctr.intro (a0 := a0) (plainFor_of_name pn3) hO X.ew ?_
  intro p e s m below meth c T0 V0 S0 hby hml hret hnm hsf
  rw [ef12]
  obtain ⟨Ex, Ft, Fb, Fn, Vt, ⟨Es, Fv, Fk, Fs, Vb⟩, nx, ns, nb, nt⟩ := A
  have nXS : x ≠ sb := ne_exa Ex Es (by decide)
  have nXT : x ≠ t := Exa.neArv Ex Vt (w2 hw)
  have nXB : x ≠ tb := Exa.neArv Ex Vb (w2 hw)
  have nST : sb ≠ t := Exa.neArv Es Vt (w11 hw)
  have nSB : sb ≠ tb := Exa.neArv Es Vb (w11 hw)
  have nTB : t ≠ tb := arv_kne Vt Vb (by decide)
  show Go p e below _ (T0.setTop (mkF m 0 #[.val (.ref x), .val (.int (0 : Int32)), .val (.int fi), .val (.int en), .unset] []))
  refine s_iloadN S0 (hb hby dAF00_0) rfl (pc' := 1) rfl ?_
  refine s_istore S0 (hb hby dAF00_1) (L' := #[.val (.ref x), .val (.int (0 : Int32)), .val (.int fi), .val (.int en), .val (.int (0 : Int32))]) rfl (pc' := 3) rfl ?_
  refine s_iload S0 (hb hby dAF00_3) rfl (pc' := 5) rfl ?_
  refine s_aloadN S0 (hb hby dAF00_5) rfl rfl (pc' := 6) rfl ?_
  refine g_getF S0 (w40 hw) Via.refl Fn (hb hby dAF00_6) ?_
  intro T385 ST385
  show Go p e below _ (T385.setTop (mkF m 9 #[.val (.ref x), .val (.int (0 : Int32)), .val (.int fi), .val (.int en), .val (.int (0 : Int32))] [(.int (0 : Int32)), (.int (0 : Int32))]))
  refine s_icmpY ST385 (hb hby dAF00_9) (by decide) (by decide) (pcT := 48) (by decide) ?_
  refine s_iload ST385 (hb hby dAF00_48) rfl (pc' := 50) rfl ?_
  show Go p e below _ (T385.setTop (mkF m 50 #[.val (.ref x), .val (.int (0 : Int32)), .val (.int fi), .val (.int en), .val (.int (0 : Int32))] [(.int (0 : Int32))]))
  exact g_iret ST385 (hb hby dAF00_50) hret ⟨_, rfl, ⟨rfl, trivial⟩, rfl⟩
theorem dAF01_0 : decode prog_3_method_6_code 0 = .ok (.iload_n 1, 1) := by decide +kernel
theorem dAF01_1 : decode prog_3_method_6_code 1 = .ok (.istore 4, 2) := by decide +kernel
theorem dAF01_3 : decode prog_3_method_6_code 3 = .ok (.iload 4, 2) := by decide +kernel
theorem dAF01_5 : decode prog_3_method_6_code 5 = .ok (.aload_n 0, 1) := by decide +kernel
theorem dAF01_6 : decode prog_3_method_6_code 6 = .ok (.getfield 38, 3) := by decide +kernel
theorem dAF01_9 : decode prog_3_method_6_code 9 = .ok (.if_icmp .ge 39, 3) := by decide +kernel
theorem dAF01_48 : decode prog_3_method_6_code 48 = .ok (.iload 4, 2) := by decide +kernel
theorem dAF01_50 : decode prog_3_method_6_code 50 = .ok (.ireturn, 1) := by decide +kernel
set_option maxRecDepth 65536 in
set_option maxHeartbeats 40000000 in
theorem rmAF01 {l : Launch} {Z : State} {a0 : Array Value} {n0 : Nat} (X : Ctx Z a0) {x sb tb t : Addr} {kb kt : ClassId} {bs : List Value} {fi en : Int32} {h : Heap} (hO : Old Z n0 h) (A : AS Z h n0 x sb tb t kb kt (0 : Int32) (0 : Int32) [] (16 : Int32) (0 : Int32) bs) :
    Ctr l Z EL1 n0 (⟨"com/example/nodewarden/nodewarden/core/Asides", "after", "(III)I"⟩ : MethodName) prog_3_method_6_code 5 (some .int) ({ frames := 0, cells := 0, slots := 0, locals := 0 } : Room) #[(.ref x), (.int (1 : Int32)), (.int fi), (.int en)] h [] (fun v h' => ∃ r : Int32, v = some (.int r) ∧ ((r = (1 : Int32) ∧ True)) ∧ h' = h) := by
  have hw := X.hw
  obtain ⟨z1, hz1, hz2⟩ := X.2.2.1
  refine Ctr.intro (a0 := a0) (plainFor_of_name pn3) hO X.ew ?_
  intro p e s m below meth c T0 V0 S0 hby hml hret hnm hsf
  rw [ef12]
  obtain ⟨Ex, Ft, Fb, Fn, Vt, ⟨Es, Fv, Fk, Fs, Vb⟩, nx, ns, nb, nt⟩ := A
  have nXS : x ≠ sb := ne_exa Ex Es (by decide)
  have nXT : x ≠ t := Exa.neArv Ex Vt (w2 hw)
  have nXB : x ≠ tb := Exa.neArv Ex Vb (w2 hw)
  have nST : sb ≠ t := Exa.neArv Es Vt (w11 hw)
  have nSB : sb ≠ tb := Exa.neArv Es Vb (w11 hw)
  have nTB : t ≠ tb := arv_kne Vt Vb (by decide)
  show Go p e below _ (T0.setTop (mkF m 0 #[.val (.ref x), .val (.int (1 : Int32)), .val (.int fi), .val (.int en), .unset] []))
  refine s_iloadN S0 (hb hby dAF01_0) rfl (pc' := 1) rfl ?_
  refine s_istore S0 (hb hby dAF01_1) (L' := #[.val (.ref x), .val (.int (1 : Int32)), .val (.int fi), .val (.int en), .val (.int (1 : Int32))]) rfl (pc' := 3) rfl ?_
  refine s_iload S0 (hb hby dAF01_3) rfl (pc' := 5) rfl ?_
  refine s_aloadN S0 (hb hby dAF01_5) rfl rfl (pc' := 6) rfl ?_
  refine g_getF S0 (w40 hw) Via.refl Fn (hb hby dAF01_6) ?_
  intro T386 ST386
  show Go p e below _ (T386.setTop (mkF m 9 #[.val (.ref x), .val (.int (1 : Int32)), .val (.int fi), .val (.int en), .val (.int (1 : Int32))] [(.int (0 : Int32)), (.int (1 : Int32))]))
  refine s_icmpY ST386 (hb hby dAF01_9) (by decide) (by decide) (pcT := 48) (by decide) ?_
  refine s_iload ST386 (hb hby dAF01_48) rfl (pc' := 50) rfl ?_
  show Go p e below _ (T386.setTop (mkF m 50 #[.val (.ref x), .val (.int (1 : Int32)), .val (.int fi), .val (.int en), .val (.int (1 : Int32))] [(.int (1 : Int32))]))
  exact g_iret ST386 (hb hby dAF01_50) hret ⟨_, rfl, ⟨rfl, trivial⟩, rfl⟩
theorem dAF02_0 : decode prog_3_method_6_code 0 = .ok (.iload_n 1, 1) := by decide +kernel
theorem dAF02_1 : decode prog_3_method_6_code 1 = .ok (.istore 4, 2) := by decide +kernel
theorem dAF02_3 : decode prog_3_method_6_code 3 = .ok (.iload 4, 2) := by decide +kernel
theorem dAF02_5 : decode prog_3_method_6_code 5 = .ok (.aload_n 0, 1) := by decide +kernel
theorem dAF02_6 : decode prog_3_method_6_code 6 = .ok (.getfield 38, 3) := by decide +kernel
theorem dAF02_9 : decode prog_3_method_6_code 9 = .ok (.if_icmp .ge 39, 3) := by decide +kernel
theorem dAF02_48 : decode prog_3_method_6_code 48 = .ok (.iload 4, 2) := by decide +kernel
theorem dAF02_50 : decode prog_3_method_6_code 50 = .ok (.ireturn, 1) := by decide +kernel
set_option maxRecDepth 65536 in
set_option maxHeartbeats 40000000 in
theorem rmAF02 {l : Launch} {Z : State} {a0 : Array Value} {n0 : Nat} (X : Ctx Z a0) {x sb tb t : Addr} {kb kt : ClassId} {bs : List Value} {fi en : Int32} {h : Heap} (hO : Old Z n0 h) (A : AS Z h n0 x sb tb t kb kt (0 : Int32) (0 : Int32) [] (16 : Int32) (0 : Int32) bs) :
    Ctr l Z EL1 n0 (⟨"com/example/nodewarden/nodewarden/core/Asides", "after", "(III)I"⟩ : MethodName) prog_3_method_6_code 5 (some .int) ({ frames := 0, cells := 0, slots := 0, locals := 0 } : Room) #[(.ref x), (.int (2 : Int32)), (.int fi), (.int en)] h [] (fun v h' => ∃ r : Int32, v = some (.int r) ∧ ((r = (2 : Int32) ∧ True)) ∧ h' = h) := by
  have hw := X.hw
  obtain ⟨z1, hz1, hz2⟩ := X.2.2.1
  refine Ctr.intro (a0 := a0) (plainFor_of_name pn3) hO X.ew ?_
  intro p e s m below meth c T0 V0 S0 hby hml hret hnm hsf
  rw [ef12]
  obtain ⟨Ex, Ft, Fb, Fn, Vt, ⟨Es, Fv, Fk, Fs, Vb⟩, nx, ns, nb, nt⟩ := A
  have nXS : x ≠ sb := ne_exa Ex Es (by decide)
  have nXT : x ≠ t := Exa.neArv Ex Vt (w2 hw)
  have nXB : x ≠ tb := Exa.neArv Ex Vb (w2 hw)
  have nST : sb ≠ t := Exa.neArv Es Vt (w11 hw)
  have nSB : sb ≠ tb := Exa.neArv Es Vb (w11 hw)
  have nTB : t ≠ tb := arv_kne Vt Vb (by decide)
  show Go p e below _ (T0.setTop (mkF m 0 #[.val (.ref x), .val (.int (2 : Int32)), .val (.int fi), .val (.int en), .unset] []))
  refine s_iloadN S0 (hb hby dAF02_0) rfl (pc' := 1) rfl ?_
  refine s_istore S0 (hb hby dAF02_1) (L' := #[.val (.ref x), .val (.int (2 : Int32)), .val (.int fi), .val (.int en), .val (.int (2 : Int32))]) rfl (pc' := 3) rfl ?_
  refine s_iload S0 (hb hby dAF02_3) rfl (pc' := 5) rfl ?_
  refine s_aloadN S0 (hb hby dAF02_5) rfl rfl (pc' := 6) rfl ?_
  refine g_getF S0 (w40 hw) Via.refl Fn (hb hby dAF02_6) ?_
  intro T387 ST387
  show Go p e below _ (T387.setTop (mkF m 9 #[.val (.ref x), .val (.int (2 : Int32)), .val (.int fi), .val (.int en), .val (.int (2 : Int32))] [(.int (0 : Int32)), (.int (2 : Int32))]))
  refine s_icmpY ST387 (hb hby dAF02_9) (by decide) (by decide) (pcT := 48) (by decide) ?_
  refine s_iload ST387 (hb hby dAF02_48) rfl (pc' := 50) rfl ?_
  show Go p e below _ (T387.setTop (mkF m 50 #[.val (.ref x), .val (.int (2 : Int32)), .val (.int fi), .val (.int en), .val (.int (2 : Int32))] [(.int (2 : Int32))]))
  exact g_iret ST387 (hb hby dAF02_50) hret ⟨_, rfl, ⟨rfl, trivial⟩, rfl⟩
theorem dAF03_0 : decode prog_3_method_6_code 0 = .ok (.iload_n 1, 1) := by decide +kernel
theorem dAF03_1 : decode prog_3_method_6_code 1 = .ok (.istore 4, 2) := by decide +kernel
theorem dAF03_3 : decode prog_3_method_6_code 3 = .ok (.iload 4, 2) := by decide +kernel
theorem dAF03_5 : decode prog_3_method_6_code 5 = .ok (.aload_n 0, 1) := by decide +kernel
theorem dAF03_6 : decode prog_3_method_6_code 6 = .ok (.getfield 38, 3) := by decide +kernel
theorem dAF03_9 : decode prog_3_method_6_code 9 = .ok (.if_icmp .ge 39, 3) := by decide +kernel
theorem dAF03_48 : decode prog_3_method_6_code 48 = .ok (.iload 4, 2) := by decide +kernel
theorem dAF03_50 : decode prog_3_method_6_code 50 = .ok (.ireturn, 1) := by decide +kernel
set_option maxRecDepth 65536 in
set_option maxHeartbeats 40000000 in
theorem rmAF03 {l : Launch} {Z : State} {a0 : Array Value} {n0 : Nat} (X : Ctx Z a0) {x sb tb t : Addr} {kb kt : ClassId} {bs : List Value} {fi en : Int32} {h : Heap} (hO : Old Z n0 h) (A : AS Z h n0 x sb tb t kb kt (0 : Int32) (0 : Int32) [] (16 : Int32) (0 : Int32) bs) :
    Ctr l Z EL1 n0 (⟨"com/example/nodewarden/nodewarden/core/Asides", "after", "(III)I"⟩ : MethodName) prog_3_method_6_code 5 (some .int) ({ frames := 0, cells := 0, slots := 0, locals := 0 } : Room) #[(.ref x), (.int (3 : Int32)), (.int fi), (.int en)] h [] (fun v h' => ∃ r : Int32, v = some (.int r) ∧ ((r = (3 : Int32) ∧ True)) ∧ h' = h) := by
  have hw := X.hw
  obtain ⟨z1, hz1, hz2⟩ := X.2.2.1
  refine Ctr.intro (a0 := a0) (plainFor_of_name pn3) hO X.ew ?_
  intro p e s m below meth c T0 V0 S0 hby hml hret hnm hsf
  rw [ef12]
  obtain ⟨Ex, Ft, Fb, Fn, Vt, ⟨Es, Fv, Fk, Fs, Vb⟩, nx, ns, nb, nt⟩ := A
  have nXS : x ≠ sb := ne_exa Ex Es (by decide)
  have nXT : x ≠ t := Exa.neArv Ex Vt (w2 hw)
  have nXB : x ≠ tb := Exa.neArv Ex Vb (w2 hw)
  have nST : sb ≠ t := Exa.neArv Es Vt (w11 hw)
  have nSB : sb ≠ tb := Exa.neArv Es Vb (w11 hw)
  have nTB : t ≠ tb := arv_kne Vt Vb (by decide)
  show Go p e below _ (T0.setTop (mkF m 0 #[.val (.ref x), .val (.int (3 : Int32)), .val (.int fi), .val (.int en), .unset] []))
  refine s_iloadN S0 (hb hby dAF03_0) rfl (pc' := 1) rfl ?_
  refine s_istore S0 (hb hby dAF03_1) (L' := #[.val (.ref x), .val (.int (3 : Int32)), .val (.int fi), .val (.int en), .val (.int (3 : Int32))]) rfl (pc' := 3) rfl ?_
  refine s_iload S0 (hb hby dAF03_3) rfl (pc' := 5) rfl ?_
  refine s_aloadN S0 (hb hby dAF03_5) rfl rfl (pc' := 6) rfl ?_
  refine g_getF S0 (w40 hw) Via.refl Fn (hb hby dAF03_6) ?_
  intro T388 ST388
  show Go p e below _ (T388.setTop (mkF m 9 #[.val (.ref x), .val (.int (3 : Int32)), .val (.int fi), .val (.int en), .val (.int (3 : Int32))] [(.int (0 : Int32)), (.int (3 : Int32))]))
  refine s_icmpY ST388 (hb hby dAF03_9) (by decide) (by decide) (pcT := 48) (by decide) ?_
  refine s_iload ST388 (hb hby dAF03_48) rfl (pc' := 50) rfl ?_
  show Go p e below _ (T388.setTop (mkF m 50 #[.val (.ref x), .val (.int (3 : Int32)), .val (.int fi), .val (.int en), .val (.int (3 : Int32))] [(.int (3 : Int32))]))
  exact g_iret ST388 (hb hby dAF03_50) hret ⟨_, rfl, ⟨rfl, trivial⟩, rfl⟩
theorem dAF04_0 : decode prog_3_method_6_code 0 = .ok (.iload_n 1, 1) := by decide +kernel
theorem dAF04_1 : decode prog_3_method_6_code 1 = .ok (.istore 4, 2) := by decide +kernel
theorem dAF04_3 : decode prog_3_method_6_code 3 = .ok (.iload 4, 2) := by decide +kernel
theorem dAF04_5 : decode prog_3_method_6_code 5 = .ok (.aload_n 0, 1) := by decide +kernel
theorem dAF04_6 : decode prog_3_method_6_code 6 = .ok (.getfield 38, 3) := by decide +kernel
theorem dAF04_9 : decode prog_3_method_6_code 9 = .ok (.if_icmp .ge 39, 3) := by decide +kernel
theorem dAF04_48 : decode prog_3_method_6_code 48 = .ok (.iload 4, 2) := by decide +kernel
theorem dAF04_50 : decode prog_3_method_6_code 50 = .ok (.ireturn, 1) := by decide +kernel
set_option maxRecDepth 65536 in
set_option maxHeartbeats 40000000 in
theorem rmAF04 {l : Launch} {Z : State} {a0 : Array Value} {n0 : Nat} (X : Ctx Z a0) {x sb tb t : Addr} {kb kt : ClassId} {bs : List Value} {fi en : Int32} {h : Heap} (hO : Old Z n0 h) (A : AS Z h n0 x sb tb t kb kt (0 : Int32) (0 : Int32) [] (16 : Int32) (0 : Int32) bs) :
    Ctr l Z EL1 n0 (⟨"com/example/nodewarden/nodewarden/core/Asides", "after", "(III)I"⟩ : MethodName) prog_3_method_6_code 5 (some .int) ({ frames := 0, cells := 0, slots := 0, locals := 0 } : Room) #[(.ref x), (.int (4 : Int32)), (.int fi), (.int en)] h [] (fun v h' => ∃ r : Int32, v = some (.int r) ∧ ((r = (4 : Int32) ∧ True)) ∧ h' = h) := by
  have hw := X.hw
  obtain ⟨z1, hz1, hz2⟩ := X.2.2.1
  refine Ctr.intro (a0 := a0) (plainFor_of_name pn3) hO X.ew ?_
  intro p e s m below meth c T0 V0 S0 hby hml hret hnm hsf
  rw [ef12]
  obtain ⟨Ex, Ft, Fb, Fn, Vt, ⟨Es, Fv, Fk, Fs, Vb⟩, nx, ns, nb, nt⟩ := A
  have nXS : x ≠ sb := ne_exa Ex Es (by decide)
  have nXT : x ≠ t := Exa.neArv Ex Vt (w2 hw)
  have nXB : x ≠ tb := Exa.neArv Ex Vb (w2 hw)
  have nST : sb ≠ t := Exa.neArv Es Vt (w11 hw)
  have nSB : sb ≠ tb := Exa.neArv Es Vb (w11 hw)
  have nTB : t ≠ tb := arv_kne Vt Vb (by decide)
  show Go p e below _ (T0.setTop (mkF m 0 #[.val (.ref x), .val (.int (4 : Int32)), .val (.int fi), .val (.int en), .unset] []))
  refine s_iloadN S0 (hb hby dAF04_0) rfl (pc' := 1) rfl ?_
  refine s_istore S0 (hb hby dAF04_1) (L' := #[.val (.ref x), .val (.int (4 : Int32)), .val (.int fi), .val (.int en), .val (.int (4 : Int32))]) rfl (pc' := 3) rfl ?_
  refine s_iload S0 (hb hby dAF04_3) rfl (pc' := 5) rfl ?_
  refine s_aloadN S0 (hb hby dAF04_5) rfl rfl (pc' := 6) rfl ?_
  refine g_getF S0 (w40 hw) Via.refl Fn (hb hby dAF04_6) ?_
  intro T389 ST389
  show Go p e below _ (T389.setTop (mkF m 9 #[.val (.ref x), .val (.int (4 : Int32)), .val (.int fi), .val (.int en), .val (.int (4 : Int32))] [(.int (0 : Int32)), (.int (4 : Int32))]))
  refine s_icmpY ST389 (hb hby dAF04_9) (by decide) (by decide) (pcT := 48) (by decide) ?_
  refine s_iload ST389 (hb hby dAF04_48) rfl (pc' := 50) rfl ?_
  show Go p e below _ (T389.setTop (mkF m 50 #[.val (.ref x), .val (.int (4 : Int32)), .val (.int fi), .val (.int en), .val (.int (4 : Int32))] [(.int (4 : Int32))]))
  exact g_iret ST389 (hb hby dAF04_50) hret ⟨_, rfl, ⟨rfl, trivial⟩, rfl⟩
theorem dAF10_0 : decode prog_3_method_6_code 0 = .ok (.iload_n 1, 1) := by decide +kernel
theorem dAF10_1 : decode prog_3_method_6_code 1 = .ok (.istore 4, 2) := by decide +kernel
theorem dAF10_3 : decode prog_3_method_6_code 3 = .ok (.iload 4, 2) := by decide +kernel
theorem dAF10_5 : decode prog_3_method_6_code 5 = .ok (.aload_n 0, 1) := by decide +kernel
theorem dAF10_6 : decode prog_3_method_6_code 6 = .ok (.getfield 38, 3) := by decide +kernel
theorem dAF10_9 : decode prog_3_method_6_code 9 = .ok (.if_icmp .ge 39, 3) := by decide +kernel
theorem dAF10_12 : decode prog_3_method_6_code 12 = .ok (.aload_n 0, 1) := by decide +kernel
theorem dAF10_13 : decode prog_3_method_6_code 13 = .ok (.getfield 16, 3) := by decide +kernel
theorem dAF10_16 : decode prog_3_method_6_code 16 = .ok (.iload 4, 2) := by decide +kernel
theorem dAF10_18 : decode prog_3_method_6_code 18 = .ok (.iconst 5, 1) := by decide +kernel
theorem dAF10_19 : decode prog_3_method_6_code 19 = .ok (.imul, 1) := by decide +kernel
theorem dAF10_20 : decode prog_3_method_6_code 20 = .ok (.iconst 0, 1) := by decide +kernel
theorem dAF10_21 : decode prog_3_method_6_code 21 = .ok (.iadd, 1) := by decide +kernel
theorem dAF10_22 : decode prog_3_method_6_code 22 = .ok (.iaload, 1) := by decide +kernel
theorem dAF10_23 : decode prog_3_method_6_code 23 = .ok (.iload_n 2, 1) := by decide +kernel
theorem dAF10_24 : decode prog_3_method_6_code 24 = .ok (.if_icmp .lt 24, 3) := by decide +kernel
theorem dAF10_27 : decode prog_3_method_6_code 27 = .ok (.aload_n 0, 1) := by decide +kernel
theorem dAF10_28 : decode prog_3_method_6_code 28 = .ok (.getfield 16, 3) := by decide +kernel
theorem dAF10_31 : decode prog_3_method_6_code 31 = .ok (.iload 4, 2) := by decide +kernel
theorem dAF10_33 : decode prog_3_method_6_code 33 = .ok (.iconst 5, 1) := by decide +kernel
theorem dAF10_34 : decode prog_3_method_6_code 34 = .ok (.imul, 1) := by decide +kernel
theorem dAF10_35 : decode prog_3_method_6_code 35 = .ok (.iconst 0, 1) := by decide +kernel
theorem dAF10_36 : decode prog_3_method_6_code 36 = .ok (.iadd, 1) := by decide +kernel
theorem dAF10_37 : decode prog_3_method_6_code 37 = .ok (.iaload, 1) := by decide +kernel
theorem dAF10_38 : decode prog_3_method_6_code 38 = .ok (.iload_n 3, 1) := by decide +kernel
theorem dAF10_39 : decode prog_3_method_6_code 39 = .ok (.if_icmp .ge 9, 3) := by decide +kernel
theorem dAF10_42 : decode prog_3_method_6_code 42 = .ok (.iinc 4 1, 3) := by decide +kernel
theorem dAF10_45 : decode prog_3_method_6_code 45 = .ok (.goto (-42), 3) := by decide +kernel
theorem dAF10_48 : decode prog_3_method_6_code 48 = .ok (.iload 4, 2) := by decide +kernel
theorem dAF10_50 : decode prog_3_method_6_code 50 = .ok (.ireturn, 1) := by decide +kernel
set_option maxRecDepth 65536 in
set_option maxHeartbeats 40000000 in
theorem rmAF10 {l : Launch} {Z : State} {a0 : Array Value} {n0 : Nat} (X : Ctx Z a0) {x sb tb t : Addr} {kb kt : ClassId} {bs : List Value} {p0 : Int32} {fi en : Int32} {h : Heap} (hO : Old Z n0 h) (A : AS Z h n0 x sb tb t kb kt (1 : Int32) (80 : Int32) [(.int p0), (.int (0 : Int32)), (.int (0 : Int32)), (.int (-1 : Int32)), (.int (0 : Int32)), (.int (0 : Int32)), (.int (0 : Int32)), (.int (0 : Int32)), (.int (0 : Int32)), (.int (0 : Int32)), (.int (0 : Int32)), (.int (0 : Int32)), (.int (0 : Int32)), (.int (0 : Int32)), (.int (0 : Int32))] (16 : Int32) (0 : Int32) bs) :
    Ctr l Z EL1 n0 (⟨"com/example/nodewarden/nodewarden/core/Asides", "after", "(III)I"⟩ : MethodName) prog_3_method_6_code 5 (some .int) ({ frames := 0, cells := 0, slots := 0, locals := 0 } : Room) #[(.ref x), (.int (0 : Int32)), (.int fi), (.int en)] h [] (fun v h' => ∃ r : Int32, v = some (.int r) ∧ ((r = (0 : Int32) ∧ (p0 < fi ∨ ¬ p0 < en) ∧ True) ∨ (r = (1 : Int32) ∧ (¬ p0 < fi ∧ p0 < en) ∧ True)) ∧ h' = h) := by
  have hw := X.hw
  obtain ⟨z1, hz1, hz2⟩ := X.2.2.1
  refine Ctr.intro (a0 := a0) (plainFor_of_name pn3) hO X.ew ?_
  intro p e s m below meth c T0 V0 S0 hby hml hret hnm hsf
  rw [ef12]
  obtain ⟨Ex, Ft, Fb, Fn, Vt, ⟨Es, Fv, Fk, Fs, Vb⟩, nx, ns, nb, nt⟩ := A
  have nXS : x ≠ sb := ne_exa Ex Es (by decide)
  have nXT : x ≠ t := Exa.neArv Ex Vt (w2 hw)
  have nXB : x ≠ tb := Exa.neArv Ex Vb (w2 hw)
  have nST : sb ≠ t := Exa.neArv Es Vt (w11 hw)
  have nSB : sb ≠ tb := Exa.neArv Es Vb (w11 hw)
  have nTB : t ≠ tb := arv_kne Vt Vb (by decide)
  show Go p e below _ (T0.setTop (mkF m 0 #[.val (.ref x), .val (.int (0 : Int32)), .val (.int fi), .val (.int en), .unset] []))
  refine s_iloadN S0 (hb hby dAF10_0) rfl (pc' := 1) rfl ?_
  refine s_istore S0 (hb hby dAF10_1) (L' := #[.val (.ref x), .val (.int (0 : Int32)), .val (.int fi), .val (.int en), .val (.int (0 : Int32))]) rfl (pc' := 3) rfl ?_
  refine s_iload S0 (hb hby dAF10_3) rfl (pc' := 5) rfl ?_
  refine s_aloadN S0 (hb hby dAF10_5) rfl rfl (pc' := 6) rfl ?_
  refine g_getF S0 (w40 hw) Via.refl Fn (hb hby dAF10_6) ?_
  intro T390 ST390
  show Go p e below _ (T390.setTop (mkF m 9 #[.val (.ref x), .val (.int (0 : Int32)), .val (.int fi), .val (.int en), .val (.int (0 : Int32))] [(.int (1 : Int32)), (.int (0 : Int32))]))
  refine s_icmpN ST390 (hb hby dAF10_9) (by decide) (pc' := 12) rfl ?_
  refine s_aloadN ST390 (hb hby dAF10_12) rfl rfl (pc' := 13) rfl ?_
  refine g_getF ST390 (w33 hw) Via.refl Fb (hb hby dAF10_13) ?_
  intro T391 ST391
  show Go p e below _ (T391.setTop (mkF m 16 #[.val (.ref x), .val (.int (0 : Int32)), .val (.int fi), .val (.int en), .val (.int (0 : Int32))] [(.ref t)]))
  refine s_iload ST391 (hb hby dAF10_16) rfl (pc' := 18) rfl ?_
  refine s_iconst ST391 (hb hby dAF10_18) (v := (5 : Int32)) rfl (pc' := 19) rfl ?_
  refine s_imul ST391 (hb hby dAF10_19) (z := (0 : Int32)) rfl (pc' := 20) rfl ?_
  refine s_iconst ST391 (hb hby dAF10_20) (v := (0 : Int32)) rfl (pc' := 21) rfl ?_
  refine s_iadd ST391 (hb hby dAF10_21) (z := (0 : Int32)) rfl (pc' := 22) rfl ?_
  refine g_iaload ST391 Vt ⟨by decide, by decide⟩ (x := p0) rfl (hb hby dAF10_22) ?_
  show Go p e below _ (T391.setTop (mkF m 23 #[.val (.ref x), .val (.int (0 : Int32)), .val (.int fi), .val (.int en), .val (.int (0 : Int32))] [(.int p0)]))
  refine s_iloadN ST391 (hb hby dAF10_23) rfl (pc' := 24) rfl ?_
  refine g_icmp ST391 (hb hby dAF10_24) (by decide) (pcT := 48) (by decide) (fun q => ?_) (fun q => ?_)
  · have hc24_392 : p0 < fi := icT_lt q
    show Go p e below _ (T391.setTop (mkF m 48 #[.val (.ref x), .val (.int (0 : Int32)), .val (.int fi), .val (.int en), .val (.int (0 : Int32))] []))
    refine s_iload ST391 (hb hby dAF10_48) rfl (pc' := 50) rfl ?_
    show Go p e below _ (T391.setTop (mkF m 50 #[.val (.ref x), .val (.int (0 : Int32)), .val (.int fi), .val (.int en), .val (.int (0 : Int32))] [(.int (0 : Int32))]))
    exact g_iret ST391 (hb hby dAF10_50) hret ⟨_, rfl, (Or.inl ⟨rfl, (Or.inl hc24_392), trivial⟩), rfl⟩
  · have hc24_392 : ¬ p0 < fi := icF_lt q
    show Go p e below _ (T391.setTop (mkF m 27 #[.val (.ref x), .val (.int (0 : Int32)), .val (.int fi), .val (.int en), .val (.int (0 : Int32))] []))
    refine s_aloadN ST391 (hb hby dAF10_27) rfl rfl (pc' := 28) rfl ?_
    refine g_getF ST391 (w33 hw) Via.refl Fb (hb hby dAF10_28) ?_
    intro T393 ST393
    show Go p e below _ (T393.setTop (mkF m 31 #[.val (.ref x), .val (.int (0 : Int32)), .val (.int fi), .val (.int en), .val (.int (0 : Int32))] [(.ref t)]))
    refine s_iload ST393 (hb hby dAF10_31) rfl (pc' := 33) rfl ?_
    refine s_iconst ST393 (hb hby dAF10_33) (v := (5 : Int32)) rfl (pc' := 34) rfl ?_
    refine s_imul ST393 (hb hby dAF10_34) (z := (0 : Int32)) rfl (pc' := 35) rfl ?_
    refine s_iconst ST393 (hb hby dAF10_35) (v := (0 : Int32)) rfl (pc' := 36) rfl ?_
    refine s_iadd ST393 (hb hby dAF10_36) (z := (0 : Int32)) rfl (pc' := 37) rfl ?_
    refine g_iaload ST393 Vt ⟨by decide, by decide⟩ (x := p0) rfl (hb hby dAF10_37) ?_
    show Go p e below _ (T393.setTop (mkF m 38 #[.val (.ref x), .val (.int (0 : Int32)), .val (.int fi), .val (.int en), .val (.int (0 : Int32))] [(.int p0)]))
    refine s_iloadN ST393 (hb hby dAF10_38) rfl (pc' := 39) rfl ?_
    refine g_icmp ST393 (hb hby dAF10_39) (by decide) (pcT := 48) (by decide) (fun q => ?_) (fun q => ?_)
    · have hc39_394 : ¬ p0 < en := icT_ge q
      show Go p e below _ (T393.setTop (mkF m 48 #[.val (.ref x), .val (.int (0 : Int32)), .val (.int fi), .val (.int en), .val (.int (0 : Int32))] []))
      refine s_iload ST393 (hb hby dAF10_48) rfl (pc' := 50) rfl ?_
      show Go p e below _ (T393.setTop (mkF m 50 #[.val (.ref x), .val (.int (0 : Int32)), .val (.int fi), .val (.int en), .val (.int (0 : Int32))] [(.int (0 : Int32))]))
      exact g_iret ST393 (hb hby dAF10_50) hret ⟨_, rfl, (Or.inl ⟨rfl, (Or.inr hc39_394), trivial⟩), rfl⟩
    · have hc39_394 : p0 < en := icF_ge q
      show Go p e below _ (T393.setTop (mkF m 42 #[.val (.ref x), .val (.int (0 : Int32)), .val (.int fi), .val (.int en), .val (.int (0 : Int32))] []))
      refine s_iinc ST393 (hb hby dAF10_42) rfl (z := (1 : Int32)) rfl (L' := #[.val (.ref x), .val (.int (0 : Int32)), .val (.int fi), .val (.int en), .val (.int (1 : Int32))]) rfl (pc' := 45) rfl ?_
      refine s_goto ST393 (hb hby dAF10_45) (by decide) (pcT := 3) (by decide) ?_
      refine s_iload ST393 (hb hby dAF10_3) rfl (pc' := 5) rfl ?_
      refine s_aloadN ST393 (hb hby dAF10_5) rfl rfl (pc' := 6) rfl ?_
      refine g_getF ST393 (w40 hw) Via.refl Fn (hb hby dAF10_6) ?_
      intro T395 ST395
      show Go p e below _ (T395.setTop (mkF m 9 #[.val (.ref x), .val (.int (0 : Int32)), .val (.int fi), .val (.int en), .val (.int (1 : Int32))] [(.int (1 : Int32)), (.int (1 : Int32))]))
      refine s_icmpY ST395 (hb hby dAF10_9) (by decide) (by decide) (pcT := 48) (by decide) ?_
      refine s_iload ST395 (hb hby dAF10_48) rfl (pc' := 50) rfl ?_
      show Go p e below _ (T395.setTop (mkF m 50 #[.val (.ref x), .val (.int (0 : Int32)), .val (.int fi), .val (.int en), .val (.int (1 : Int32))] [(.int (1 : Int32))]))
      exact g_iret ST395 (hb hby dAF10_50) hret ⟨_, rfl, (Or.inr ⟨rfl, ⟨hc24_392, hc39_394⟩, trivial⟩), rfl⟩
theorem dAF11_0 : decode prog_3_method_6_code 0 = .ok (.iload_n 1, 1) := by decide +kernel
theorem dAF11_1 : decode prog_3_method_6_code 1 = .ok (.istore 4, 2) := by decide +kernel
theorem dAF11_3 : decode prog_3_method_6_code 3 = .ok (.iload 4, 2) := by decide +kernel
theorem dAF11_5 : decode prog_3_method_6_code 5 = .ok (.aload_n 0, 1) := by decide +kernel
theorem dAF11_6 : decode prog_3_method_6_code 6 = .ok (.getfield 38, 3) := by decide +kernel
theorem dAF11_9 : decode prog_3_method_6_code 9 = .ok (.if_icmp .ge 39, 3) := by decide +kernel
theorem dAF11_48 : decode prog_3_method_6_code 48 = .ok (.iload 4, 2) := by decide +kernel
theorem dAF11_50 : decode prog_3_method_6_code 50 = .ok (.ireturn, 1) := by decide +kernel
set_option maxRecDepth 65536 in
set_option maxHeartbeats 40000000 in
theorem rmAF11 {l : Launch} {Z : State} {a0 : Array Value} {n0 : Nat} (X : Ctx Z a0) {x sb tb t : Addr} {kb kt : ClassId} {bs : List Value} {p0 : Int32} {fi en : Int32} {h : Heap} (hO : Old Z n0 h) (A : AS Z h n0 x sb tb t kb kt (1 : Int32) (80 : Int32) [(.int p0), (.int (0 : Int32)), (.int (0 : Int32)), (.int (-1 : Int32)), (.int (0 : Int32)), (.int (0 : Int32)), (.int (0 : Int32)), (.int (0 : Int32)), (.int (0 : Int32)), (.int (0 : Int32)), (.int (0 : Int32)), (.int (0 : Int32)), (.int (0 : Int32)), (.int (0 : Int32)), (.int (0 : Int32))] (16 : Int32) (0 : Int32) bs) :
    Ctr l Z EL1 n0 (⟨"com/example/nodewarden/nodewarden/core/Asides", "after", "(III)I"⟩ : MethodName) prog_3_method_6_code 5 (some .int) ({ frames := 0, cells := 0, slots := 0, locals := 0 } : Room) #[(.ref x), (.int (1 : Int32)), (.int fi), (.int en)] h [] (fun v h' => ∃ r : Int32, v = some (.int r) ∧ ((r = (1 : Int32) ∧ True)) ∧ h' = h) := by
  have hw := X.hw
  obtain ⟨z1, hz1, hz2⟩ := X.2.2.1
  refine Ctr.intro (a0 := a0) (plainFor_of_name pn3) hO X.ew ?_
  intro p e s m below meth c T0 V0 S0 hby hml hret hnm hsf
  rw [ef12]
  obtain ⟨Ex, Ft, Fb, Fn, Vt, ⟨Es, Fv, Fk, Fs, Vb⟩, nx, ns, nb, nt⟩ := A
  have nXS : x ≠ sb := ne_exa Ex Es (by decide)
  have nXT : x ≠ t := Exa.neArv Ex Vt (w2 hw)
  have nXB : x ≠ tb := Exa.neArv Ex Vb (w2 hw)
  have nST : sb ≠ t := Exa.neArv Es Vt (w11 hw)
  have nSB : sb ≠ tb := Exa.neArv Es Vb (w11 hw)
  have nTB : t ≠ tb := arv_kne Vt Vb (by decide)
  show Go p e below _ (T0.setTop (mkF m 0 #[.val (.ref x), .val (.int (1 : Int32)), .val (.int fi), .val (.int en), .unset] []))
  refine s_iloadN S0 (hb hby dAF11_0) rfl (pc' := 1) rfl ?_
  refine s_istore S0 (hb hby dAF11_1) (L' := #[.val (.ref x), .val (.int (1 : Int32)), .val (.int fi), .val (.int en), .val (.int (1 : Int32))]) rfl (pc' := 3) rfl ?_
  refine s_iload S0 (hb hby dAF11_3) rfl (pc' := 5) rfl ?_
  refine s_aloadN S0 (hb hby dAF11_5) rfl rfl (pc' := 6) rfl ?_
  refine g_getF S0 (w40 hw) Via.refl Fn (hb hby dAF11_6) ?_
  intro T396 ST396
  show Go p e below _ (T396.setTop (mkF m 9 #[.val (.ref x), .val (.int (1 : Int32)), .val (.int fi), .val (.int en), .val (.int (1 : Int32))] [(.int (1 : Int32)), (.int (1 : Int32))]))
  refine s_icmpY ST396 (hb hby dAF11_9) (by decide) (by decide) (pcT := 48) (by decide) ?_
  refine s_iload ST396 (hb hby dAF11_48) rfl (pc' := 50) rfl ?_
  show Go p e below _ (T396.setTop (mkF m 50 #[.val (.ref x), .val (.int (1 : Int32)), .val (.int fi), .val (.int en), .val (.int (1 : Int32))] [(.int (1 : Int32))]))
  exact g_iret ST396 (hb hby dAF11_50) hret ⟨_, rfl, ⟨rfl, trivial⟩, rfl⟩
theorem dAF12_0 : decode prog_3_method_6_code 0 = .ok (.iload_n 1, 1) := by decide +kernel
theorem dAF12_1 : decode prog_3_method_6_code 1 = .ok (.istore 4, 2) := by decide +kernel
theorem dAF12_3 : decode prog_3_method_6_code 3 = .ok (.iload 4, 2) := by decide +kernel
theorem dAF12_5 : decode prog_3_method_6_code 5 = .ok (.aload_n 0, 1) := by decide +kernel
theorem dAF12_6 : decode prog_3_method_6_code 6 = .ok (.getfield 38, 3) := by decide +kernel
theorem dAF12_9 : decode prog_3_method_6_code 9 = .ok (.if_icmp .ge 39, 3) := by decide +kernel
theorem dAF12_48 : decode prog_3_method_6_code 48 = .ok (.iload 4, 2) := by decide +kernel
theorem dAF12_50 : decode prog_3_method_6_code 50 = .ok (.ireturn, 1) := by decide +kernel
set_option maxRecDepth 65536 in
set_option maxHeartbeats 40000000 in
theorem rmAF12 {l : Launch} {Z : State} {a0 : Array Value} {n0 : Nat} (X : Ctx Z a0) {x sb tb t : Addr} {kb kt : ClassId} {bs : List Value} {p0 : Int32} {fi en : Int32} {h : Heap} (hO : Old Z n0 h) (A : AS Z h n0 x sb tb t kb kt (1 : Int32) (80 : Int32) [(.int p0), (.int (0 : Int32)), (.int (0 : Int32)), (.int (-1 : Int32)), (.int (0 : Int32)), (.int (0 : Int32)), (.int (0 : Int32)), (.int (0 : Int32)), (.int (0 : Int32)), (.int (0 : Int32)), (.int (0 : Int32)), (.int (0 : Int32)), (.int (0 : Int32)), (.int (0 : Int32)), (.int (0 : Int32))] (16 : Int32) (0 : Int32) bs) :
    Ctr l Z EL1 n0 (⟨"com/example/nodewarden/nodewarden/core/Asides", "after", "(III)I"⟩ : MethodName) prog_3_method_6_code 5 (some .int) ({ frames := 0, cells := 0, slots := 0, locals := 0 } : Room) #[(.ref x), (.int (2 : Int32)), (.int fi), (.int en)] h [] (fun v h' => ∃ r : Int32, v = some (.int r) ∧ ((r = (2 : Int32) ∧ True)) ∧ h' = h) := by
  have hw := X.hw
  obtain ⟨z1, hz1, hz2⟩ := X.2.2.1
  refine Ctr.intro (a0 := a0) (plainFor_of_name pn3) hO X.ew ?_
  intro p e s m below meth c T0 V0 S0 hby hml hret hnm hsf
  rw [ef12]
  obtain ⟨Ex, Ft, Fb, Fn, Vt, ⟨Es, Fv, Fk, Fs, Vb⟩, nx, ns, nb, nt⟩ := A
  have nXS : x ≠ sb := ne_exa Ex Es (by decide)
  have nXT : x ≠ t := Exa.neArv Ex Vt (w2 hw)
  have nXB : x ≠ tb := Exa.neArv Ex Vb (w2 hw)
  have nST : sb ≠ t := Exa.neArv Es Vt (w11 hw)
  have nSB : sb ≠ tb := Exa.neArv Es Vb (w11 hw)
  have nTB : t ≠ tb := arv_kne Vt Vb (by decide)
  show Go p e below _ (T0.setTop (mkF m 0 #[.val (.ref x), .val (.int (2 : Int32)), .val (.int fi), .val (.int en), .unset] []))
  refine s_iloadN S0 (hb hby dAF12_0) rfl (pc' := 1) rfl ?_
  refine s_istore S0 (hb hby dAF12_1) (L' := #[.val (.ref x), .val (.int (2 : Int32)), .val (.int fi), .val (.int en), .val (.int (2 : Int32))]) rfl (pc' := 3) rfl ?_
  refine s_iload S0 (hb hby dAF12_3) rfl (pc' := 5) rfl ?_
  refine s_aloadN S0 (hb hby dAF12_5) rfl rfl (pc' := 6) rfl ?_
  refine g_getF S0 (w40 hw) Via.refl Fn (hb hby dAF12_6) ?_
  intro T397 ST397
  show Go p e below _ (T397.setTop (mkF m 9 #[.val (.ref x), .val (.int (2 : Int32)), .val (.int fi), .val (.int en), .val (.int (2 : Int32))] [(.int (1 : Int32)), (.int (2 : Int32))]))
  refine s_icmpY ST397 (hb hby dAF12_9) (by decide) (by decide) (pcT := 48) (by decide) ?_
  refine s_iload ST397 (hb hby dAF12_48) rfl (pc' := 50) rfl ?_
  show Go p e below _ (T397.setTop (mkF m 50 #[.val (.ref x), .val (.int (2 : Int32)), .val (.int fi), .val (.int en), .val (.int (2 : Int32))] [(.int (2 : Int32))]))
  exact g_iret ST397 (hb hby dAF12_50) hret ⟨_, rfl, ⟨rfl, trivial⟩, rfl⟩
theorem dAF13_0 : decode prog_3_method_6_code 0 = .ok (.iload_n 1, 1) := by decide +kernel
theorem dAF13_1 : decode prog_3_method_6_code 1 = .ok (.istore 4, 2) := by decide +kernel
theorem dAF13_3 : decode prog_3_method_6_code 3 = .ok (.iload 4, 2) := by decide +kernel
theorem dAF13_5 : decode prog_3_method_6_code 5 = .ok (.aload_n 0, 1) := by decide +kernel
theorem dAF13_6 : decode prog_3_method_6_code 6 = .ok (.getfield 38, 3) := by decide +kernel
theorem dAF13_9 : decode prog_3_method_6_code 9 = .ok (.if_icmp .ge 39, 3) := by decide +kernel
theorem dAF13_48 : decode prog_3_method_6_code 48 = .ok (.iload 4, 2) := by decide +kernel
theorem dAF13_50 : decode prog_3_method_6_code 50 = .ok (.ireturn, 1) := by decide +kernel
set_option maxRecDepth 65536 in
set_option maxHeartbeats 40000000 in
theorem rmAF13 {l : Launch} {Z : State} {a0 : Array Value} {n0 : Nat} (X : Ctx Z a0) {x sb tb t : Addr} {kb kt : ClassId} {bs : List Value} {p0 : Int32} {fi en : Int32} {h : Heap} (hO : Old Z n0 h) (A : AS Z h n0 x sb tb t kb kt (1 : Int32) (80 : Int32) [(.int p0), (.int (0 : Int32)), (.int (0 : Int32)), (.int (-1 : Int32)), (.int (0 : Int32)), (.int (0 : Int32)), (.int (0 : Int32)), (.int (0 : Int32)), (.int (0 : Int32)), (.int (0 : Int32)), (.int (0 : Int32)), (.int (0 : Int32)), (.int (0 : Int32)), (.int (0 : Int32)), (.int (0 : Int32))] (16 : Int32) (0 : Int32) bs) :
    Ctr l Z EL1 n0 (⟨"com/example/nodewarden/nodewarden/core/Asides", "after", "(III)I"⟩ : MethodName) prog_3_method_6_code 5 (some .int) ({ frames := 0, cells := 0, slots := 0, locals := 0 } : Room) #[(.ref x), (.int (3 : Int32)), (.int fi), (.int en)] h [] (fun v h' => ∃ r : Int32, v = some (.int r) ∧ ((r = (3 : Int32) ∧ True)) ∧ h' = h) := by
  have hw := X.hw
  obtain ⟨z1, hz1, hz2⟩ := X.2.2.1
  refine Ctr.intro (a0 := a0) (plainFor_of_name pn3) hO X.ew ?_
  intro p e s m below meth c T0 V0 S0 hby hml hret hnm hsf
  rw [ef12]
  obtain ⟨Ex, Ft, Fb, Fn, Vt, ⟨Es, Fv, Fk, Fs, Vb⟩, nx, ns, nb, nt⟩ := A
  have nXS : x ≠ sb := ne_exa Ex Es (by decide)
  have nXT : x ≠ t := Exa.neArv Ex Vt (w2 hw)
  have nXB : x ≠ tb := Exa.neArv Ex Vb (w2 hw)
  have nST : sb ≠ t := Exa.neArv Es Vt (w11 hw)
  have nSB : sb ≠ tb := Exa.neArv Es Vb (w11 hw)
  have nTB : t ≠ tb := arv_kne Vt Vb (by decide)
  show Go p e below _ (T0.setTop (mkF m 0 #[.val (.ref x), .val (.int (3 : Int32)), .val (.int fi), .val (.int en), .unset] []))
  refine s_iloadN S0 (hb hby dAF13_0) rfl (pc' := 1) rfl ?_
  refine s_istore S0 (hb hby dAF13_1) (L' := #[.val (.ref x), .val (.int (3 : Int32)), .val (.int fi), .val (.int en), .val (.int (3 : Int32))]) rfl (pc' := 3) rfl ?_
  refine s_iload S0 (hb hby dAF13_3) rfl (pc' := 5) rfl ?_
  refine s_aloadN S0 (hb hby dAF13_5) rfl rfl (pc' := 6) rfl ?_
  refine g_getF S0 (w40 hw) Via.refl Fn (hb hby dAF13_6) ?_
  intro T398 ST398
  show Go p e below _ (T398.setTop (mkF m 9 #[.val (.ref x), .val (.int (3 : Int32)), .val (.int fi), .val (.int en), .val (.int (3 : Int32))] [(.int (1 : Int32)), (.int (3 : Int32))]))
  refine s_icmpY ST398 (hb hby dAF13_9) (by decide) (by decide) (pcT := 48) (by decide) ?_
  refine s_iload ST398 (hb hby dAF13_48) rfl (pc' := 50) rfl ?_
  show Go p e below _ (T398.setTop (mkF m 50 #[.val (.ref x), .val (.int (3 : Int32)), .val (.int fi), .val (.int en), .val (.int (3 : Int32))] [(.int (3 : Int32))]))
  exact g_iret ST398 (hb hby dAF13_50) hret ⟨_, rfl, ⟨rfl, trivial⟩, rfl⟩
theorem dAF14_0 : decode prog_3_method_6_code 0 = .ok (.iload_n 1, 1) := by decide +kernel
theorem dAF14_1 : decode prog_3_method_6_code 1 = .ok (.istore 4, 2) := by decide +kernel
theorem dAF14_3 : decode prog_3_method_6_code 3 = .ok (.iload 4, 2) := by decide +kernel
theorem dAF14_5 : decode prog_3_method_6_code 5 = .ok (.aload_n 0, 1) := by decide +kernel
theorem dAF14_6 : decode prog_3_method_6_code 6 = .ok (.getfield 38, 3) := by decide +kernel
theorem dAF14_9 : decode prog_3_method_6_code 9 = .ok (.if_icmp .ge 39, 3) := by decide +kernel
theorem dAF14_48 : decode prog_3_method_6_code 48 = .ok (.iload 4, 2) := by decide +kernel
theorem dAF14_50 : decode prog_3_method_6_code 50 = .ok (.ireturn, 1) := by decide +kernel
set_option maxRecDepth 65536 in
set_option maxHeartbeats 40000000 in
theorem rmAF14 {l : Launch} {Z : State} {a0 : Array Value} {n0 : Nat} (X : Ctx Z a0) {x sb tb t : Addr} {kb kt : ClassId} {bs : List Value} {p0 : Int32} {fi en : Int32} {h : Heap} (hO : Old Z n0 h) (A : AS Z h n0 x sb tb t kb kt (1 : Int32) (80 : Int32) [(.int p0), (.int (0 : Int32)), (.int (0 : Int32)), (.int (-1 : Int32)), (.int (0 : Int32)), (.int (0 : Int32)), (.int (0 : Int32)), (.int (0 : Int32)), (.int (0 : Int32)), (.int (0 : Int32)), (.int (0 : Int32)), (.int (0 : Int32)), (.int (0 : Int32)), (.int (0 : Int32)), (.int (0 : Int32))] (16 : Int32) (0 : Int32) bs) :
    Ctr l Z EL1 n0 (⟨"com/example/nodewarden/nodewarden/core/Asides", "after", "(III)I"⟩ : MethodName) prog_3_method_6_code 5 (some .int) ({ frames := 0, cells := 0, slots := 0, locals := 0 } : Room) #[(.ref x), (.int (4 : Int32)), (.int fi), (.int en)] h [] (fun v h' => ∃ r : Int32, v = some (.int r) ∧ ((r = (4 : Int32) ∧ True)) ∧ h' = h) := by
  have hw := X.hw
  obtain ⟨z1, hz1, hz2⟩ := X.2.2.1
  refine Ctr.intro (a0 := a0) (plainFor_of_name pn3) hO X.ew ?_
  intro p e s m below meth c T0 V0 S0 hby hml hret hnm hsf
  rw [ef12]
  obtain ⟨Ex, Ft, Fb, Fn, Vt, ⟨Es, Fv, Fk, Fs, Vb⟩, nx, ns, nb, nt⟩ := A
  have nXS : x ≠ sb := ne_exa Ex Es (by decide)
  have nXT : x ≠ t := Exa.neArv Ex Vt (w2 hw)
  have nXB : x ≠ tb := Exa.neArv Ex Vb (w2 hw)
  have nST : sb ≠ t := Exa.neArv Es Vt (w11 hw)
  have nSB : sb ≠ tb := Exa.neArv Es Vb (w11 hw)
  have nTB : t ≠ tb := arv_kne Vt Vb (by decide)
  show Go p e below _ (T0.setTop (mkF m 0 #[.val (.ref x), .val (.int (4 : Int32)), .val (.int fi), .val (.int en), .unset] []))
  refine s_iloadN S0 (hb hby dAF14_0) rfl (pc' := 1) rfl ?_
  refine s_istore S0 (hb hby dAF14_1) (L' := #[.val (.ref x), .val (.int (4 : Int32)), .val (.int fi), .val (.int en), .val (.int (4 : Int32))]) rfl (pc' := 3) rfl ?_
  refine s_iload S0 (hb hby dAF14_3) rfl (pc' := 5) rfl ?_
  refine s_aloadN S0 (hb hby dAF14_5) rfl rfl (pc' := 6) rfl ?_
  refine g_getF S0 (w40 hw) Via.refl Fn (hb hby dAF14_6) ?_
  intro T399 ST399
  show Go p e below _ (T399.setTop (mkF m 9 #[.val (.ref x), .val (.int (4 : Int32)), .val (.int fi), .val (.int en), .val (.int (4 : Int32))] [(.int (1 : Int32)), (.int (4 : Int32))]))
  refine s_icmpY ST399 (hb hby dAF14_9) (by decide) (by decide) (pcT := 48) (by decide) ?_
  refine s_iload ST399 (hb hby dAF14_48) rfl (pc' := 50) rfl ?_
  show Go p e below _ (T399.setTop (mkF m 50 #[.val (.ref x), .val (.int (4 : Int32)), .val (.int fi), .val (.int en), .val (.int (4 : Int32))] [(.int (4 : Int32))]))
  exact g_iret ST399 (hb hby dAF14_50) hret ⟨_, rfl, ⟨rfl, trivial⟩, rfl⟩
theorem dAF20_0 : decode prog_3_method_6_code 0 = .ok (.iload_n 1, 1) := by decide +kernel
theorem dAF20_1 : decode prog_3_method_6_code 1 = .ok (.istore 4, 2) := by decide +kernel
theorem dAF20_3 : decode prog_3_method_6_code 3 = .ok (.iload 4, 2) := by decide +kernel
theorem dAF20_5 : decode prog_3_method_6_code 5 = .ok (.aload_n 0, 1) := by decide +kernel
theorem dAF20_6 : decode prog_3_method_6_code 6 = .ok (.getfield 38, 3) := by decide +kernel
theorem dAF20_9 : decode prog_3_method_6_code 9 = .ok (.if_icmp .ge 39, 3) := by decide +kernel
theorem dAF20_12 : decode prog_3_method_6_code 12 = .ok (.aload_n 0, 1) := by decide +kernel
theorem dAF20_13 : decode prog_3_method_6_code 13 = .ok (.getfield 16, 3) := by decide +kernel
theorem dAF20_16 : decode prog_3_method_6_code 16 = .ok (.iload 4, 2) := by decide +kernel
theorem dAF20_18 : decode prog_3_method_6_code 18 = .ok (.iconst 5, 1) := by decide +kernel
theorem dAF20_19 : decode prog_3_method_6_code 19 = .ok (.imul, 1) := by decide +kernel
theorem dAF20_20 : decode prog_3_method_6_code 20 = .ok (.iconst 0, 1) := by decide +kernel
theorem dAF20_21 : decode prog_3_method_6_code 21 = .ok (.iadd, 1) := by decide +kernel
theorem dAF20_22 : decode prog_3_method_6_code 22 = .ok (.iaload, 1) := by decide +kernel
theorem dAF20_23 : decode prog_3_method_6_code 23 = .ok (.iload_n 2, 1) := by decide +kernel
theorem dAF20_24 : decode prog_3_method_6_code 24 = .ok (.if_icmp .lt 24, 3) := by decide +kernel
theorem dAF20_27 : decode prog_3_method_6_code 27 = .ok (.aload_n 0, 1) := by decide +kernel
theorem dAF20_28 : decode prog_3_method_6_code 28 = .ok (.getfield 16, 3) := by decide +kernel
theorem dAF20_31 : decode prog_3_method_6_code 31 = .ok (.iload 4, 2) := by decide +kernel
theorem dAF20_33 : decode prog_3_method_6_code 33 = .ok (.iconst 5, 1) := by decide +kernel
theorem dAF20_34 : decode prog_3_method_6_code 34 = .ok (.imul, 1) := by decide +kernel
theorem dAF20_35 : decode prog_3_method_6_code 35 = .ok (.iconst 0, 1) := by decide +kernel
theorem dAF20_36 : decode prog_3_method_6_code 36 = .ok (.iadd, 1) := by decide +kernel
theorem dAF20_37 : decode prog_3_method_6_code 37 = .ok (.iaload, 1) := by decide +kernel
theorem dAF20_38 : decode prog_3_method_6_code 38 = .ok (.iload_n 3, 1) := by decide +kernel
theorem dAF20_39 : decode prog_3_method_6_code 39 = .ok (.if_icmp .ge 9, 3) := by decide +kernel
theorem dAF20_42 : decode prog_3_method_6_code 42 = .ok (.iinc 4 1, 3) := by decide +kernel
theorem dAF20_45 : decode prog_3_method_6_code 45 = .ok (.goto (-42), 3) := by decide +kernel
theorem dAF20_48 : decode prog_3_method_6_code 48 = .ok (.iload 4, 2) := by decide +kernel
theorem dAF20_50 : decode prog_3_method_6_code 50 = .ok (.ireturn, 1) := by decide +kernel
set_option maxRecDepth 65536 in
set_option maxHeartbeats 40000000 in
theorem rmAF20 {l : Launch} {Z : State} {a0 : Array Value} {n0 : Nat} (X : Ctx Z a0) {x sb tb t : Addr} {kb kt : ClassId} {bs : List Value} {p0 p1 : Int32} {fi en : Int32} {h : Heap} (hO : Old Z n0 h) (A : AS Z h n0 x sb tb t kb kt (2 : Int32) (80 : Int32) [(.int p0), (.int (0 : Int32)), (.int (0 : Int32)), (.int (-1 : Int32)), (.int (0 : Int32)), (.int p1), (.int (0 : Int32)), (.int (0 : Int32)), (.int (-1 : Int32)), (.int (0 : Int32)), (.int (0 : Int32)), (.int (0 : Int32)), (.int (0 : Int32)), (.int (0 : Int32)), (.int (0 : Int32))] (16 : Int32) (0 : Int32) bs) :
    Ctr l Z EL1 n0 (⟨"com/example/nodewarden/nodewarden/core/Asides", "after", "(III)I"⟩ : MethodName) prog_3_method_6_code 5 (some .int) ({ frames := 0, cells := 0, slots := 0, locals := 0 } : Room) #[(.ref x), (.int (0 : Int32)), (.int fi), (.int en)] h [] (fun v h' => ∃ r : Int32, v = some (.int r) ∧ ((r = (0 : Int32) ∧ (p0 < fi ∨ ¬ p0 < en) ∧ True) ∨ (r = (1 : Int32) ∧ (¬ p0 < fi ∧ p0 < en) ∧ (p1 < fi ∨ ¬ p1 < en) ∧ True) ∨ (r = (2 : Int32) ∧ (¬ p0 < fi ∧ p0 < en) ∧ (¬ p1 < fi ∧ p1 < en) ∧ True)) ∧ h' = h) := by
  have hw := X.hw
  obtain ⟨z1, hz1, hz2⟩ := X.2.2.1
  refine Ctr.intro (a0 := a0) (plainFor_of_name pn3) hO X.ew ?_
  intro p e s m below meth c T0 V0 S0 hby hml hret hnm hsf
  rw [ef12]
  obtain ⟨Ex, Ft, Fb, Fn, Vt, ⟨Es, Fv, Fk, Fs, Vb⟩, nx, ns, nb, nt⟩ := A
  have nXS : x ≠ sb := ne_exa Ex Es (by decide)
  have nXT : x ≠ t := Exa.neArv Ex Vt (w2 hw)
  have nXB : x ≠ tb := Exa.neArv Ex Vb (w2 hw)
  have nST : sb ≠ t := Exa.neArv Es Vt (w11 hw)
  have nSB : sb ≠ tb := Exa.neArv Es Vb (w11 hw)
  have nTB : t ≠ tb := arv_kne Vt Vb (by decide)
  show Go p e below _ (T0.setTop (mkF m 0 #[.val (.ref x), .val (.int (0 : Int32)), .val (.int fi), .val (.int en), .unset] []))
  refine s_iloadN S0 (hb hby dAF20_0) rfl (pc' := 1) rfl ?_
  refine s_istore S0 (hb hby dAF20_1) (L' := #[.val (.ref x), .val (.int (0 : Int32)), .val (.int fi), .val (.int en), .val (.int (0 : Int32))]) rfl (pc' := 3) rfl ?_
  refine s_iload S0 (hb hby dAF20_3) rfl (pc' := 5) rfl ?_
  refine s_aloadN S0 (hb hby dAF20_5) rfl rfl (pc' := 6) rfl ?_
  refine g_getF S0 (w40 hw) Via.refl Fn (hb hby dAF20_6) ?_
  intro T400 ST400
  show Go p e below _ (T400.setTop (mkF m 9 #[.val (.ref x), .val (.int (0 : Int32)), .val (.int fi), .val (.int en), .val (.int (0 : Int32))] [(.int (2 : Int32)), (.int (0 : Int32))]))
  refine s_icmpN ST400 (hb hby dAF20_9) (by decide) (pc' := 12) rfl ?_
  refine s_aloadN ST400 (hb hby dAF20_12) rfl rfl (pc' := 13) rfl ?_
  refine g_getF ST400 (w33 hw) Via.refl Fb (hb hby dAF20_13) ?_
  intro T401 ST401
  show Go p e below _ (T401.setTop (mkF m 16 #[.val (.ref x), .val (.int (0 : Int32)), .val (.int fi), .val (.int en), .val (.int (0 : Int32))] [(.ref t)]))
  refine s_iload ST401 (hb hby dAF20_16) rfl (pc' := 18) rfl ?_
  refine s_iconst ST401 (hb hby dAF20_18) (v := (5 : Int32)) rfl (pc' := 19) rfl ?_
  refine s_imul ST401 (hb hby dAF20_19) (z := (0 : Int32)) rfl (pc' := 20) rfl ?_
  refine s_iconst ST401 (hb hby dAF20_20) (v := (0 : Int32)) rfl (pc' := 21) rfl ?_
  refine s_iadd ST401 (hb hby dAF20_21) (z := (0 : Int32)) rfl (pc' := 22) rfl ?_
  refine g_iaload ST401 Vt ⟨by decide, by decide⟩ (x := p0) rfl (hb hby dAF20_22) ?_
  show Go p e below _ (T401.setTop (mkF m 23 #[.val (.ref x), .val (.int (0 : Int32)), .val (.int fi), .val (.int en), .val (.int (0 : Int32))] [(.int p0)]))
  refine s_iloadN ST401 (hb hby dAF20_23) rfl (pc' := 24) rfl ?_
  refine g_icmp ST401 (hb hby dAF20_24) (by decide) (pcT := 48) (by decide) (fun q => ?_) (fun q => ?_)
  · have hc24_402 : p0 < fi := icT_lt q
    show Go p e below _ (T401.setTop (mkF m 48 #[.val (.ref x), .val (.int (0 : Int32)), .val (.int fi), .val (.int en), .val (.int (0 : Int32))] []))
    refine s_iload ST401 (hb hby dAF20_48) rfl (pc' := 50) rfl ?_
    show Go p e below _ (T401.setTop (mkF m 50 #[.val (.ref x), .val (.int (0 : Int32)), .val (.int fi), .val (.int en), .val (.int (0 : Int32))] [(.int (0 : Int32))]))
    exact g_iret ST401 (hb hby dAF20_50) hret ⟨_, rfl, (Or.inl ⟨rfl, (Or.inl hc24_402), trivial⟩), rfl⟩
  · have hc24_402 : ¬ p0 < fi := icF_lt q
    show Go p e below _ (T401.setTop (mkF m 27 #[.val (.ref x), .val (.int (0 : Int32)), .val (.int fi), .val (.int en), .val (.int (0 : Int32))] []))
    refine s_aloadN ST401 (hb hby dAF20_27) rfl rfl (pc' := 28) rfl ?_
    refine g_getF ST401 (w33 hw) Via.refl Fb (hb hby dAF20_28) ?_
    intro T403 ST403
    show Go p e below _ (T403.setTop (mkF m 31 #[.val (.ref x), .val (.int (0 : Int32)), .val (.int fi), .val (.int en), .val (.int (0 : Int32))] [(.ref t)]))
    refine s_iload ST403 (hb hby dAF20_31) rfl (pc' := 33) rfl ?_
    refine s_iconst ST403 (hb hby dAF20_33) (v := (5 : Int32)) rfl (pc' := 34) rfl ?_
    refine s_imul ST403 (hb hby dAF20_34) (z := (0 : Int32)) rfl (pc' := 35) rfl ?_
    refine s_iconst ST403 (hb hby dAF20_35) (v := (0 : Int32)) rfl (pc' := 36) rfl ?_
    refine s_iadd ST403 (hb hby dAF20_36) (z := (0 : Int32)) rfl (pc' := 37) rfl ?_
    refine g_iaload ST403 Vt ⟨by decide, by decide⟩ (x := p0) rfl (hb hby dAF20_37) ?_
    show Go p e below _ (T403.setTop (mkF m 38 #[.val (.ref x), .val (.int (0 : Int32)), .val (.int fi), .val (.int en), .val (.int (0 : Int32))] [(.int p0)]))
    refine s_iloadN ST403 (hb hby dAF20_38) rfl (pc' := 39) rfl ?_
    refine g_icmp ST403 (hb hby dAF20_39) (by decide) (pcT := 48) (by decide) (fun q => ?_) (fun q => ?_)
    · have hc39_404 : ¬ p0 < en := icT_ge q
      show Go p e below _ (T403.setTop (mkF m 48 #[.val (.ref x), .val (.int (0 : Int32)), .val (.int fi), .val (.int en), .val (.int (0 : Int32))] []))
      refine s_iload ST403 (hb hby dAF20_48) rfl (pc' := 50) rfl ?_
      show Go p e below _ (T403.setTop (mkF m 50 #[.val (.ref x), .val (.int (0 : Int32)), .val (.int fi), .val (.int en), .val (.int (0 : Int32))] [(.int (0 : Int32))]))
      exact g_iret ST403 (hb hby dAF20_50) hret ⟨_, rfl, (Or.inl ⟨rfl, (Or.inr hc39_404), trivial⟩), rfl⟩
    · have hc39_404 : p0 < en := icF_ge q
      show Go p e below _ (T403.setTop (mkF m 42 #[.val (.ref x), .val (.int (0 : Int32)), .val (.int fi), .val (.int en), .val (.int (0 : Int32))] []))
      refine s_iinc ST403 (hb hby dAF20_42) rfl (z := (1 : Int32)) rfl (L' := #[.val (.ref x), .val (.int (0 : Int32)), .val (.int fi), .val (.int en), .val (.int (1 : Int32))]) rfl (pc' := 45) rfl ?_
      refine s_goto ST403 (hb hby dAF20_45) (by decide) (pcT := 3) (by decide) ?_
      refine s_iload ST403 (hb hby dAF20_3) rfl (pc' := 5) rfl ?_
      refine s_aloadN ST403 (hb hby dAF20_5) rfl rfl (pc' := 6) rfl ?_
      refine g_getF ST403 (w40 hw) Via.refl Fn (hb hby dAF20_6) ?_
      intro T405 ST405
      show Go p e below _ (T405.setTop (mkF m 9 #[.val (.ref x), .val (.int (0 : Int32)), .val (.int fi), .val (.int en), .val (.int (1 : Int32))] [(.int (2 : Int32)), (.int (1 : Int32))]))
      refine s_icmpN ST405 (hb hby dAF20_9) (by decide) (pc' := 12) rfl ?_
      refine s_aloadN ST405 (hb hby dAF20_12) rfl rfl (pc' := 13) rfl ?_
      refine g_getF ST405 (w33 hw) Via.refl Fb (hb hby dAF20_13) ?_
      intro T406 ST406
      show Go p e below _ (T406.setTop (mkF m 16 #[.val (.ref x), .val (.int (0 : Int32)), .val (.int fi), .val (.int en), .val (.int (1 : Int32))] [(.ref t)]))
      refine s_iload ST406 (hb hby dAF20_16) rfl (pc' := 18) rfl ?_
      refine s_iconst ST406 (hb hby dAF20_18) (v := (5 : Int32)) rfl (pc' := 19) rfl ?_
      refine s_imul ST406 (hb hby dAF20_19) (z := (5 : Int32)) rfl (pc' := 20) rfl ?_
      refine s_iconst ST406 (hb hby dAF20_20) (v := (0 : Int32)) rfl (pc' := 21) rfl ?_
      refine s_iadd ST406 (hb hby dAF20_21) (z := (5 : Int32)) rfl (pc' := 22) rfl ?_
      refine g_iaload ST406 Vt ⟨by decide, by decide⟩ (x := p1) rfl (hb hby dAF20_22) ?_
      show Go p e below _ (T406.setTop (mkF m 23 #[.val (.ref x), .val (.int (0 : Int32)), .val (.int fi), .val (.int en), .val (.int (1 : Int32))] [(.int p1)]))
      refine s_iloadN ST406 (hb hby dAF20_23) rfl (pc' := 24) rfl ?_
      refine g_icmp ST406 (hb hby dAF20_24) (by decide) (pcT := 48) (by decide) (fun q => ?_) (fun q => ?_)
      · have hc24_407 : p1 < fi := icT_lt q
        show Go p e below _ (T406.setTop (mkF m 48 #[.val (.ref x), .val (.int (0 : Int32)), .val (.int fi), .val (.int en), .val (.int (1 : Int32))] []))
        refine s_iload ST406 (hb hby dAF20_48) rfl (pc' := 50) rfl ?_
        show Go p e below _ (T406.setTop (mkF m 50 #[.val (.ref x), .val (.int (0 : Int32)), .val (.int fi), .val (.int en), .val (.int (1 : Int32))] [(.int (1 : Int32))]))
        exact g_iret ST406 (hb hby dAF20_50) hret ⟨_, rfl, (Or.inr (Or.inl ⟨rfl, ⟨hc24_402, hc39_404⟩, (Or.inl hc24_407), trivial⟩)), rfl⟩
      · have hc24_407 : ¬ p1 < fi := icF_lt q
        show Go p e below _ (T406.setTop (mkF m 27 #[.val (.ref x), .val (.int (0 : Int32)), .val (.int fi), .val (.int en), .val (.int (1 : Int32))] []))
        refine s_aloadN ST406 (hb hby dAF20_27) rfl rfl (pc' := 28) rfl ?_
        refine g_getF ST406 (w33 hw) Via.refl Fb (hb hby dAF20_28) ?_
        intro T408 ST408
        show Go p e below _ (T408.setTop (mkF m 31 #[.val (.ref x), .val (.int (0 : Int32)), .val (.int fi), .val (.int en), .val (.int (1 : Int32))] [(.ref t)]))
        refine s_iload ST408 (hb hby dAF20_31) rfl (pc' := 33) rfl ?_
        refine s_iconst ST408 (hb hby dAF20_33) (v := (5 : Int32)) rfl (pc' := 34) rfl ?_
        refine s_imul ST408 (hb hby dAF20_34) (z := (5 : Int32)) rfl (pc' := 35) rfl ?_
        refine s_iconst ST408 (hb hby dAF20_35) (v := (0 : Int32)) rfl (pc' := 36) rfl ?_
        refine s_iadd ST408 (hb hby dAF20_36) (z := (5 : Int32)) rfl (pc' := 37) rfl ?_
        refine g_iaload ST408 Vt ⟨by decide, by decide⟩ (x := p1) rfl (hb hby dAF20_37) ?_
        show Go p e below _ (T408.setTop (mkF m 38 #[.val (.ref x), .val (.int (0 : Int32)), .val (.int fi), .val (.int en), .val (.int (1 : Int32))] [(.int p1)]))
        refine s_iloadN ST408 (hb hby dAF20_38) rfl (pc' := 39) rfl ?_
        refine g_icmp ST408 (hb hby dAF20_39) (by decide) (pcT := 48) (by decide) (fun q => ?_) (fun q => ?_)
        · have hc39_409 : ¬ p1 < en := icT_ge q
          show Go p e below _ (T408.setTop (mkF m 48 #[.val (.ref x), .val (.int (0 : Int32)), .val (.int fi), .val (.int en), .val (.int (1 : Int32))] []))
          refine s_iload ST408 (hb hby dAF20_48) rfl (pc' := 50) rfl ?_
          show Go p e below _ (T408.setTop (mkF m 50 #[.val (.ref x), .val (.int (0 : Int32)), .val (.int fi), .val (.int en), .val (.int (1 : Int32))] [(.int (1 : Int32))]))
          exact g_iret ST408 (hb hby dAF20_50) hret ⟨_, rfl, (Or.inr (Or.inl ⟨rfl, ⟨hc24_402, hc39_404⟩, (Or.inr hc39_409), trivial⟩)), rfl⟩
        · have hc39_409 : p1 < en := icF_ge q
          show Go p e below _ (T408.setTop (mkF m 42 #[.val (.ref x), .val (.int (0 : Int32)), .val (.int fi), .val (.int en), .val (.int (1 : Int32))] []))
          refine s_iinc ST408 (hb hby dAF20_42) rfl (z := (2 : Int32)) rfl (L' := #[.val (.ref x), .val (.int (0 : Int32)), .val (.int fi), .val (.int en), .val (.int (2 : Int32))]) rfl (pc' := 45) rfl ?_
          refine s_goto ST408 (hb hby dAF20_45) (by decide) (pcT := 3) (by decide) ?_
          refine s_iload ST408 (hb hby dAF20_3) rfl (pc' := 5) rfl ?_
          refine s_aloadN ST408 (hb hby dAF20_5) rfl rfl (pc' := 6) rfl ?_
          refine g_getF ST408 (w40 hw) Via.refl Fn (hb hby dAF20_6) ?_
          intro T410 ST410
          show Go p e below _ (T410.setTop (mkF m 9 #[.val (.ref x), .val (.int (0 : Int32)), .val (.int fi), .val (.int en), .val (.int (2 : Int32))] [(.int (2 : Int32)), (.int (2 : Int32))]))
          refine s_icmpY ST410 (hb hby dAF20_9) (by decide) (by decide) (pcT := 48) (by decide) ?_
          refine s_iload ST410 (hb hby dAF20_48) rfl (pc' := 50) rfl ?_
          show Go p e below _ (T410.setTop (mkF m 50 #[.val (.ref x), .val (.int (0 : Int32)), .val (.int fi), .val (.int en), .val (.int (2 : Int32))] [(.int (2 : Int32))]))
          exact g_iret ST410 (hb hby dAF20_50) hret ⟨_, rfl, (Or.inr (Or.inr ⟨rfl, ⟨hc24_402, hc39_404⟩, ⟨hc24_407, hc39_409⟩, trivial⟩)), rfl⟩
theorem dAF21_0 : decode prog_3_method_6_code 0 = .ok (.iload_n 1, 1) := by decide +kernel
theorem dAF21_1 : decode prog_3_method_6_code 1 = .ok (.istore 4, 2) := by decide +kernel
theorem dAF21_3 : decode prog_3_method_6_code 3 = .ok (.iload 4, 2) := by decide +kernel
theorem dAF21_5 : decode prog_3_method_6_code 5 = .ok (.aload_n 0, 1) := by decide +kernel
theorem dAF21_6 : decode prog_3_method_6_code 6 = .ok (.getfield 38, 3) := by decide +kernel
theorem dAF21_9 : decode prog_3_method_6_code 9 = .ok (.if_icmp .ge 39, 3) := by decide +kernel
theorem dAF21_12 : decode prog_3_method_6_code 12 = .ok (.aload_n 0, 1) := by decide +kernel
theorem dAF21_13 : decode prog_3_method_6_code 13 = .ok (.getfield 16, 3) := by decide +kernel
theorem dAF21_16 : decode prog_3_method_6_code 16 = .ok (.iload 4, 2) := by decide +kernel
theorem dAF21_18 : decode prog_3_method_6_code 18 = .ok (.iconst 5, 1) := by decide +kernel
theorem dAF21_19 : decode prog_3_method_6_code 19 = .ok (.imul, 1) := by decide +kernel
theorem dAF21_20 : decode prog_3_method_6_code 20 = .ok (.iconst 0, 1) := by decide +kernel
theorem dAF21_21 : decode prog_3_method_6_code 21 = .ok (.iadd, 1) := by decide +kernel
theorem dAF21_22 : decode prog_3_method_6_code 22 = .ok (.iaload, 1) := by decide +kernel
theorem dAF21_23 : decode prog_3_method_6_code 23 = .ok (.iload_n 2, 1) := by decide +kernel
theorem dAF21_24 : decode prog_3_method_6_code 24 = .ok (.if_icmp .lt 24, 3) := by decide +kernel
theorem dAF21_27 : decode prog_3_method_6_code 27 = .ok (.aload_n 0, 1) := by decide +kernel
theorem dAF21_28 : decode prog_3_method_6_code 28 = .ok (.getfield 16, 3) := by decide +kernel
theorem dAF21_31 : decode prog_3_method_6_code 31 = .ok (.iload 4, 2) := by decide +kernel
theorem dAF21_33 : decode prog_3_method_6_code 33 = .ok (.iconst 5, 1) := by decide +kernel
theorem dAF21_34 : decode prog_3_method_6_code 34 = .ok (.imul, 1) := by decide +kernel
theorem dAF21_35 : decode prog_3_method_6_code 35 = .ok (.iconst 0, 1) := by decide +kernel
theorem dAF21_36 : decode prog_3_method_6_code 36 = .ok (.iadd, 1) := by decide +kernel
theorem dAF21_37 : decode prog_3_method_6_code 37 = .ok (.iaload, 1) := by decide +kernel
theorem dAF21_38 : decode prog_3_method_6_code 38 = .ok (.iload_n 3, 1) := by decide +kernel
theorem dAF21_39 : decode prog_3_method_6_code 39 = .ok (.if_icmp .ge 9, 3) := by decide +kernel
theorem dAF21_42 : decode prog_3_method_6_code 42 = .ok (.iinc 4 1, 3) := by decide +kernel
theorem dAF21_45 : decode prog_3_method_6_code 45 = .ok (.goto (-42), 3) := by decide +kernel
theorem dAF21_48 : decode prog_3_method_6_code 48 = .ok (.iload 4, 2) := by decide +kernel
theorem dAF21_50 : decode prog_3_method_6_code 50 = .ok (.ireturn, 1) := by decide +kernel
set_option maxRecDepth 65536 in
set_option maxHeartbeats 40000000 in
theorem rmAF21 {l : Launch} {Z : State} {a0 : Array Value} {n0 : Nat} (X : Ctx Z a0) {x sb tb t : Addr} {kb kt : ClassId} {bs : List Value} {p0 p1 : Int32} {fi en : Int32} {h : Heap} (hO : Old Z n0 h) (A : AS Z h n0 x sb tb t kb kt (2 : Int32) (80 : Int32) [(.int p0), (.int (0 : Int32)), (.int (0 : Int32)), (.int (-1 : Int32)), (.int (0 : Int32)), (.int p1), (.int (0 : Int32)), (.int (0 : Int32)), (.int (-1 : Int32)), (.int (0 : Int32)), (.int (0 : Int32)), (.int (0 : Int32)), (.int (0 : Int32)), (.int (0 : Int32)), (.int (0 : Int32))] (16 : Int32) (0 : Int32) bs) :
    Ctr l Z EL1 n0 (⟨"com/example/nodewarden/nodewarden/core/Asides", "after", "(III)I"⟩ : MethodName) prog_3_method_6_code 5 (some .int) ({ frames := 0, cells := 0, slots := 0, locals := 0 } : Room) #[(.ref x), (.int (1 : Int32)), (.int fi), (.int en)] h [] (fun v h' => ∃ r : Int32, v = some (.int r) ∧ ((r = (1 : Int32) ∧ (p1 < fi ∨ ¬ p1 < en) ∧ True) ∨ (r = (2 : Int32) ∧ (¬ p1 < fi ∧ p1 < en) ∧ True)) ∧ h' = h) := by
  have hw := X.hw
  obtain ⟨z1, hz1, hz2⟩ := X.2.2.1
  refine Ctr.intro (a0 := a0) (plainFor_of_name pn3) hO X.ew ?_
  intro p e s m below meth c T0 V0 S0 hby hml hret hnm hsf
  rw [ef12]
  obtain ⟨Ex, Ft, Fb, Fn, Vt, ⟨Es, Fv, Fk, Fs, Vb⟩, nx, ns, nb, nt⟩ := A
  have nXS : x ≠ sb := ne_exa Ex Es (by decide)
  have nXT : x ≠ t := Exa.neArv Ex Vt (w2 hw)
  have nXB : x ≠ tb := Exa.neArv Ex Vb (w2 hw)
  have nST : sb ≠ t := Exa.neArv Es Vt (w11 hw)
  have nSB : sb ≠ tb := Exa.neArv Es Vb (w11 hw)
  have nTB : t ≠ tb := arv_kne Vt Vb (by decide)
  show Go p e below _ (T0.setTop (mkF m 0 #[.val (.ref x), .val (.int (1 : Int32)), .val (.int fi), .val (.int en), .unset] []))
  refine s_iloadN S0 (hb hby dAF21_0) rfl (pc' := 1) rfl ?_
  refine s_istore S0 (hb hby dAF21_1) (L' := #[.val (.ref x), .val (.int (1 : Int32)), .val (.int fi), .val (.int en), .val (.int (1 : Int32))]) rfl (pc' := 3) rfl ?_
  refine s_iload S0 (hb hby dAF21_3) rfl (pc' := 5) rfl ?_
  refine s_aloadN S0 (hb hby dAF21_5) rfl rfl (pc' := 6) rfl ?_
  refine g_getF S0 (w40 hw) Via.refl Fn (hb hby dAF21_6) ?_
  intro T411 ST411
  show Go p e below _ (T411.setTop (mkF m 9 #[.val (.ref x), .val (.int (1 : Int32)), .val (.int fi), .val (.int en), .val (.int (1 : Int32))] [(.int (2 : Int32)), (.int (1 : Int32))]))
  refine s_icmpN ST411 (hb hby dAF21_9) (by decide) (pc' := 12) rfl ?_
  refine s_aloadN ST411 (hb hby dAF21_12) rfl rfl (pc' := 13) rfl ?_
  refine g_getF ST411 (w33 hw) Via.refl Fb (hb hby dAF21_13) ?_
  intro T412 ST412
  show Go p e below _ (T412.setTop (mkF m 16 #[.val (.ref x), .val (.int (1 : Int32)), .val (.int fi), .val (.int en), .val (.int (1 : Int32))] [(.ref t)]))
  refine s_iload ST412 (hb hby dAF21_16) rfl (pc' := 18) rfl ?_
  refine s_iconst ST412 (hb hby dAF21_18) (v := (5 : Int32)) rfl (pc' := 19) rfl ?_
  refine s_imul ST412 (hb hby dAF21_19) (z := (5 : Int32)) rfl (pc' := 20) rfl ?_
  refine s_iconst ST412 (hb hby dAF21_20) (v := (0 : Int32)) rfl (pc' := 21) rfl ?_
  refine s_iadd ST412 (hb hby dAF21_21) (z := (5 : Int32)) rfl (pc' := 22) rfl ?_
  refine g_iaload ST412 Vt ⟨by decide, by decide⟩ (x := p1) rfl (hb hby dAF21_22) ?_
  show Go p e below _ (T412.setTop (mkF m 23 #[.val (.ref x), .val (.int (1 : Int32)), .val (.int fi), .val (.int en), .val (.int (1 : Int32))] [(.int p1)]))
  refine s_iloadN ST412 (hb hby dAF21_23) rfl (pc' := 24) rfl ?_
  refine g_icmp ST412 (hb hby dAF21_24) (by decide) (pcT := 48) (by decide) (fun q => ?_) (fun q => ?_)
  · have hc24_413 : p1 < fi := icT_lt q
    show Go p e below _ (T412.setTop (mkF m 48 #[.val (.ref x), .val (.int (1 : Int32)), .val (.int fi), .val (.int en), .val (.int (1 : Int32))] []))
    refine s_iload ST412 (hb hby dAF21_48) rfl (pc' := 50) rfl ?_
    show Go p e below _ (T412.setTop (mkF m 50 #[.val (.ref x), .val (.int (1 : Int32)), .val (.int fi), .val (.int en), .val (.int (1 : Int32))] [(.int (1 : Int32))]))
    exact g_iret ST412 (hb hby dAF21_50) hret ⟨_, rfl, (Or.inl ⟨rfl, (Or.inl hc24_413), trivial⟩), rfl⟩
  · have hc24_413 : ¬ p1 < fi := icF_lt q
    show Go p e below _ (T412.setTop (mkF m 27 #[.val (.ref x), .val (.int (1 : Int32)), .val (.int fi), .val (.int en), .val (.int (1 : Int32))] []))
    refine s_aloadN ST412 (hb hby dAF21_27) rfl rfl (pc' := 28) rfl ?_
    refine g_getF ST412 (w33 hw) Via.refl Fb (hb hby dAF21_28) ?_
    intro T414 ST414
    show Go p e below _ (T414.setTop (mkF m 31 #[.val (.ref x), .val (.int (1 : Int32)), .val (.int fi), .val (.int en), .val (.int (1 : Int32))] [(.ref t)]))
    refine s_iload ST414 (hb hby dAF21_31) rfl (pc' := 33) rfl ?_
    refine s_iconst ST414 (hb hby dAF21_33) (v := (5 : Int32)) rfl (pc' := 34) rfl ?_
    refine s_imul ST414 (hb hby dAF21_34) (z := (5 : Int32)) rfl (pc' := 35) rfl ?_
    refine s_iconst ST414 (hb hby dAF21_35) (v := (0 : Int32)) rfl (pc' := 36) rfl ?_
    refine s_iadd ST414 (hb hby dAF21_36) (z := (5 : Int32)) rfl (pc' := 37) rfl ?_
    refine g_iaload ST414 Vt ⟨by decide, by decide⟩ (x := p1) rfl (hb hby dAF21_37) ?_
    show Go p e below _ (T414.setTop (mkF m 38 #[.val (.ref x), .val (.int (1 : Int32)), .val (.int fi), .val (.int en), .val (.int (1 : Int32))] [(.int p1)]))
    refine s_iloadN ST414 (hb hby dAF21_38) rfl (pc' := 39) rfl ?_
    refine g_icmp ST414 (hb hby dAF21_39) (by decide) (pcT := 48) (by decide) (fun q => ?_) (fun q => ?_)
    · have hc39_415 : ¬ p1 < en := icT_ge q
      show Go p e below _ (T414.setTop (mkF m 48 #[.val (.ref x), .val (.int (1 : Int32)), .val (.int fi), .val (.int en), .val (.int (1 : Int32))] []))
      refine s_iload ST414 (hb hby dAF21_48) rfl (pc' := 50) rfl ?_
      show Go p e below _ (T414.setTop (mkF m 50 #[.val (.ref x), .val (.int (1 : Int32)), .val (.int fi), .val (.int en), .val (.int (1 : Int32))] [(.int (1 : Int32))]))
      exact g_iret ST414 (hb hby dAF21_50) hret ⟨_, rfl, (Or.inl ⟨rfl, (Or.inr hc39_415), trivial⟩), rfl⟩
    · have hc39_415 : p1 < en := icF_ge q
      show Go p e below _ (T414.setTop (mkF m 42 #[.val (.ref x), .val (.int (1 : Int32)), .val (.int fi), .val (.int en), .val (.int (1 : Int32))] []))
      refine s_iinc ST414 (hb hby dAF21_42) rfl (z := (2 : Int32)) rfl (L' := #[.val (.ref x), .val (.int (1 : Int32)), .val (.int fi), .val (.int en), .val (.int (2 : Int32))]) rfl (pc' := 45) rfl ?_
      refine s_goto ST414 (hb hby dAF21_45) (by decide) (pcT := 3) (by decide) ?_
      refine s_iload ST414 (hb hby dAF21_3) rfl (pc' := 5) rfl ?_
      refine s_aloadN ST414 (hb hby dAF21_5) rfl rfl (pc' := 6) rfl ?_
      refine g_getF ST414 (w40 hw) Via.refl Fn (hb hby dAF21_6) ?_
      intro T416 ST416
      show Go p e below _ (T416.setTop (mkF m 9 #[.val (.ref x), .val (.int (1 : Int32)), .val (.int fi), .val (.int en), .val (.int (2 : Int32))] [(.int (2 : Int32)), (.int (2 : Int32))]))
      refine s_icmpY ST416 (hb hby dAF21_9) (by decide) (by decide) (pcT := 48) (by decide) ?_
      refine s_iload ST416 (hb hby dAF21_48) rfl (pc' := 50) rfl ?_
      show Go p e below _ (T416.setTop (mkF m 50 #[.val (.ref x), .val (.int (1 : Int32)), .val (.int fi), .val (.int en), .val (.int (2 : Int32))] [(.int (2 : Int32))]))
      exact g_iret ST416 (hb hby dAF21_50) hret ⟨_, rfl, (Or.inr ⟨rfl, ⟨hc24_413, hc39_415⟩, trivial⟩), rfl⟩
theorem dAF22_0 : decode prog_3_method_6_code 0 = .ok (.iload_n 1, 1) := by decide +kernel
theorem dAF22_1 : decode prog_3_method_6_code 1 = .ok (.istore 4, 2) := by decide +kernel
theorem dAF22_3 : decode prog_3_method_6_code 3 = .ok (.iload 4, 2) := by decide +kernel
theorem dAF22_5 : decode prog_3_method_6_code 5 = .ok (.aload_n 0, 1) := by decide +kernel
theorem dAF22_6 : decode prog_3_method_6_code 6 = .ok (.getfield 38, 3) := by decide +kernel
theorem dAF22_9 : decode prog_3_method_6_code 9 = .ok (.if_icmp .ge 39, 3) := by decide +kernel
theorem dAF22_48 : decode prog_3_method_6_code 48 = .ok (.iload 4, 2) := by decide +kernel
theorem dAF22_50 : decode prog_3_method_6_code 50 = .ok (.ireturn, 1) := by decide +kernel
set_option maxRecDepth 65536 in
set_option maxHeartbeats 40000000 in
theorem rmAF22 {l : Launch} {Z : State} {a0 : Array Value} {n0 : Nat} (X : Ctx Z a0) {x sb tb t : Addr} {kb kt : ClassId} {bs : List Value} {p0 p1 : Int32} {fi en : Int32} {h : Heap} (hO : Old Z n0 h) (A : AS Z h n0 x sb tb t kb kt (2 : Int32) (80 : Int32) [(.int p0), (.int (0 : Int32)), (.int (0 : Int32)), (.int (-1 : Int32)), (.int (0 : Int32)), (.int p1), (.int (0 : Int32)), (.int (0 : Int32)), (.int (-1 : Int32)), (.int (0 : Int32)), (.int (0 : Int32)), (.int (0 : Int32)), (.int (0 : Int32)), (.int (0 : Int32)), (.int (0 : Int32))] (16 : Int32) (0 : Int32) bs) :
    Ctr l Z EL1 n0 (⟨"com/example/nodewarden/nodewarden/core/Asides", "after", "(III)I"⟩ : MethodName) prog_3_method_6_code 5 (some .int) ({ frames := 0, cells := 0, slots := 0, locals := 0 } : Room) #[(.ref x), (.int (2 : Int32)), (.int fi), (.int en)] h [] (fun v h' => ∃ r : Int32, v = some (.int r) ∧ ((r = (2 : Int32) ∧ True)) ∧ h' = h) := by
  have hw := X.hw
  obtain ⟨z1, hz1, hz2⟩ := X.2.2.1
  refine Ctr.intro (a0 := a0) (plainFor_of_name pn3) hO X.ew ?_
  intro p e s m below meth c T0 V0 S0 hby hml hret hnm hsf
  rw [ef12]
  obtain ⟨Ex, Ft, Fb, Fn, Vt, ⟨Es, Fv, Fk, Fs, Vb⟩, nx, ns, nb, nt⟩ := A
  have nXS : x ≠ sb := ne_exa Ex Es (by decide)
  have nXT : x ≠ t := Exa.neArv Ex Vt (w2 hw)
  have nXB : x ≠ tb := Exa.neArv Ex Vb (w2 hw)
  have nST : sb ≠ t := Exa.neArv Es Vt (w11 hw)
  have nSB : sb ≠ tb := Exa.neArv Es Vb (w11 hw)
  have nTB : t ≠ tb := arv_kne Vt Vb (by decide)
  show Go p e below _ (T0.setTop (mkF m 0 #[.val (.ref x), .val (.int (2 : Int32)), .val (.int fi), .val (.int en), .unset] []))
  refine s_iloadN S0 (hb hby dAF22_0) rfl (pc' := 1) rfl ?_
  refine s_istore S0 (hb hby dAF22_1) (L' := #[.val (.ref x), .val (.int (2 : Int32)), .val (.int fi), .val (.int en), .val (.int (2 : Int32))]) rfl (pc' := 3) rfl ?_
  refine s_iload S0 (hb hby dAF22_3) rfl (pc' := 5) rfl ?_
  refine s_aloadN S0 (hb hby dAF22_5) rfl rfl (pc' := 6) rfl ?_
  refine g_getF S0 (w40 hw) Via.refl Fn (hb hby dAF22_6) ?_
  intro T417 ST417
  show Go p e below _ (T417.setTop (mkF m 9 #[.val (.ref x), .val (.int (2 : Int32)), .val (.int fi), .val (.int en), .val (.int (2 : Int32))] [(.int (2 : Int32)), (.int (2 : Int32))]))
  refine s_icmpY ST417 (hb hby dAF22_9) (by decide) (by decide) (pcT := 48) (by decide) ?_
  refine s_iload ST417 (hb hby dAF22_48) rfl (pc' := 50) rfl ?_
  show Go p e below _ (T417.setTop (mkF m 50 #[.val (.ref x), .val (.int (2 : Int32)), .val (.int fi), .val (.int en), .val (.int (2 : Int32))] [(.int (2 : Int32))]))
  exact g_iret ST417 (hb hby dAF22_50) hret ⟨_, rfl, ⟨rfl, trivial⟩, rfl⟩
theorem dAF23_0 : decode prog_3_method_6_code 0 = .ok (.iload_n 1, 1) := by decide +kernel
theorem dAF23_1 : decode prog_3_method_6_code 1 = .ok (.istore 4, 2) := by decide +kernel
theorem dAF23_3 : decode prog_3_method_6_code 3 = .ok (.iload 4, 2) := by decide +kernel
theorem dAF23_5 : decode prog_3_method_6_code 5 = .ok (.aload_n 0, 1) := by decide +kernel
theorem dAF23_6 : decode prog_3_method_6_code 6 = .ok (.getfield 38, 3) := by decide +kernel
theorem dAF23_9 : decode prog_3_method_6_code 9 = .ok (.if_icmp .ge 39, 3) := by decide +kernel
theorem dAF23_48 : decode prog_3_method_6_code 48 = .ok (.iload 4, 2) := by decide +kernel
theorem dAF23_50 : decode prog_3_method_6_code 50 = .ok (.ireturn, 1) := by decide +kernel
set_option maxRecDepth 65536 in
set_option maxHeartbeats 40000000 in
theorem rmAF23 {l : Launch} {Z : State} {a0 : Array Value} {n0 : Nat} (X : Ctx Z a0) {x sb tb t : Addr} {kb kt : ClassId} {bs : List Value} {p0 p1 : Int32} {fi en : Int32} {h : Heap} (hO : Old Z n0 h) (A : AS Z h n0 x sb tb t kb kt (2 : Int32) (80 : Int32) [(.int p0), (.int (0 : Int32)), (.int (0 : Int32)), (.int (-1 : Int32)), (.int (0 : Int32)), (.int p1), (.int (0 : Int32)), (.int (0 : Int32)), (.int (-1 : Int32)), (.int (0 : Int32)), (.int (0 : Int32)), (.int (0 : Int32)), (.int (0 : Int32)), (.int (0 : Int32)), (.int (0 : Int32))] (16 : Int32) (0 : Int32) bs) :
    Ctr l Z EL1 n0 (⟨"com/example/nodewarden/nodewarden/core/Asides", "after", "(III)I"⟩ : MethodName) prog_3_method_6_code 5 (some .int) ({ frames := 0, cells := 0, slots := 0, locals := 0 } : Room) #[(.ref x), (.int (3 : Int32)), (.int fi), (.int en)] h [] (fun v h' => ∃ r : Int32, v = some (.int r) ∧ ((r = (3 : Int32) ∧ True)) ∧ h' = h) := by
  have hw := X.hw
  obtain ⟨z1, hz1, hz2⟩ := X.2.2.1
  refine Ctr.intro (a0 := a0) (plainFor_of_name pn3) hO X.ew ?_
  intro p e s m below meth c T0 V0 S0 hby hml hret hnm hsf
  rw [ef12]
  obtain ⟨Ex, Ft, Fb, Fn, Vt, ⟨Es, Fv, Fk, Fs, Vb⟩, nx, ns, nb, nt⟩ := A
  have nXS : x ≠ sb := ne_exa Ex Es (by decide)
  have nXT : x ≠ t := Exa.neArv Ex Vt (w2 hw)
  have nXB : x ≠ tb := Exa.neArv Ex Vb (w2 hw)
  have nST : sb ≠ t := Exa.neArv Es Vt (w11 hw)
  have nSB : sb ≠ tb := Exa.neArv Es Vb (w11 hw)
  have nTB : t ≠ tb := arv_kne Vt Vb (by decide)
  show Go p e below _ (T0.setTop (mkF m 0 #[.val (.ref x), .val (.int (3 : Int32)), .val (.int fi), .val (.int en), .unset] []))
  refine s_iloadN S0 (hb hby dAF23_0) rfl (pc' := 1) rfl ?_
  refine s_istore S0 (hb hby dAF23_1) (L' := #[.val (.ref x), .val (.int (3 : Int32)), .val (.int fi), .val (.int en), .val (.int (3 : Int32))]) rfl (pc' := 3) rfl ?_
  refine s_iload S0 (hb hby dAF23_3) rfl (pc' := 5) rfl ?_
  refine s_aloadN S0 (hb hby dAF23_5) rfl rfl (pc' := 6) rfl ?_
  refine g_getF S0 (w40 hw) Via.refl Fn (hb hby dAF23_6) ?_
  intro T418 ST418
  show Go p e below _ (T418.setTop (mkF m 9 #[.val (.ref x), .val (.int (3 : Int32)), .val (.int fi), .val (.int en), .val (.int (3 : Int32))] [(.int (2 : Int32)), (.int (3 : Int32))]))
  refine s_icmpY ST418 (hb hby dAF23_9) (by decide) (by decide) (pcT := 48) (by decide) ?_
  refine s_iload ST418 (hb hby dAF23_48) rfl (pc' := 50) rfl ?_
  show Go p e below _ (T418.setTop (mkF m 50 #[.val (.ref x), .val (.int (3 : Int32)), .val (.int fi), .val (.int en), .val (.int (3 : Int32))] [(.int (3 : Int32))]))
  exact g_iret ST418 (hb hby dAF23_50) hret ⟨_, rfl, ⟨rfl, trivial⟩, rfl⟩
theorem dAF24_0 : decode prog_3_method_6_code 0 = .ok (.iload_n 1, 1) := by decide +kernel
theorem dAF24_1 : decode prog_3_method_6_code 1 = .ok (.istore 4, 2) := by decide +kernel
theorem dAF24_3 : decode prog_3_method_6_code 3 = .ok (.iload 4, 2) := by decide +kernel
theorem dAF24_5 : decode prog_3_method_6_code 5 = .ok (.aload_n 0, 1) := by decide +kernel
theorem dAF24_6 : decode prog_3_method_6_code 6 = .ok (.getfield 38, 3) := by decide +kernel
theorem dAF24_9 : decode prog_3_method_6_code 9 = .ok (.if_icmp .ge 39, 3) := by decide +kernel
theorem dAF24_48 : decode prog_3_method_6_code 48 = .ok (.iload 4, 2) := by decide +kernel
theorem dAF24_50 : decode prog_3_method_6_code 50 = .ok (.ireturn, 1) := by decide +kernel
set_option maxRecDepth 65536 in
set_option maxHeartbeats 40000000 in
theorem rmAF24 {l : Launch} {Z : State} {a0 : Array Value} {n0 : Nat} (X : Ctx Z a0) {x sb tb t : Addr} {kb kt : ClassId} {bs : List Value} {p0 p1 : Int32} {fi en : Int32} {h : Heap} (hO : Old Z n0 h) (A : AS Z h n0 x sb tb t kb kt (2 : Int32) (80 : Int32) [(.int p0), (.int (0 : Int32)), (.int (0 : Int32)), (.int (-1 : Int32)), (.int (0 : Int32)), (.int p1), (.int (0 : Int32)), (.int (0 : Int32)), (.int (-1 : Int32)), (.int (0 : Int32)), (.int (0 : Int32)), (.int (0 : Int32)), (.int (0 : Int32)), (.int (0 : Int32)), (.int (0 : Int32))] (16 : Int32) (0 : Int32) bs) :
    Ctr l Z EL1 n0 (⟨"com/example/nodewarden/nodewarden/core/Asides", "after", "(III)I"⟩ : MethodName) prog_3_method_6_code 5 (some .int) ({ frames := 0, cells := 0, slots := 0, locals := 0 } : Room) #[(.ref x), (.int (4 : Int32)), (.int fi), (.int en)] h [] (fun v h' => ∃ r : Int32, v = some (.int r) ∧ ((r = (4 : Int32) ∧ True)) ∧ h' = h) := by
  have hw := X.hw
  obtain ⟨z1, hz1, hz2⟩ := X.2.2.1
  refine Ctr.intro (a0 := a0) (plainFor_of_name pn3) hO X.ew ?_
  intro p e s m below meth c T0 V0 S0 hby hml hret hnm hsf
  rw [ef12]
  obtain ⟨Ex, Ft, Fb, Fn, Vt, ⟨Es, Fv, Fk, Fs, Vb⟩, nx, ns, nb, nt⟩ := A
  have nXS : x ≠ sb := ne_exa Ex Es (by decide)
  have nXT : x ≠ t := Exa.neArv Ex Vt (w2 hw)
  have nXB : x ≠ tb := Exa.neArv Ex Vb (w2 hw)
  have nST : sb ≠ t := Exa.neArv Es Vt (w11 hw)
  have nSB : sb ≠ tb := Exa.neArv Es Vb (w11 hw)
  have nTB : t ≠ tb := arv_kne Vt Vb (by decide)
  show Go p e below _ (T0.setTop (mkF m 0 #[.val (.ref x), .val (.int (4 : Int32)), .val (.int fi), .val (.int en), .unset] []))
  refine s_iloadN S0 (hb hby dAF24_0) rfl (pc' := 1) rfl ?_
  refine s_istore S0 (hb hby dAF24_1) (L' := #[.val (.ref x), .val (.int (4 : Int32)), .val (.int fi), .val (.int en), .val (.int (4 : Int32))]) rfl (pc' := 3) rfl ?_
  refine s_iload S0 (hb hby dAF24_3) rfl (pc' := 5) rfl ?_
  refine s_aloadN S0 (hb hby dAF24_5) rfl rfl (pc' := 6) rfl ?_
  refine g_getF S0 (w40 hw) Via.refl Fn (hb hby dAF24_6) ?_
  intro T419 ST419
  show Go p e below _ (T419.setTop (mkF m 9 #[.val (.ref x), .val (.int (4 : Int32)), .val (.int fi), .val (.int en), .val (.int (4 : Int32))] [(.int (2 : Int32)), (.int (4 : Int32))]))
  refine s_icmpY ST419 (hb hby dAF24_9) (by decide) (by decide) (pcT := 48) (by decide) ?_
  refine s_iload ST419 (hb hby dAF24_48) rfl (pc' := 50) rfl ?_
  show Go p e below _ (T419.setTop (mkF m 50 #[.val (.ref x), .val (.int (4 : Int32)), .val (.int fi), .val (.int en), .val (.int (4 : Int32))] [(.int (4 : Int32))]))
  exact g_iret ST419 (hb hby dAF24_50) hret ⟨_, rfl, ⟨rfl, trivial⟩, rfl⟩
theorem dAF30_0 : decode prog_3_method_6_code 0 = .ok (.iload_n 1, 1) := by decide +kernel
theorem dAF30_1 : decode prog_3_method_6_code 1 = .ok (.istore 4, 2) := by decide +kernel
theorem dAF30_3 : decode prog_3_method_6_code 3 = .ok (.iload 4, 2) := by decide +kernel
theorem dAF30_5 : decode prog_3_method_6_code 5 = .ok (.aload_n 0, 1) := by decide +kernel
theorem dAF30_6 : decode prog_3_method_6_code 6 = .ok (.getfield 38, 3) := by decide +kernel
theorem dAF30_9 : decode prog_3_method_6_code 9 = .ok (.if_icmp .ge 39, 3) := by decide +kernel
theorem dAF30_12 : decode prog_3_method_6_code 12 = .ok (.aload_n 0, 1) := by decide +kernel
theorem dAF30_13 : decode prog_3_method_6_code 13 = .ok (.getfield 16, 3) := by decide +kernel
theorem dAF30_16 : decode prog_3_method_6_code 16 = .ok (.iload 4, 2) := by decide +kernel
theorem dAF30_18 : decode prog_3_method_6_code 18 = .ok (.iconst 5, 1) := by decide +kernel
theorem dAF30_19 : decode prog_3_method_6_code 19 = .ok (.imul, 1) := by decide +kernel
theorem dAF30_20 : decode prog_3_method_6_code 20 = .ok (.iconst 0, 1) := by decide +kernel
theorem dAF30_21 : decode prog_3_method_6_code 21 = .ok (.iadd, 1) := by decide +kernel
theorem dAF30_22 : decode prog_3_method_6_code 22 = .ok (.iaload, 1) := by decide +kernel
theorem dAF30_23 : decode prog_3_method_6_code 23 = .ok (.iload_n 2, 1) := by decide +kernel
theorem dAF30_24 : decode prog_3_method_6_code 24 = .ok (.if_icmp .lt 24, 3) := by decide +kernel
theorem dAF30_27 : decode prog_3_method_6_code 27 = .ok (.aload_n 0, 1) := by decide +kernel
theorem dAF30_28 : decode prog_3_method_6_code 28 = .ok (.getfield 16, 3) := by decide +kernel
theorem dAF30_31 : decode prog_3_method_6_code 31 = .ok (.iload 4, 2) := by decide +kernel
theorem dAF30_33 : decode prog_3_method_6_code 33 = .ok (.iconst 5, 1) := by decide +kernel
theorem dAF30_34 : decode prog_3_method_6_code 34 = .ok (.imul, 1) := by decide +kernel
theorem dAF30_35 : decode prog_3_method_6_code 35 = .ok (.iconst 0, 1) := by decide +kernel
theorem dAF30_36 : decode prog_3_method_6_code 36 = .ok (.iadd, 1) := by decide +kernel
theorem dAF30_37 : decode prog_3_method_6_code 37 = .ok (.iaload, 1) := by decide +kernel
theorem dAF30_38 : decode prog_3_method_6_code 38 = .ok (.iload_n 3, 1) := by decide +kernel
theorem dAF30_39 : decode prog_3_method_6_code 39 = .ok (.if_icmp .ge 9, 3) := by decide +kernel
theorem dAF30_42 : decode prog_3_method_6_code 42 = .ok (.iinc 4 1, 3) := by decide +kernel
theorem dAF30_45 : decode prog_3_method_6_code 45 = .ok (.goto (-42), 3) := by decide +kernel
theorem dAF30_48 : decode prog_3_method_6_code 48 = .ok (.iload 4, 2) := by decide +kernel
theorem dAF30_50 : decode prog_3_method_6_code 50 = .ok (.ireturn, 1) := by decide +kernel
set_option maxRecDepth 65536 in
set_option maxHeartbeats 40000000 in
theorem rmAF30 {l : Launch} {Z : State} {a0 : Array Value} {n0 : Nat} (X : Ctx Z a0) {x sb tb t : Addr} {kb kt : ClassId} {bs : List Value} {p0 p1 p2 : Int32} {fi en : Int32} {h : Heap} (hO : Old Z n0 h) (A : AS Z h n0 x sb tb t kb kt (3 : Int32) (80 : Int32) [(.int p0), (.int (0 : Int32)), (.int (0 : Int32)), (.int (-1 : Int32)), (.int (0 : Int32)), (.int p1), (.int (0 : Int32)), (.int (0 : Int32)), (.int (-1 : Int32)), (.int (0 : Int32)), (.int p2), (.int (0 : Int32)), (.int (0 : Int32)), (.int (-1 : Int32)), (.int (0 : Int32))] (16 : Int32) (0 : Int32) bs) :
    Ctr l Z EL1 n0 (⟨"com/example/nodewarden/nodewarden/core/Asides", "after", "(III)I"⟩ : MethodName) prog_3_method_6_code 5 (some .int) ({ frames := 0, cells := 0, slots := 0, locals := 0 } : Room) #[(.ref x), (.int (0 : Int32)), (.int fi), (.int en)] h [] (fun v h' => ∃ r : Int32, v = some (.int r) ∧ ((r = (0 : Int32) ∧ (p0 < fi ∨ ¬ p0 < en) ∧ True) ∨ (r = (1 : Int32) ∧ (¬ p0 < fi ∧ p0 < en) ∧ (p1 < fi ∨ ¬ p1 < en) ∧ True) ∨ (r = (2 : Int32) ∧ (¬ p0 < fi ∧ p0 < en) ∧ (¬ p1 < fi ∧ p1 < en) ∧ (p2 < fi ∨ ¬ p2 < en) ∧ True) ∨ (r = (3 : Int32) ∧ (¬ p0 < fi ∧ p0 < en) ∧ (¬ p1 < fi ∧ p1 < en) ∧ (¬ p2 < fi ∧ p2 < en) ∧ True)) ∧ h' = h) := by
  have hw := X.hw
  obtain ⟨z1, hz1, hz2⟩ := X.2.2.1
  refine Ctr.intro (a0 := a0) (plainFor_of_name pn3) hO X.ew ?_
  intro p e s m below meth c T0 V0 S0 hby hml hret hnm hsf
  rw [ef12]
  obtain ⟨Ex, Ft, Fb, Fn, Vt, ⟨Es, Fv, Fk, Fs, Vb⟩, nx, ns, nb, nt⟩ := A
  have nXS : x ≠ sb := ne_exa Ex Es (by decide)
  have nXT : x ≠ t := Exa.neArv Ex Vt (w2 hw)
  have nXB : x ≠ tb := Exa.neArv Ex Vb (w2 hw)
  have nST : sb ≠ t := Exa.neArv Es Vt (w11 hw)
  have nSB : sb ≠ tb := Exa.neArv Es Vb (w11 hw)
  have nTB : t ≠ tb := arv_kne Vt Vb (by decide)
  show Go p e below _ (T0.setTop (mkF m 0 #[.val (.ref x), .val (.int (0 : Int32)), .val (.int fi), .val (.int en), .unset] []))
  refine s_iloadN S0 (hb hby dAF30_0) rfl (pc' := 1) rfl ?_
  refine s_istore S0 (hb hby dAF30_1) (L' := #[.val (.ref x), .val (.int (0 : Int32)), .val (.int fi), .val (.int en), .val (.int (0 : Int32))]) rfl (pc' := 3) rfl ?_
  refine s_iload S0 (hb hby dAF30_3) rfl (pc' := 5) rfl ?_
  refine s_aloadN S0 (hb hby dAF30_5) rfl rfl (pc' := 6) rfl ?_
  refine g_getF S0 (w40 hw) Via.refl Fn (hb hby dAF30_6) ?_
  intro T420 ST420
  show Go p e below _ (T420.setTop (mkF m 9 #[.val (.ref x), .val (.int (0 : Int32)), .val (.int fi), .val (.int en), .val (.int (0 : Int32))] [(.int (3 : Int32)), (.int (0 : Int32))]))
  refine s_icmpN ST420 (hb hby dAF30_9) (by decide) (pc' := 12) rfl ?_
  refine s_aloadN ST420 (hb hby dAF30_12) rfl rfl (pc' := 13) rfl ?_
  refine g_getF ST420 (w33 hw) Via.refl Fb (hb hby dAF30_13) ?_
  intro T421 ST421
  show Go p e below _ (T421.setTop (mkF m 16 #[.val (.ref x), .val (.int (0 : Int32)), .val (.int fi), .val (.int en), .val (.int (0 : Int32))] [(.ref t)]))
  refine s_iload ST421 (hb hby dAF30_16) rfl (pc' := 18) rfl ?_
  refine s_iconst ST421 (hb hby dAF30_18) (v := (5 : Int32)) rfl (pc' := 19) rfl ?_
  refine s_imul ST421 (hb hby dAF30_19) (z := (0 : Int32)) rfl (pc' := 20) rfl ?_
  refine s_iconst ST421 (hb hby dAF30_20) (v := (0 : Int32)) rfl (pc' := 21) rfl ?_
  refine s_iadd ST421 (hb hby dAF30_21) (z := (0 : Int32)) rfl (pc' := 22) rfl ?_
  refine g_iaload ST421 Vt ⟨by decide, by decide⟩ (x := p0) rfl (hb hby dAF30_22) ?_
  show Go p e below _ (T421.setTop (mkF m 23 #[.val (.ref x), .val (.int (0 : Int32)), .val (.int fi), .val (.int en), .val (.int (0 : Int32))] [(.int p0)]))
  refine s_iloadN ST421 (hb hby dAF30_23) rfl (pc' := 24) rfl ?_
  refine g_icmp ST421 (hb hby dAF30_24) (by decide) (pcT := 48) (by decide) (fun q => ?_) (fun q => ?_)
  · have hc24_422 : p0 < fi := icT_lt q
    show Go p e below _ (T421.setTop (mkF m 48 #[.val (.ref x), .val (.int (0 : Int32)), .val (.int fi), .val (.int en), .val (.int (0 : Int32))] []))
    refine s_iload ST421 (hb hby dAF30_48) rfl (pc' := 50) rfl ?_
    show Go p e below _ (T421.setTop (mkF m 50 #[.val (.ref x), .val (.int (0 : Int32)), .val (.int fi), .val (.int en), .val (.int (0 : Int32))] [(.int (0 : Int32))]))
    exact g_iret ST421 (hb hby dAF30_50) hret ⟨_, rfl, (Or.inl ⟨rfl, (Or.inl hc24_422), trivial⟩), rfl⟩
  · have hc24_422 : ¬ p0 < fi := icF_lt q
    show Go p e below _ (T421.setTop (mkF m 27 #[.val (.ref x), .val (.int (0 : Int32)), .val (.int fi), .val (.int en), .val (.int (0 : Int32))] []))
    refine s_aloadN ST421 (hb hby dAF30_27) rfl rfl (pc' := 28) rfl ?_
    refine g_getF ST421 (w33 hw) Via.refl Fb (hb hby dAF30_28) ?_
    intro T423 ST423
    show Go p e below _ (T423.setTop (mkF m 31 #[.val (.ref x), .val (.int (0 : Int32)), .val (.int fi), .val (.int en), .val (.int (0 : Int32))] [(.ref t)]))
    refine s_iload ST423 (hb hby dAF30_31) rfl (pc' := 33) rfl ?_
    refine s_iconst ST423 (hb hby dAF30_33) (v := (5 : Int32)) rfl (pc' := 34) rfl ?_
    refine s_imul ST423 (hb hby dAF30_34) (z := (0 : Int32)) rfl (pc' := 35) rfl ?_
    refine s_iconst ST423 (hb hby dAF30_35) (v := (0 : Int32)) rfl (pc' := 36) rfl ?_
    refine s_iadd ST423 (hb hby dAF30_36) (z := (0 : Int32)) rfl (pc' := 37) rfl ?_
    refine g_iaload ST423 Vt ⟨by decide, by decide⟩ (x := p0) rfl (hb hby dAF30_37) ?_
    show Go p e below _ (T423.setTop (mkF m 38 #[.val (.ref x), .val (.int (0 : Int32)), .val (.int fi), .val (.int en), .val (.int (0 : Int32))] [(.int p0)]))
    refine s_iloadN ST423 (hb hby dAF30_38) rfl (pc' := 39) rfl ?_
    refine g_icmp ST423 (hb hby dAF30_39) (by decide) (pcT := 48) (by decide) (fun q => ?_) (fun q => ?_)
    · have hc39_424 : ¬ p0 < en := icT_ge q
      show Go p e below _ (T423.setTop (mkF m 48 #[.val (.ref x), .val (.int (0 : Int32)), .val (.int fi), .val (.int en), .val (.int (0 : Int32))] []))
      refine s_iload ST423 (hb hby dAF30_48) rfl (pc' := 50) rfl ?_
      show Go p e below _ (T423.setTop (mkF m 50 #[.val (.ref x), .val (.int (0 : Int32)), .val (.int fi), .val (.int en), .val (.int (0 : Int32))] [(.int (0 : Int32))]))
      exact g_iret ST423 (hb hby dAF30_50) hret ⟨_, rfl, (Or.inl ⟨rfl, (Or.inr hc39_424), trivial⟩), rfl⟩
    · have hc39_424 : p0 < en := icF_ge q
      show Go p e below _ (T423.setTop (mkF m 42 #[.val (.ref x), .val (.int (0 : Int32)), .val (.int fi), .val (.int en), .val (.int (0 : Int32))] []))
      refine s_iinc ST423 (hb hby dAF30_42) rfl (z := (1 : Int32)) rfl (L' := #[.val (.ref x), .val (.int (0 : Int32)), .val (.int fi), .val (.int en), .val (.int (1 : Int32))]) rfl (pc' := 45) rfl ?_
      refine s_goto ST423 (hb hby dAF30_45) (by decide) (pcT := 3) (by decide) ?_
      refine s_iload ST423 (hb hby dAF30_3) rfl (pc' := 5) rfl ?_
      refine s_aloadN ST423 (hb hby dAF30_5) rfl rfl (pc' := 6) rfl ?_
      refine g_getF ST423 (w40 hw) Via.refl Fn (hb hby dAF30_6) ?_
      intro T425 ST425
      show Go p e below _ (T425.setTop (mkF m 9 #[.val (.ref x), .val (.int (0 : Int32)), .val (.int fi), .val (.int en), .val (.int (1 : Int32))] [(.int (3 : Int32)), (.int (1 : Int32))]))
      refine s_icmpN ST425 (hb hby dAF30_9) (by decide) (pc' := 12) rfl ?_
      refine s_aloadN ST425 (hb hby dAF30_12) rfl rfl (pc' := 13) rfl ?_
      refine g_getF ST425 (w33 hw) Via.refl Fb (hb hby dAF30_13) ?_
      intro T426 ST426
      show Go p e below _ (T426.setTop (mkF m 16 #[.val (.ref x), .val (.int (0 : Int32)), .val (.int fi), .val (.int en), .val (.int (1 : Int32))] [(.ref t)]))
      refine s_iload ST426 (hb hby dAF30_16) rfl (pc' := 18) rfl ?_
      refine s_iconst ST426 (hb hby dAF30_18) (v := (5 : Int32)) rfl (pc' := 19) rfl ?_
      refine s_imul ST426 (hb hby dAF30_19) (z := (5 : Int32)) rfl (pc' := 20) rfl ?_
      refine s_iconst ST426 (hb hby dAF30_20) (v := (0 : Int32)) rfl (pc' := 21) rfl ?_
      refine s_iadd ST426 (hb hby dAF30_21) (z := (5 : Int32)) rfl (pc' := 22) rfl ?_
      refine g_iaload ST426 Vt ⟨by decide, by decide⟩ (x := p1) rfl (hb hby dAF30_22) ?_
      show Go p e below _ (T426.setTop (mkF m 23 #[.val (.ref x), .val (.int (0 : Int32)), .val (.int fi), .val (.int en), .val (.int (1 : Int32))] [(.int p1)]))
      refine s_iloadN ST426 (hb hby dAF30_23) rfl (pc' := 24) rfl ?_
      refine g_icmp ST426 (hb hby dAF30_24) (by decide) (pcT := 48) (by decide) (fun q => ?_) (fun q => ?_)
      · have hc24_427 : p1 < fi := icT_lt q
        show Go p e below _ (T426.setTop (mkF m 48 #[.val (.ref x), .val (.int (0 : Int32)), .val (.int fi), .val (.int en), .val (.int (1 : Int32))] []))
        refine s_iload ST426 (hb hby dAF30_48) rfl (pc' := 50) rfl ?_
        show Go p e below _ (T426.setTop (mkF m 50 #[.val (.ref x), .val (.int (0 : Int32)), .val (.int fi), .val (.int en), .val (.int (1 : Int32))] [(.int (1 : Int32))]))
        exact g_iret ST426 (hb hby dAF30_50) hret ⟨_, rfl, (Or.inr (Or.inl ⟨rfl, ⟨hc24_422, hc39_424⟩, (Or.inl hc24_427), trivial⟩)), rfl⟩
      · have hc24_427 : ¬ p1 < fi := icF_lt q
        show Go p e below _ (T426.setTop (mkF m 27 #[.val (.ref x), .val (.int (0 : Int32)), .val (.int fi), .val (.int en), .val (.int (1 : Int32))] []))
        refine s_aloadN ST426 (hb hby dAF30_27) rfl rfl (pc' := 28) rfl ?_
        refine g_getF ST426 (w33 hw) Via.refl Fb (hb hby dAF30_28) ?_
        intro T428 ST428
        show Go p e below _ (T428.setTop (mkF m 31 #[.val (.ref x), .val (.int (0 : Int32)), .val (.int fi), .val (.int en), .val (.int (1 : Int32))] [(.ref t)]))
        refine s_iload ST428 (hb hby dAF30_31) rfl (pc' := 33) rfl ?_
        refine s_iconst ST428 (hb hby dAF30_33) (v := (5 : Int32)) rfl (pc' := 34) rfl ?_
        refine s_imul ST428 (hb hby dAF30_34) (z := (5 : Int32)) rfl (pc' := 35) rfl ?_
        refine s_iconst ST428 (hb hby dAF30_35) (v := (0 : Int32)) rfl (pc' := 36) rfl ?_
        refine s_iadd ST428 (hb hby dAF30_36) (z := (5 : Int32)) rfl (pc' := 37) rfl ?_
        refine g_iaload ST428 Vt ⟨by decide, by decide⟩ (x := p1) rfl (hb hby dAF30_37) ?_
        show Go p e below _ (T428.setTop (mkF m 38 #[.val (.ref x), .val (.int (0 : Int32)), .val (.int fi), .val (.int en), .val (.int (1 : Int32))] [(.int p1)]))
        refine s_iloadN ST428 (hb hby dAF30_38) rfl (pc' := 39) rfl ?_
        refine g_icmp ST428 (hb hby dAF30_39) (by decide) (pcT := 48) (by decide) (fun q => ?_) (fun q => ?_)
        · have hc39_429 : ¬ p1 < en := icT_ge q
          show Go p e below _ (T428.setTop (mkF m 48 #[.val (.ref x), .val (.int (0 : Int32)), .val (.int fi), .val (.int en), .val (.int (1 : Int32))] []))
          refine s_iload ST428 (hb hby dAF30_48) rfl (pc' := 50) rfl ?_
          show Go p e below _ (T428.setTop (mkF m 50 #[.val (.ref x), .val (.int (0 : Int32)), .val (.int fi), .val (.int en), .val (.int (1 : Int32))] [(.int (1 : Int32))]))
          exact g_iret ST428 (hb hby dAF30_50) hret ⟨_, rfl, (Or.inr (Or.inl ⟨rfl, ⟨hc24_422, hc39_424⟩, (Or.inr hc39_429), trivial⟩)), rfl⟩
        · have hc39_429 : p1 < en := icF_ge q
          show Go p e below _ (T428.setTop (mkF m 42 #[.val (.ref x), .val (.int (0 : Int32)), .val (.int fi), .val (.int en), .val (.int (1 : Int32))] []))
          refine s_iinc ST428 (hb hby dAF30_42) rfl (z := (2 : Int32)) rfl (L' := #[.val (.ref x), .val (.int (0 : Int32)), .val (.int fi), .val (.int en), .val (.int (2 : Int32))]) rfl (pc' := 45) rfl ?_
          refine s_goto ST428 (hb hby dAF30_45) (by decide) (pcT := 3) (by decide) ?_
          refine s_iload ST428 (hb hby dAF30_3) rfl (pc' := 5) rfl ?_
          refine s_aloadN ST428 (hb hby dAF30_5) rfl rfl (pc' := 6) rfl ?_
          refine g_getF ST428 (w40 hw) Via.refl Fn (hb hby dAF30_6) ?_
          intro T430 ST430
          show Go p e below _ (T430.setTop (mkF m 9 #[.val (.ref x), .val (.int (0 : Int32)), .val (.int fi), .val (.int en), .val (.int (2 : Int32))] [(.int (3 : Int32)), (.int (2 : Int32))]))
          refine s_icmpN ST430 (hb hby dAF30_9) (by decide) (pc' := 12) rfl ?_
          refine s_aloadN ST430 (hb hby dAF30_12) rfl rfl (pc' := 13) rfl ?_
          refine g_getF ST430 (w33 hw) Via.refl Fb (hb hby dAF30_13) ?_
          intro T431 ST431
          show Go p e below _ (T431.setTop (mkF m 16 #[.val (.ref x), .val (.int (0 : Int32)), .val (.int fi), .val (.int en), .val (.int (2 : Int32))] [(.ref t)]))
          refine s_iload ST431 (hb hby dAF30_16) rfl (pc' := 18) rfl ?_
          refine s_iconst ST431 (hb hby dAF30_18) (v := (5 : Int32)) rfl (pc' := 19) rfl ?_
          refine s_imul ST431 (hb hby dAF30_19) (z := (10 : Int32)) rfl (pc' := 20) rfl ?_
          refine s_iconst ST431 (hb hby dAF30_20) (v := (0 : Int32)) rfl (pc' := 21) rfl ?_
          refine s_iadd ST431 (hb hby dAF30_21) (z := (10 : Int32)) rfl (pc' := 22) rfl ?_
          refine g_iaload ST431 Vt ⟨by decide, by decide⟩ (x := p2) rfl (hb hby dAF30_22) ?_
          show Go p e below _ (T431.setTop (mkF m 23 #[.val (.ref x), .val (.int (0 : Int32)), .val (.int fi), .val (.int en), .val (.int (2 : Int32))] [(.int p2)]))
          refine s_iloadN ST431 (hb hby dAF30_23) rfl (pc' := 24) rfl ?_
          refine g_icmp ST431 (hb hby dAF30_24) (by decide) (pcT := 48) (by decide) (fun q => ?_) (fun q => ?_)
          · have hc24_432 : p2 < fi := icT_lt q
            show Go p e below _ (T431.setTop (mkF m 48 #[.val (.ref x), .val (.int (0 : Int32)), .val (.int fi), .val (.int en), .val (.int (2 : Int32))] []))
            refine s_iload ST431 (hb hby dAF30_48) rfl (pc' := 50) rfl ?_
            show Go p e below _ (T431.setTop (mkF m 50 #[.val (.ref x), .val (.int (0 : Int32)), .val (.int fi), .val (.int en), .val (.int (2 : Int32))] [(.int (2 : Int32))]))
            exact g_iret ST431 (hb hby dAF30_50) hret ⟨_, rfl, (Or.inr (Or.inr (Or.inl ⟨rfl, ⟨hc24_422, hc39_424⟩, ⟨hc24_427, hc39_429⟩, (Or.inl hc24_432), trivial⟩))), rfl⟩
          · have hc24_432 : ¬ p2 < fi := icF_lt q
            show Go p e below _ (T431.setTop (mkF m 27 #[.val (.ref x), .val (.int (0 : Int32)), .val (.int fi), .val (.int en), .val (.int (2 : Int32))] []))
            refine s_aloadN ST431 (hb hby dAF30_27) rfl rfl (pc' := 28) rfl ?_
            refine g_getF ST431 (w33 hw) Via.refl Fb (hb hby dAF30_28) ?_
            intro T433 ST433
            show Go p e below _ (T433.setTop (mkF m 31 #[.val (.ref x), .val (.int (0 : Int32)), .val (.int fi), .val (.int en), .val (.int (2 : Int32))] [(.ref t)]))
            refine s_iload ST433 (hb hby dAF30_31) rfl (pc' := 33) rfl ?_
            refine s_iconst ST433 (hb hby dAF30_33) (v := (5 : Int32)) rfl (pc' := 34) rfl ?_
            refine s_imul ST433 (hb hby dAF30_34) (z := (10 : Int32)) rfl (pc' := 35) rfl ?_
            refine s_iconst ST433 (hb hby dAF30_35) (v := (0 : Int32)) rfl (pc' := 36) rfl ?_
            refine s_iadd ST433 (hb hby dAF30_36) (z := (10 : Int32)) rfl (pc' := 37) rfl ?_
            refine g_iaload ST433 Vt ⟨by decide, by decide⟩ (x := p2) rfl (hb hby dAF30_37) ?_
            show Go p e below _ (T433.setTop (mkF m 38 #[.val (.ref x), .val (.int (0 : Int32)), .val (.int fi), .val (.int en), .val (.int (2 : Int32))] [(.int p2)]))
            refine s_iloadN ST433 (hb hby dAF30_38) rfl (pc' := 39) rfl ?_
            refine g_icmp ST433 (hb hby dAF30_39) (by decide) (pcT := 48) (by decide) (fun q => ?_) (fun q => ?_)
            · have hc39_434 : ¬ p2 < en := icT_ge q
              show Go p e below _ (T433.setTop (mkF m 48 #[.val (.ref x), .val (.int (0 : Int32)), .val (.int fi), .val (.int en), .val (.int (2 : Int32))] []))
              refine s_iload ST433 (hb hby dAF30_48) rfl (pc' := 50) rfl ?_
              show Go p e below _ (T433.setTop (mkF m 50 #[.val (.ref x), .val (.int (0 : Int32)), .val (.int fi), .val (.int en), .val (.int (2 : Int32))] [(.int (2 : Int32))]))
              exact g_iret ST433 (hb hby dAF30_50) hret ⟨_, rfl, (Or.inr (Or.inr (Or.inl ⟨rfl, ⟨hc24_422, hc39_424⟩, ⟨hc24_427, hc39_429⟩, (Or.inr hc39_434), trivial⟩))), rfl⟩
            · have hc39_434 : p2 < en := icF_ge q
              show Go p e below _ (T433.setTop (mkF m 42 #[.val (.ref x), .val (.int (0 : Int32)), .val (.int fi), .val (.int en), .val (.int (2 : Int32))] []))
              refine s_iinc ST433 (hb hby dAF30_42) rfl (z := (3 : Int32)) rfl (L' := #[.val (.ref x), .val (.int (0 : Int32)), .val (.int fi), .val (.int en), .val (.int (3 : Int32))]) rfl (pc' := 45) rfl ?_
              refine s_goto ST433 (hb hby dAF30_45) (by decide) (pcT := 3) (by decide) ?_
              refine s_iload ST433 (hb hby dAF30_3) rfl (pc' := 5) rfl ?_
              refine s_aloadN ST433 (hb hby dAF30_5) rfl rfl (pc' := 6) rfl ?_
              refine g_getF ST433 (w40 hw) Via.refl Fn (hb hby dAF30_6) ?_
              intro T435 ST435
              show Go p e below _ (T435.setTop (mkF m 9 #[.val (.ref x), .val (.int (0 : Int32)), .val (.int fi), .val (.int en), .val (.int (3 : Int32))] [(.int (3 : Int32)), (.int (3 : Int32))]))
              refine s_icmpY ST435 (hb hby dAF30_9) (by decide) (by decide) (pcT := 48) (by decide) ?_
              refine s_iload ST435 (hb hby dAF30_48) rfl (pc' := 50) rfl ?_
              show Go p e below _ (T435.setTop (mkF m 50 #[.val (.ref x), .val (.int (0 : Int32)), .val (.int fi), .val (.int en), .val (.int (3 : Int32))] [(.int (3 : Int32))]))
              exact g_iret ST435 (hb hby dAF30_50) hret ⟨_, rfl, (Or.inr (Or.inr (Or.inr ⟨rfl, ⟨hc24_422, hc39_424⟩, ⟨hc24_427, hc39_429⟩, ⟨hc24_432, hc39_434⟩, trivial⟩))), rfl⟩
theorem dAF31_0 : decode prog_3_method_6_code 0 = .ok (.iload_n 1, 1) := by decide +kernel
theorem dAF31_1 : decode prog_3_method_6_code 1 = .ok (.istore 4, 2) := by decide +kernel
theorem dAF31_3 : decode prog_3_method_6_code 3 = .ok (.iload 4, 2) := by decide +kernel
theorem dAF31_5 : decode prog_3_method_6_code 5 = .ok (.aload_n 0, 1) := by decide +kernel
theorem dAF31_6 : decode prog_3_method_6_code 6 = .ok (.getfield 38, 3) := by decide +kernel
theorem dAF31_9 : decode prog_3_method_6_code 9 = .ok (.if_icmp .ge 39, 3) := by decide +kernel
theorem dAF31_12 : decode prog_3_method_6_code 12 = .ok (.aload_n 0, 1) := by decide +kernel
theorem dAF31_13 : decode prog_3_method_6_code 13 = .ok (.getfield 16, 3) := by decide +kernel
theorem dAF31_16 : decode prog_3_method_6_code 16 = .ok (.iload 4, 2) := by decide +kernel
theorem dAF31_18 : decode prog_3_method_6_code 18 = .ok (.iconst 5, 1) := by decide +kernel
theorem dAF31_19 : decode prog_3_method_6_code 19 = .ok (.imul, 1) := by decide +kernel
theorem dAF31_20 : decode prog_3_method_6_code 20 = .ok (.iconst 0, 1) := by decide +kernel
theorem dAF31_21 : decode prog_3_method_6_code 21 = .ok (.iadd, 1) := by decide +kernel
theorem dAF31_22 : decode prog_3_method_6_code 22 = .ok (.iaload, 1) := by decide +kernel
theorem dAF31_23 : decode prog_3_method_6_code 23 = .ok (.iload_n 2, 1) := by decide +kernel
theorem dAF31_24 : decode prog_3_method_6_code 24 = .ok (.if_icmp .lt 24, 3) := by decide +kernel
theorem dAF31_27 : decode prog_3_method_6_code 27 = .ok (.aload_n 0, 1) := by decide +kernel
theorem dAF31_28 : decode prog_3_method_6_code 28 = .ok (.getfield 16, 3) := by decide +kernel
theorem dAF31_31 : decode prog_3_method_6_code 31 = .ok (.iload 4, 2) := by decide +kernel
theorem dAF31_33 : decode prog_3_method_6_code 33 = .ok (.iconst 5, 1) := by decide +kernel
theorem dAF31_34 : decode prog_3_method_6_code 34 = .ok (.imul, 1) := by decide +kernel
theorem dAF31_35 : decode prog_3_method_6_code 35 = .ok (.iconst 0, 1) := by decide +kernel
theorem dAF31_36 : decode prog_3_method_6_code 36 = .ok (.iadd, 1) := by decide +kernel
theorem dAF31_37 : decode prog_3_method_6_code 37 = .ok (.iaload, 1) := by decide +kernel
theorem dAF31_38 : decode prog_3_method_6_code 38 = .ok (.iload_n 3, 1) := by decide +kernel
theorem dAF31_39 : decode prog_3_method_6_code 39 = .ok (.if_icmp .ge 9, 3) := by decide +kernel
theorem dAF31_42 : decode prog_3_method_6_code 42 = .ok (.iinc 4 1, 3) := by decide +kernel
theorem dAF31_45 : decode prog_3_method_6_code 45 = .ok (.goto (-42), 3) := by decide +kernel
theorem dAF31_48 : decode prog_3_method_6_code 48 = .ok (.iload 4, 2) := by decide +kernel
theorem dAF31_50 : decode prog_3_method_6_code 50 = .ok (.ireturn, 1) := by decide +kernel
set_option maxRecDepth 65536 in
set_option maxHeartbeats 40000000 in
theorem rmAF31 {l : Launch} {Z : State} {a0 : Array Value} {n0 : Nat} (X : Ctx Z a0) {x sb tb t : Addr} {kb kt : ClassId} {bs : List Value} {p0 p1 p2 : Int32} {fi en : Int32} {h : Heap} (hO : Old Z n0 h) (A : AS Z h n0 x sb tb t kb kt (3 : Int32) (80 : Int32) [(.int p0), (.int (0 : Int32)), (.int (0 : Int32)), (.int (-1 : Int32)), (.int (0 : Int32)), (.int p1), (.int (0 : Int32)), (.int (0 : Int32)), (.int (-1 : Int32)), (.int (0 : Int32)), (.int p2), (.int (0 : Int32)), (.int (0 : Int32)), (.int (-1 : Int32)), (.int (0 : Int32))] (16 : Int32) (0 : Int32) bs) :
    Ctr l Z EL1 n0 (⟨"com/example/nodewarden/nodewarden/core/Asides", "after", "(III)I"⟩ : MethodName) prog_3_method_6_code 5 (some .int) ({ frames := 0, cells := 0, slots := 0, locals := 0 } : Room) #[(.ref x), (.int (1 : Int32)), (.int fi), (.int en)] h [] (fun v h' => ∃ r : Int32, v = some (.int r) ∧ ((r = (1 : Int32) ∧ (p1 < fi ∨ ¬ p1 < en) ∧ True) ∨ (r = (2 : Int32) ∧ (¬ p1 < fi ∧ p1 < en) ∧ (p2 < fi ∨ ¬ p2 < en) ∧ True) ∨ (r = (3 : Int32) ∧ (¬ p1 < fi ∧ p1 < en) ∧ (¬ p2 < fi ∧ p2 < en) ∧ True)) ∧ h' = h) := by
  have hw := X.hw
  obtain ⟨z1, hz1, hz2⟩ := X.2.2.1
  refine Ctr.intro (a0 := a0) (plainFor_of_name pn3) hO X.ew ?_
  intro p e s m below meth c T0 V0 S0 hby hml hret hnm hsf
  rw [ef12]
  obtain ⟨Ex, Ft, Fb, Fn, Vt, ⟨Es, Fv, Fk, Fs, Vb⟩, nx, ns, nb, nt⟩ := A
  have nXS : x ≠ sb := ne_exa Ex Es (by decide)
  have nXT : x ≠ t := Exa.neArv Ex Vt (w2 hw)
  have nXB : x ≠ tb := Exa.neArv Ex Vb (w2 hw)
  have nST : sb ≠ t := Exa.neArv Es Vt (w11 hw)
  have nSB : sb ≠ tb := Exa.neArv Es Vb (w11 hw)
  have nTB : t ≠ tb := arv_kne Vt Vb (by decide)
  show Go p e below _ (T0.setTop (mkF m 0 #[.val (.ref x), .val (.int (1 : Int32)), .val (.int fi), .val (.int en), .unset] []))
  refine s_iloadN S0 (hb hby dAF31_0) rfl (pc' := 1) rfl ?_
  refine s_istore S0 (hb hby dAF31_1) (L' := #[.val (.ref x), .val (.int (1 : Int32)), .val (.int fi), .val (.int en), .val (.int (1 : Int32))]) rfl (pc' := 3) rfl ?_
  refine s_iload S0 (hb hby dAF31_3) rfl (pc' := 5) rfl ?_
  refine s_aloadN S0 (hb hby dAF31_5) rfl rfl (pc' := 6) rfl ?_
  refine g_getF S0 (w40 hw) Via.refl Fn (hb hby dAF31_6) ?_
  intro T436 ST436
  show Go p e below _ (T436.setTop (mkF m 9 #[.val (.ref x), .val (.int (1 : Int32)), .val (.int fi), .val (.int en), .val (.int (1 : Int32))] [(.int (3 : Int32)), (.int (1 : Int32))]))
  refine s_icmpN ST436 (hb hby dAF31_9) (by decide) (pc' := 12) rfl ?_
  refine s_aloadN ST436 (hb hby dAF31_12) rfl rfl (pc' := 13) rfl ?_
  refine g_getF ST436 (w33 hw) Via.refl Fb (hb hby dAF31_13) ?_
  intro T437 ST437
  show Go p e below _ (T437.setTop (mkF m 16 #[.val (.ref x), .val (.int (1 : Int32)), .val (.int fi), .val (.int en), .val (.int (1 : Int32))] [(.ref t)]))
  refine s_iload ST437 (hb hby dAF31_16) rfl (pc' := 18) rfl ?_
  refine s_iconst ST437 (hb hby dAF31_18) (v := (5 : Int32)) rfl (pc' := 19) rfl ?_
  refine s_imul ST437 (hb hby dAF31_19) (z := (5 : Int32)) rfl (pc' := 20) rfl ?_
  refine s_iconst ST437 (hb hby dAF31_20) (v := (0 : Int32)) rfl (pc' := 21) rfl ?_
  refine s_iadd ST437 (hb hby dAF31_21) (z := (5 : Int32)) rfl (pc' := 22) rfl ?_
  refine g_iaload ST437 Vt ⟨by decide, by decide⟩ (x := p1) rfl (hb hby dAF31_22) ?_
  show Go p e below _ (T437.setTop (mkF m 23 #[.val (.ref x), .val (.int (1 : Int32)), .val (.int fi), .val (.int en), .val (.int (1 : Int32))] [(.int p1)]))
  refine s_iloadN ST437 (hb hby dAF31_23) rfl (pc' := 24) rfl ?_
  refine g_icmp ST437 (hb hby dAF31_24) (by decide) (pcT := 48) (by decide) (fun q => ?_) (fun q => ?_)
  · have hc24_438 : p1 < fi := icT_lt q
    show Go p e below _ (T437.setTop (mkF m 48 #[.val (.ref x), .val (.int (1 : Int32)), .val (.int fi), .val (.int en), .val (.int (1 : Int32))] []))
    refine s_iload ST437 (hb hby dAF31_48) rfl (pc' := 50) rfl ?_
    show Go p e below _ (T437.setTop (mkF m 50 #[.val (.ref x), .val (.int (1 : Int32)), .val (.int fi), .val (.int en), .val (.int (1 : Int32))] [(.int (1 : Int32))]))
    exact g_iret ST437 (hb hby dAF31_50) hret ⟨_, rfl, (Or.inl ⟨rfl, (Or.inl hc24_438), trivial⟩), rfl⟩
  · have hc24_438 : ¬ p1 < fi := icF_lt q
    show Go p e below _ (T437.setTop (mkF m 27 #[.val (.ref x), .val (.int (1 : Int32)), .val (.int fi), .val (.int en), .val (.int (1 : Int32))] []))
    refine s_aloadN ST437 (hb hby dAF31_27) rfl rfl (pc' := 28) rfl ?_
    refine g_getF ST437 (w33 hw) Via.refl Fb (hb hby dAF31_28) ?_
    intro T439 ST439
    show Go p e below _ (T439.setTop (mkF m 31 #[.val (.ref x), .val (.int (1 : Int32)), .val (.int fi), .val (.int en), .val (.int (1 : Int32))] [(.ref t)]))
    refine s_iload ST439 (hb hby dAF31_31) rfl (pc' := 33) rfl ?_
    refine s_iconst ST439 (hb hby dAF31_33) (v := (5 : Int32)) rfl (pc' := 34) rfl ?_
    refine s_imul ST439 (hb hby dAF31_34) (z := (5 : Int32)) rfl (pc' := 35) rfl ?_
    refine s_iconst ST439 (hb hby dAF31_35) (v := (0 : Int32)) rfl (pc' := 36) rfl ?_
    refine s_iadd ST439 (hb hby dAF31_36) (z := (5 : Int32)) rfl (pc' := 37) rfl ?_
    refine g_iaload ST439 Vt ⟨by decide, by decide⟩ (x := p1) rfl (hb hby dAF31_37) ?_
    show Go p e below _ (T439.setTop (mkF m 38 #[.val (.ref x), .val (.int (1 : Int32)), .val (.int fi), .val (.int en), .val (.int (1 : Int32))] [(.int p1)]))
    refine s_iloadN ST439 (hb hby dAF31_38) rfl (pc' := 39) rfl ?_
    refine g_icmp ST439 (hb hby dAF31_39) (by decide) (pcT := 48) (by decide) (fun q => ?_) (fun q => ?_)
    · have hc39_440 : ¬ p1 < en := icT_ge q
      show Go p e below _ (T439.setTop (mkF m 48 #[.val (.ref x), .val (.int (1 : Int32)), .val (.int fi), .val (.int en), .val (.int (1 : Int32))] []))
      refine s_iload ST439 (hb hby dAF31_48) rfl (pc' := 50) rfl ?_
      show Go p e below _ (T439.setTop (mkF m 50 #[.val (.ref x), .val (.int (1 : Int32)), .val (.int fi), .val (.int en), .val (.int (1 : Int32))] [(.int (1 : Int32))]))
      exact g_iret ST439 (hb hby dAF31_50) hret ⟨_, rfl, (Or.inl ⟨rfl, (Or.inr hc39_440), trivial⟩), rfl⟩
    · have hc39_440 : p1 < en := icF_ge q
      show Go p e below _ (T439.setTop (mkF m 42 #[.val (.ref x), .val (.int (1 : Int32)), .val (.int fi), .val (.int en), .val (.int (1 : Int32))] []))
      refine s_iinc ST439 (hb hby dAF31_42) rfl (z := (2 : Int32)) rfl (L' := #[.val (.ref x), .val (.int (1 : Int32)), .val (.int fi), .val (.int en), .val (.int (2 : Int32))]) rfl (pc' := 45) rfl ?_
      refine s_goto ST439 (hb hby dAF31_45) (by decide) (pcT := 3) (by decide) ?_
      refine s_iload ST439 (hb hby dAF31_3) rfl (pc' := 5) rfl ?_
      refine s_aloadN ST439 (hb hby dAF31_5) rfl rfl (pc' := 6) rfl ?_
      refine g_getF ST439 (w40 hw) Via.refl Fn (hb hby dAF31_6) ?_
      intro T441 ST441
      show Go p e below _ (T441.setTop (mkF m 9 #[.val (.ref x), .val (.int (1 : Int32)), .val (.int fi), .val (.int en), .val (.int (2 : Int32))] [(.int (3 : Int32)), (.int (2 : Int32))]))
      refine s_icmpN ST441 (hb hby dAF31_9) (by decide) (pc' := 12) rfl ?_
      refine s_aloadN ST441 (hb hby dAF31_12) rfl rfl (pc' := 13) rfl ?_
      refine g_getF ST441 (w33 hw) Via.refl Fb (hb hby dAF31_13) ?_
      intro T442 ST442
      show Go p e below _ (T442.setTop (mkF m 16 #[.val (.ref x), .val (.int (1 : Int32)), .val (.int fi), .val (.int en), .val (.int (2 : Int32))] [(.ref t)]))
      refine s_iload ST442 (hb hby dAF31_16) rfl (pc' := 18) rfl ?_
      refine s_iconst ST442 (hb hby dAF31_18) (v := (5 : Int32)) rfl (pc' := 19) rfl ?_
      refine s_imul ST442 (hb hby dAF31_19) (z := (10 : Int32)) rfl (pc' := 20) rfl ?_
      refine s_iconst ST442 (hb hby dAF31_20) (v := (0 : Int32)) rfl (pc' := 21) rfl ?_
      refine s_iadd ST442 (hb hby dAF31_21) (z := (10 : Int32)) rfl (pc' := 22) rfl ?_
      refine g_iaload ST442 Vt ⟨by decide, by decide⟩ (x := p2) rfl (hb hby dAF31_22) ?_
      show Go p e below _ (T442.setTop (mkF m 23 #[.val (.ref x), .val (.int (1 : Int32)), .val (.int fi), .val (.int en), .val (.int (2 : Int32))] [(.int p2)]))
      refine s_iloadN ST442 (hb hby dAF31_23) rfl (pc' := 24) rfl ?_
      refine g_icmp ST442 (hb hby dAF31_24) (by decide) (pcT := 48) (by decide) (fun q => ?_) (fun q => ?_)
      · have hc24_443 : p2 < fi := icT_lt q
        show Go p e below _ (T442.setTop (mkF m 48 #[.val (.ref x), .val (.int (1 : Int32)), .val (.int fi), .val (.int en), .val (.int (2 : Int32))] []))
        refine s_iload ST442 (hb hby dAF31_48) rfl (pc' := 50) rfl ?_
        show Go p e below _ (T442.setTop (mkF m 50 #[.val (.ref x), .val (.int (1 : Int32)), .val (.int fi), .val (.int en), .val (.int (2 : Int32))] [(.int (2 : Int32))]))
        exact g_iret ST442 (hb hby dAF31_50) hret ⟨_, rfl, (Or.inr (Or.inl ⟨rfl, ⟨hc24_438, hc39_440⟩, (Or.inl hc24_443), trivial⟩)), rfl⟩
      · have hc24_443 : ¬ p2 < fi := icF_lt q
        show Go p e below _ (T442.setTop (mkF m 27 #[.val (.ref x), .val (.int (1 : Int32)), .val (.int fi), .val (.int en), .val (.int (2 : Int32))] []))
        refine s_aloadN ST442 (hb hby dAF31_27) rfl rfl (pc' := 28) rfl ?_
        refine g_getF ST442 (w33 hw) Via.refl Fb (hb hby dAF31_28) ?_
        intro T444 ST444
        show Go p e below _ (T444.setTop (mkF m 31 #[.val (.ref x), .val (.int (1 : Int32)), .val (.int fi), .val (.int en), .val (.int (2 : Int32))] [(.ref t)]))
        refine s_iload ST444 (hb hby dAF31_31) rfl (pc' := 33) rfl ?_
        refine s_iconst ST444 (hb hby dAF31_33) (v := (5 : Int32)) rfl (pc' := 34) rfl ?_
        refine s_imul ST444 (hb hby dAF31_34) (z := (10 : Int32)) rfl (pc' := 35) rfl ?_
        refine s_iconst ST444 (hb hby dAF31_35) (v := (0 : Int32)) rfl (pc' := 36) rfl ?_
        refine s_iadd ST444 (hb hby dAF31_36) (z := (10 : Int32)) rfl (pc' := 37) rfl ?_
        refine g_iaload ST444 Vt ⟨by decide, by decide⟩ (x := p2) rfl (hb hby dAF31_37) ?_
        show Go p e below _ (T444.setTop (mkF m 38 #[.val (.ref x), .val (.int (1 : Int32)), .val (.int fi), .val (.int en), .val (.int (2 : Int32))] [(.int p2)]))
        refine s_iloadN ST444 (hb hby dAF31_38) rfl (pc' := 39) rfl ?_
        refine g_icmp ST444 (hb hby dAF31_39) (by decide) (pcT := 48) (by decide) (fun q => ?_) (fun q => ?_)
        · have hc39_445 : ¬ p2 < en := icT_ge q
          show Go p e below _ (T444.setTop (mkF m 48 #[.val (.ref x), .val (.int (1 : Int32)), .val (.int fi), .val (.int en), .val (.int (2 : Int32))] []))
          refine s_iload ST444 (hb hby dAF31_48) rfl (pc' := 50) rfl ?_
          show Go p e below _ (T444.setTop (mkF m 50 #[.val (.ref x), .val (.int (1 : Int32)), .val (.int fi), .val (.int en), .val (.int (2 : Int32))] [(.int (2 : Int32))]))
          exact g_iret ST444 (hb hby dAF31_50) hret ⟨_, rfl, (Or.inr (Or.inl ⟨rfl, ⟨hc24_438, hc39_440⟩, (Or.inr hc39_445), trivial⟩)), rfl⟩
        · have hc39_445 : p2 < en := icF_ge q
          show Go p e below _ (T444.setTop (mkF m 42 #[.val (.ref x), .val (.int (1 : Int32)), .val (.int fi), .val (.int en), .val (.int (2 : Int32))] []))
          refine s_iinc ST444 (hb hby dAF31_42) rfl (z := (3 : Int32)) rfl (L' := #[.val (.ref x), .val (.int (1 : Int32)), .val (.int fi), .val (.int en), .val (.int (3 : Int32))]) rfl (pc' := 45) rfl ?_
          refine s_goto ST444 (hb hby dAF31_45) (by decide) (pcT := 3) (by decide) ?_
          refine s_iload ST444 (hb hby dAF31_3) rfl (pc' := 5) rfl ?_
          refine s_aloadN ST444 (hb hby dAF31_5) rfl rfl (pc' := 6) rfl ?_
          refine g_getF ST444 (w40 hw) Via.refl Fn (hb hby dAF31_6) ?_
          intro T446 ST446
          show Go p e below _ (T446.setTop (mkF m 9 #[.val (.ref x), .val (.int (1 : Int32)), .val (.int fi), .val (.int en), .val (.int (3 : Int32))] [(.int (3 : Int32)), (.int (3 : Int32))]))
          refine s_icmpY ST446 (hb hby dAF31_9) (by decide) (by decide) (pcT := 48) (by decide) ?_
          refine s_iload ST446 (hb hby dAF31_48) rfl (pc' := 50) rfl ?_
          show Go p e below _ (T446.setTop (mkF m 50 #[.val (.ref x), .val (.int (1 : Int32)), .val (.int fi), .val (.int en), .val (.int (3 : Int32))] [(.int (3 : Int32))]))
          exact g_iret ST446 (hb hby dAF31_50) hret ⟨_, rfl, (Or.inr (Or.inr ⟨rfl, ⟨hc24_438, hc39_440⟩, ⟨hc24_443, hc39_445⟩, trivial⟩)), rfl⟩
theorem dAF32_0 : decode prog_3_method_6_code 0 = .ok (.iload_n 1, 1) := by decide +kernel
theorem dAF32_1 : decode prog_3_method_6_code 1 = .ok (.istore 4, 2) := by decide +kernel
theorem dAF32_3 : decode prog_3_method_6_code 3 = .ok (.iload 4, 2) := by decide +kernel
theorem dAF32_5 : decode prog_3_method_6_code 5 = .ok (.aload_n 0, 1) := by decide +kernel
theorem dAF32_6 : decode prog_3_method_6_code 6 = .ok (.getfield 38, 3) := by decide +kernel
theorem dAF32_9 : decode prog_3_method_6_code 9 = .ok (.if_icmp .ge 39, 3) := by decide +kernel
theorem dAF32_12 : decode prog_3_method_6_code 12 = .ok (.aload_n 0, 1) := by decide +kernel
theorem dAF32_13 : decode prog_3_method_6_code 13 = .ok (.getfield 16, 3) := by decide +kernel
theorem dAF32_16 : decode prog_3_method_6_code 16 = .ok (.iload 4, 2) := by decide +kernel
theorem dAF32_18 : decode prog_3_method_6_code 18 = .ok (.iconst 5, 1) := by decide +kernel
theorem dAF32_19 : decode prog_3_method_6_code 19 = .ok (.imul, 1) := by decide +kernel
theorem dAF32_20 : decode prog_3_method_6_code 20 = .ok (.iconst 0, 1) := by decide +kernel
theorem dAF32_21 : decode prog_3_method_6_code 21 = .ok (.iadd, 1) := by decide +kernel
theorem dAF32_22 : decode prog_3_method_6_code 22 = .ok (.iaload, 1) := by decide +kernel
theorem dAF32_23 : decode prog_3_method_6_code 23 = .ok (.iload_n 2, 1) := by decide +kernel
theorem dAF32_24 : decode prog_3_method_6_code 24 = .ok (.if_icmp .lt 24, 3) := by decide +kernel
theorem dAF32_27 : decode prog_3_method_6_code 27 = .ok (.aload_n 0, 1) := by decide +kernel
theorem dAF32_28 : decode prog_3_method_6_code 28 = .ok (.getfield 16, 3) := by decide +kernel
theorem dAF32_31 : decode prog_3_method_6_code 31 = .ok (.iload 4, 2) := by decide +kernel
theorem dAF32_33 : decode prog_3_method_6_code 33 = .ok (.iconst 5, 1) := by decide +kernel
theorem dAF32_34 : decode prog_3_method_6_code 34 = .ok (.imul, 1) := by decide +kernel
theorem dAF32_35 : decode prog_3_method_6_code 35 = .ok (.iconst 0, 1) := by decide +kernel
theorem dAF32_36 : decode prog_3_method_6_code 36 = .ok (.iadd, 1) := by decide +kernel
theorem dAF32_37 : decode prog_3_method_6_code 37 = .ok (.iaload, 1) := by decide +kernel
theorem dAF32_38 : decode prog_3_method_6_code 38 = .ok (.iload_n 3, 1) := by decide +kernel
theorem dAF32_39 : decode prog_3_method_6_code 39 = .ok (.if_icmp .ge 9, 3) := by decide +kernel
theorem dAF32_42 : decode prog_3_method_6_code 42 = .ok (.iinc 4 1, 3) := by decide +kernel
theorem dAF32_45 : decode prog_3_method_6_code 45 = .ok (.goto (-42), 3) := by decide +kernel
theorem dAF32_48 : decode prog_3_method_6_code 48 = .ok (.iload 4, 2) := by decide +kernel
theorem dAF32_50 : decode prog_3_method_6_code 50 = .ok (.ireturn, 1) := by decide +kernel
set_option maxRecDepth 65536 in
set_option maxHeartbeats 40000000 in
theorem rmAF32 {l : Launch} {Z : State} {a0 : Array Value} {n0 : Nat} (X : Ctx Z a0) {x sb tb t : Addr} {kb kt : ClassId} {bs : List Value} {p0 p1 p2 : Int32} {fi en : Int32} {h : Heap} (hO : Old Z n0 h) (A : AS Z h n0 x sb tb t kb kt (3 : Int32) (80 : Int32) [(.int p0), (.int (0 : Int32)), (.int (0 : Int32)), (.int (-1 : Int32)), (.int (0 : Int32)), (.int p1), (.int (0 : Int32)), (.int (0 : Int32)), (.int (-1 : Int32)), (.int (0 : Int32)), (.int p2), (.int (0 : Int32)), (.int (0 : Int32)), (.int (-1 : Int32)), (.int (0 : Int32))] (16 : Int32) (0 : Int32) bs) :
    Ctr l Z EL1 n0 (⟨"com/example/nodewarden/nodewarden/core/Asides", "after", "(III)I"⟩ : MethodName) prog_3_method_6_code 5 (some .int) ({ frames := 0, cells := 0, slots := 0, locals := 0 } : Room) #[(.ref x), (.int (2 : Int32)), (.int fi), (.int en)] h [] (fun v h' => ∃ r : Int32, v = some (.int r) ∧ ((r = (2 : Int32) ∧ (p2 < fi ∨ ¬ p2 < en) ∧ True) ∨ (r = (3 : Int32) ∧ (¬ p2 < fi ∧ p2 < en) ∧ True)) ∧ h' = h) := by
  have hw := X.hw
  obtain ⟨z1, hz1, hz2⟩ := X.2.2.1
  refine Ctr.intro (a0 := a0) (plainFor_of_name pn3) hO X.ew ?_
  intro p e s m below meth c T0 V0 S0 hby hml hret hnm hsf
  rw [ef12]
  obtain ⟨Ex, Ft, Fb, Fn, Vt, ⟨Es, Fv, Fk, Fs, Vb⟩, nx, ns, nb, nt⟩ := A
  have nXS : x ≠ sb := ne_exa Ex Es (by decide)
  have nXT : x ≠ t := Exa.neArv Ex Vt (w2 hw)
  have nXB : x ≠ tb := Exa.neArv Ex Vb (w2 hw)
  have nST : sb ≠ t := Exa.neArv Es Vt (w11 hw)
  have nSB : sb ≠ tb := Exa.neArv Es Vb (w11 hw)
  have nTB : t ≠ tb := arv_kne Vt Vb (by decide)
  show Go p e below _ (T0.setTop (mkF m 0 #[.val (.ref x), .val (.int (2 : Int32)), .val (.int fi), .val (.int en), .unset] []))
  refine s_iloadN S0 (hb hby dAF32_0) rfl (pc' := 1) rfl ?_
  refine s_istore S0 (hb hby dAF32_1) (L' := #[.val (.ref x), .val (.int (2 : Int32)), .val (.int fi), .val (.int en), .val (.int (2 : Int32))]) rfl (pc' := 3) rfl ?_
  refine s_iload S0 (hb hby dAF32_3) rfl (pc' := 5) rfl ?_
  refine s_aloadN S0 (hb hby dAF32_5) rfl rfl (pc' := 6) rfl ?_
  refine g_getF S0 (w40 hw) Via.refl Fn (hb hby dAF32_6) ?_
  intro T447 ST447
  show Go p e below _ (T447.setTop (mkF m 9 #[.val (.ref x), .val (.int (2 : Int32)), .val (.int fi), .val (.int en), .val (.int (2 : Int32))] [(.int (3 : Int32)), (.int (2 : Int32))]))
  refine s_icmpN ST447 (hb hby dAF32_9) (by decide) (pc' := 12) rfl ?_
  refine s_aloadN ST447 (hb hby dAF32_12) rfl rfl (pc' := 13) rfl ?_
  refine g_getF ST447 (w33 hw) Via.refl Fb (hb hby dAF32_13) ?_
  intro T448 ST448
  show Go p e below _ (T448.setTop (mkF m 16 #[.val (.ref x), .val (.int (2 : Int32)), .val (.int fi), .val (.int en), .val (.int (2 : Int32))] [(.ref t)]))
  refine s_iload ST448 (hb hby dAF32_16) rfl (pc' := 18) rfl ?_
  refine s_iconst ST448 (hb hby dAF32_18) (v := (5 : Int32)) rfl (pc' := 19) rfl ?_
  refine s_imul ST448 (hb hby dAF32_19) (z := (10 : Int32)) rfl (pc' := 20) rfl ?_
  refine s_iconst ST448 (hb hby dAF32_20) (v := (0 : Int32)) rfl (pc' := 21) rfl ?_
  refine s_iadd ST448 (hb hby dAF32_21) (z := (10 : Int32)) rfl (pc' := 22) rfl ?_
  refine g_iaload ST448 Vt ⟨by decide, by decide⟩ (x := p2) rfl (hb hby dAF32_22) ?_
  show Go p e below _ (T448.setTop (mkF m 23 #[.val (.ref x), .val (.int (2 : Int32)), .val (.int fi), .val (.int en), .val (.int (2 : Int32))] [(.int p2)]))
  refine s_iloadN ST448 (hb hby dAF32_23) rfl (pc' := 24) rfl ?_
  refine g_icmp ST448 (hb hby dAF32_24) (by decide) (pcT := 48) (by decide) (fun q => ?_) (fun q => ?_)
  · have hc24_449 : p2 < fi := icT_lt q
    show Go p e below _ (T448.setTop (mkF m 48 #[.val (.ref x), .val (.int (2 : Int32)), .val (.int fi), .val (.int en), .val (.int (2 : Int32))] []))
    refine s_iload ST448 (hb hby dAF32_48) rfl (pc' := 50) rfl ?_
    show Go p e below _ (T448.setTop (mkF m 50 #[.val (.ref x), .val (.int (2 : Int32)), .val (.int fi), .val (.int en), .val (.int (2 : Int32))] [(.int (2 : Int32))]))
    exact g_iret ST448 (hb hby dAF32_50) hret ⟨_, rfl, (Or.inl ⟨rfl, (Or.inl hc24_449), trivial⟩), rfl⟩
  · have hc24_449 : ¬ p2 < fi := icF_lt q
    show Go p e below _ (T448.setTop (mkF m 27 #[.val (.ref x), .val (.int (2 : Int32)), .val (.int fi), .val (.int en), .val (.int (2 : Int32))] []))
    refine s_aloadN ST448 (hb hby dAF32_27) rfl rfl (pc' := 28) rfl ?_
    refine g_getF ST448 (w33 hw) Via.refl Fb (hb hby dAF32_28) ?_
    intro T450 ST450
    show Go p e below _ (T450.setTop (mkF m 31 #[.val (.ref x), .val (.int (2 : Int32)), .val (.int fi), .val (.int en), .val (.int (2 : Int32))] [(.ref t)]))
    refine s_iload ST450 (hb hby dAF32_31) rfl (pc' := 33) rfl ?_
    refine s_iconst ST450 (hb hby dAF32_33) (v := (5 : Int32)) rfl (pc' := 34) rfl ?_
    refine s_imul ST450 (hb hby dAF32_34) (z := (10 : Int32)) rfl (pc' := 35) rfl ?_
    refine s_iconst ST450 (hb hby dAF32_35) (v := (0 : Int32)) rfl (pc' := 36) rfl ?_
    refine s_iadd ST450 (hb hby dAF32_36) (z := (10 : Int32)) rfl (pc' := 37) rfl ?_
    refine g_iaload ST450 Vt ⟨by decide, by decide⟩ (x := p2) rfl (hb hby dAF32_37) ?_
    show Go p e below _ (T450.setTop (mkF m 38 #[.val (.ref x), .val (.int (2 : Int32)), .val (.int fi), .val (.int en), .val (.int (2 : Int32))] [(.int p2)]))
    refine s_iloadN ST450 (hb hby dAF32_38) rfl (pc' := 39) rfl ?_
    refine g_icmp ST450 (hb hby dAF32_39) (by decide) (pcT := 48) (by decide) (fun q => ?_) (fun q => ?_)
    · have hc39_451 : ¬ p2 < en := icT_ge q
      show Go p e below _ (T450.setTop (mkF m 48 #[.val (.ref x), .val (.int (2 : Int32)), .val (.int fi), .val (.int en), .val (.int (2 : Int32))] []))
      refine s_iload ST450 (hb hby dAF32_48) rfl (pc' := 50) rfl ?_
      show Go p e below _ (T450.setTop (mkF m 50 #[.val (.ref x), .val (.int (2 : Int32)), .val (.int fi), .val (.int en), .val (.int (2 : Int32))] [(.int (2 : Int32))]))
      exact g_iret ST450 (hb hby dAF32_50) hret ⟨_, rfl, (Or.inl ⟨rfl, (Or.inr hc39_451), trivial⟩), rfl⟩
    · have hc39_451 : p2 < en := icF_ge q
      show Go p e below _ (T450.setTop (mkF m 42 #[.val (.ref x), .val (.int (2 : Int32)), .val (.int fi), .val (.int en), .val (.int (2 : Int32))] []))
      refine s_iinc ST450 (hb hby dAF32_42) rfl (z := (3 : Int32)) rfl (L' := #[.val (.ref x), .val (.int (2 : Int32)), .val (.int fi), .val (.int en), .val (.int (3 : Int32))]) rfl (pc' := 45) rfl ?_
      refine s_goto ST450 (hb hby dAF32_45) (by decide) (pcT := 3) (by decide) ?_
      refine s_iload ST450 (hb hby dAF32_3) rfl (pc' := 5) rfl ?_
      refine s_aloadN ST450 (hb hby dAF32_5) rfl rfl (pc' := 6) rfl ?_
      refine g_getF ST450 (w40 hw) Via.refl Fn (hb hby dAF32_6) ?_
      intro T452 ST452
      show Go p e below _ (T452.setTop (mkF m 9 #[.val (.ref x), .val (.int (2 : Int32)), .val (.int fi), .val (.int en), .val (.int (3 : Int32))] [(.int (3 : Int32)), (.int (3 : Int32))]))
      refine s_icmpY ST452 (hb hby dAF32_9) (by decide) (by decide) (pcT := 48) (by decide) ?_
      refine s_iload ST452 (hb hby dAF32_48) rfl (pc' := 50) rfl ?_
      show Go p e below _ (T452.setTop (mkF m 50 #[.val (.ref x), .val (.int (2 : Int32)), .val (.int fi), .val (.int en), .val (.int (3 : Int32))] [(.int (3 : Int32))]))
      exact g_iret ST452 (hb hby dAF32_50) hret ⟨_, rfl, (Or.inr ⟨rfl, ⟨hc24_449, hc39_451⟩, trivial⟩), rfl⟩
theorem dAF33_0 : decode prog_3_method_6_code 0 = .ok (.iload_n 1, 1) := by decide +kernel
theorem dAF33_1 : decode prog_3_method_6_code 1 = .ok (.istore 4, 2) := by decide +kernel
theorem dAF33_3 : decode prog_3_method_6_code 3 = .ok (.iload 4, 2) := by decide +kernel
theorem dAF33_5 : decode prog_3_method_6_code 5 = .ok (.aload_n 0, 1) := by decide +kernel
theorem dAF33_6 : decode prog_3_method_6_code 6 = .ok (.getfield 38, 3) := by decide +kernel
theorem dAF33_9 : decode prog_3_method_6_code 9 = .ok (.if_icmp .ge 39, 3) := by decide +kernel
theorem dAF33_48 : decode prog_3_method_6_code 48 = .ok (.iload 4, 2) := by decide +kernel
theorem dAF33_50 : decode prog_3_method_6_code 50 = .ok (.ireturn, 1) := by decide +kernel
set_option maxRecDepth 65536 in
set_option maxHeartbeats 40000000 in
theorem rmAF33 {l : Launch} {Z : State} {a0 : Array Value} {n0 : Nat} (X : Ctx Z a0) {x sb tb t : Addr} {kb kt : ClassId} {bs : List Value} {p0 p1 p2 : Int32} {fi en : Int32} {h : Heap} (hO : Old Z n0 h) (A : AS Z h n0 x sb tb t kb kt (3 : Int32) (80 : Int32) [(.int p0), (.int (0 : Int32)), (.int (0 : Int32)), (.int (-1 : Int32)), (.int (0 : Int32)), (.int p1), (.int (0 : Int32)), (.int (0 : Int32)), (.int (-1 : Int32)), (.int (0 : Int32)), (.int p2), (.int (0 : Int32)), (.int (0 : Int32)), (.int (-1 : Int32)), (.int (0 : Int32))] (16 : Int32) (0 : Int32) bs) :
    Ctr l Z EL1 n0 (⟨"com/example/nodewarden/nodewarden/core/Asides", "after", "(III)I"⟩ : MethodName) prog_3_method_6_code 5 (some .int) ({ frames := 0, cells := 0, slots := 0, locals := 0 } : Room) #[(.ref x), (.int (3 : Int32)), (.int fi), (.int en)] h [] (fun v h' => ∃ r : Int32, v = some (.int r) ∧ ((r = (3 : Int32) ∧ True)) ∧ h' = h) := by
  have hw := X.hw
  obtain ⟨z1, hz1, hz2⟩ := X.2.2.1
  refine Ctr.intro (a0 := a0) (plainFor_of_name pn3) hO X.ew ?_
  intro p e s m below meth c T0 V0 S0 hby hml hret hnm hsf
  rw [ef12]
  obtain ⟨Ex, Ft, Fb, Fn, Vt, ⟨Es, Fv, Fk, Fs, Vb⟩, nx, ns, nb, nt⟩ := A
  have nXS : x ≠ sb := ne_exa Ex Es (by decide)
  have nXT : x ≠ t := Exa.neArv Ex Vt (w2 hw)
  have nXB : x ≠ tb := Exa.neArv Ex Vb (w2 hw)
  have nST : sb ≠ t := Exa.neArv Es Vt (w11 hw)
  have nSB : sb ≠ tb := Exa.neArv Es Vb (w11 hw)
  have nTB : t ≠ tb := arv_kne Vt Vb (by decide)
  show Go p e below _ (T0.setTop (mkF m 0 #[.val (.ref x), .val (.int (3 : Int32)), .val (.int fi), .val (.int en), .unset] []))
  refine s_iloadN S0 (hb hby dAF33_0) rfl (pc' := 1) rfl ?_
  refine s_istore S0 (hb hby dAF33_1) (L' := #[.val (.ref x), .val (.int (3 : Int32)), .val (.int fi), .val (.int en), .val (.int (3 : Int32))]) rfl (pc' := 3) rfl ?_
  refine s_iload S0 (hb hby dAF33_3) rfl (pc' := 5) rfl ?_
  refine s_aloadN S0 (hb hby dAF33_5) rfl rfl (pc' := 6) rfl ?_
  refine g_getF S0 (w40 hw) Via.refl Fn (hb hby dAF33_6) ?_
  intro T453 ST453
  show Go p e below _ (T453.setTop (mkF m 9 #[.val (.ref x), .val (.int (3 : Int32)), .val (.int fi), .val (.int en), .val (.int (3 : Int32))] [(.int (3 : Int32)), (.int (3 : Int32))]))
  refine s_icmpY ST453 (hb hby dAF33_9) (by decide) (by decide) (pcT := 48) (by decide) ?_
  refine s_iload ST453 (hb hby dAF33_48) rfl (pc' := 50) rfl ?_
  show Go p e below _ (T453.setTop (mkF m 50 #[.val (.ref x), .val (.int (3 : Int32)), .val (.int fi), .val (.int en), .val (.int (3 : Int32))] [(.int (3 : Int32))]))
  exact g_iret ST453 (hb hby dAF33_50) hret ⟨_, rfl, ⟨rfl, trivial⟩, rfl⟩
theorem dAF34_0 : decode prog_3_method_6_code 0 = .ok (.iload_n 1, 1) := by decide +kernel
theorem dAF34_1 : decode prog_3_method_6_code 1 = .ok (.istore 4, 2) := by decide +kernel
theorem dAF34_3 : decode prog_3_method_6_code 3 = .ok (.iload 4, 2) := by decide +kernel
theorem dAF34_5 : decode prog_3_method_6_code 5 = .ok (.aload_n 0, 1) := by decide +kernel
theorem dAF34_6 : decode prog_3_method_6_code 6 = .ok (.getfield 38, 3) := by decide +kernel
theorem dAF34_9 : decode prog_3_method_6_code 9 = .ok (.if_icmp .ge 39, 3) := by decide +kernel
theorem dAF34_48 : decode prog_3_method_6_code 48 = .ok (.iload 4, 2) := by decide +kernel
theorem dAF34_50 : decode prog_3_method_6_code 50 = .ok (.ireturn, 1) := by decide +kernel
set_option maxRecDepth 65536 in
set_option maxHeartbeats 40000000 in
theorem rmAF34 {l : Launch} {Z : State} {a0 : Array Value} {n0 : Nat} (X : Ctx Z a0) {x sb tb t : Addr} {kb kt : ClassId} {bs : List Value} {p0 p1 p2 : Int32} {fi en : Int32} {h : Heap} (hO : Old Z n0 h) (A : AS Z h n0 x sb tb t kb kt (3 : Int32) (80 : Int32) [(.int p0), (.int (0 : Int32)), (.int (0 : Int32)), (.int (-1 : Int32)), (.int (0 : Int32)), (.int p1), (.int (0 : Int32)), (.int (0 : Int32)), (.int (-1 : Int32)), (.int (0 : Int32)), (.int p2), (.int (0 : Int32)), (.int (0 : Int32)), (.int (-1 : Int32)), (.int (0 : Int32))] (16 : Int32) (0 : Int32) bs) :
    Ctr l Z EL1 n0 (⟨"com/example/nodewarden/nodewarden/core/Asides", "after", "(III)I"⟩ : MethodName) prog_3_method_6_code 5 (some .int) ({ frames := 0, cells := 0, slots := 0, locals := 0 } : Room) #[(.ref x), (.int (4 : Int32)), (.int fi), (.int en)] h [] (fun v h' => ∃ r : Int32, v = some (.int r) ∧ ((r = (4 : Int32) ∧ True)) ∧ h' = h) := by
  have hw := X.hw
  obtain ⟨z1, hz1, hz2⟩ := X.2.2.1
  refine Ctr.intro (a0 := a0) (plainFor_of_name pn3) hO X.ew ?_
  intro p e s m below meth c T0 V0 S0 hby hml hret hnm hsf
  rw [ef12]
  obtain ⟨Ex, Ft, Fb, Fn, Vt, ⟨Es, Fv, Fk, Fs, Vb⟩, nx, ns, nb, nt⟩ := A
  have nXS : x ≠ sb := ne_exa Ex Es (by decide)
  have nXT : x ≠ t := Exa.neArv Ex Vt (w2 hw)
  have nXB : x ≠ tb := Exa.neArv Ex Vb (w2 hw)
  have nST : sb ≠ t := Exa.neArv Es Vt (w11 hw)
  have nSB : sb ≠ tb := Exa.neArv Es Vb (w11 hw)
  have nTB : t ≠ tb := arv_kne Vt Vb (by decide)
  show Go p e below _ (T0.setTop (mkF m 0 #[.val (.ref x), .val (.int (4 : Int32)), .val (.int fi), .val (.int en), .unset] []))
  refine s_iloadN S0 (hb hby dAF34_0) rfl (pc' := 1) rfl ?_
  refine s_istore S0 (hb hby dAF34_1) (L' := #[.val (.ref x), .val (.int (4 : Int32)), .val (.int fi), .val (.int en), .val (.int (4 : Int32))]) rfl (pc' := 3) rfl ?_
  refine s_iload S0 (hb hby dAF34_3) rfl (pc' := 5) rfl ?_
  refine s_aloadN S0 (hb hby dAF34_5) rfl rfl (pc' := 6) rfl ?_
  refine g_getF S0 (w40 hw) Via.refl Fn (hb hby dAF34_6) ?_
  intro T454 ST454
  show Go p e below _ (T454.setTop (mkF m 9 #[.val (.ref x), .val (.int (4 : Int32)), .val (.int fi), .val (.int en), .val (.int (4 : Int32))] [(.int (3 : Int32)), (.int (4 : Int32))]))
  refine s_icmpY ST454 (hb hby dAF34_9) (by decide) (by decide) (pcT := 48) (by decide) ?_
  refine s_iload ST454 (hb hby dAF34_48) rfl (pc' := 50) rfl ?_
  show Go p e below _ (T454.setTop (mkF m 50 #[.val (.ref x), .val (.int (4 : Int32)), .val (.int fi), .val (.int en), .val (.int (4 : Int32))] [(.int (4 : Int32))]))
  exact g_iret ST454 (hb hby dAF34_50) hret ⟨_, rfl, ⟨rfl, trivial⟩, rfl⟩
end Jvm.Pilot.@@N@@

namespace Jvm.Pilot.@@N@@
open Jvm Jvm.ClassFile Sem Op Lib Jvm.Free Jvm.Stand Jvm.LawKit Jvm.RoadKit Jvm.OwnKit Bundle Jvm.Pilot.@@N@@.Jvm.D
set_option maxRecDepth 65536 in
set_option maxHeartbeats 40000000 in
theorem rmL {l : Launch} {Z : State} {a0 : Array Value} {n0 : Nat} (X : Ctx Z a0) (k_ p0 p1 p2 fi en : Int32) {h : Heap} (hO : Old Z n0 h)  :
    Ctr l Z EL1 n0 x code maxLocals ret room_1 #[(.int k_), (.int p0), (.int p1), (.int p2), (.int fi), (.int en)] h [] (fun v h' => v = some (.int 1) ∧ True) := by
  have hw := X.hw
  obtain ⟨z1, hz1, hz2⟩ := X.2.2.1
  refine Ctr.intro (a0 := a0) (plainFor_of_name pn5) hO X.ew ?_
  intro p e s m below meth c T0 V0 S0 hby hml hret hnm hsf
  rw [ef13]
  refine s_iloadN S0 (hb hby at_0) rfl (pc' := 1) rfl ?_
  refine s_iconst S0 (hb hby at_1) (v := (3 : Int32)) rfl (pc' := 2) rfl ?_
  refine s_iand S0 (hb hby at_2) (z := (k_ &&& (3 : Int32))) rfl (pc' := 3) rfl ?_
  generalize enn455 : (k_ &&& (3 : Int32)) = nn455
  refine s_istore S0 (hb hby at_3) (L' := #[.val (.int k_), .val (.int p0), .val (.int p1), .val (.int p2), .val (.int fi), .val (.int en), .val (.int nn455), .unset, .unset, .unset, .unset, .unset]) rfl (pc' := 5) rfl ?_
  rcases own_and3 k_ nn455 enn455 with rfl | rfl | rfl | rfl
  · skip
    show Go p e below _ (T0.setTop (mkF m 5 #[.val (.int k_), .val (.int p0), .val (.int p1), .val (.int p2), .val (.int fi), .val (.int en), .val (.int (0 : Int32)), .unset, .unset, .unset, .unset, .unset] []))
    refine s_iloadN S0 (hb hby at_5) rfl (pc' := 6) rfl ?_
    refine s_iconst S0 (hb hby at_6) (v := (2 : Int32)) rfl (pc' := 7) rfl ?_
    refine s_iushr S0 (hb hby at_7) (z := ((k_.toUInt32 >>> ((2 : Int32) &&& 31).toUInt32).toInt32)) rfl (pc' := 8) rfl ?_
    refine s_iconst S0 (hb hby at_8) (v := (5 : Int32)) rfl (pc' := 9) rfl ?_
    refine s_irem S0 (hb hby at_9) (by decide) (z := (((k_.toUInt32 >>> ((2 : Int32) &&& 31).toUInt32).toInt32) % (5 : Int32))) rfl (pc' := 10) rfl ?_
    generalize eas_456 : (((k_.toUInt32 >>> ((2 : Int32) &&& 31).toUInt32).toInt32) % (5 : Int32)) = as_456
    refine s_istore S0 (hb hby at_10) (L' := #[.val (.int k_), .val (.int p0), .val (.int p1), .val (.int p2), .val (.int fi), .val (.int en), .val (.int (0 : Int32)), .val (.int as_456), .unset, .unset, .unset, .unset]) rfl (pc' := 12) rfl ?_
    refine s_iconst S0 (hb hby at_12) (v := (0 : Int32)) rfl (pc' := 13) rfl ?_
    refine g_newarr (aty := .char) S0 (w0 hw) (hb hby at_13) (by decide) (cap := 0) (by decide) (by decide) (Nat.le_of_ble_eq_true rfl) (Nat.le_of_ble_eq_true rfl) ?_
    intro T457 h457 b457 kc457 S457 E457 fr457 lt457 na457 sf457 A457
    have V457 : Arv Z h457 b457 kc457 .char (0 : Int32) [] (.int (0 : Int32)) := A457 0
    show Go p e below _ (T457.setTop (mkF m 15 #[.val (.int k_), .val (.int p0), .val (.int p1), .val (.int p2), .val (.int fi), .val (.int en), .val (.int (0 : Int32)), .val (.int as_456), .unset, .unset, .unset, .unset] [(.ref b457)]))
    refine s_astore S457 (hb hby at_15) rfl (L' := #[.val (.int k_), .val (.int p0), .val (.int p1), .val (.int p2), .val (.int fi), .val (.int en), .val (.int (0 : Int32)), .val (.int as_456), .val (.ref b457), .unset, .unset, .unset]) rfl (pc' := 17) rfl ?_
    refine g_new S457 (w1 hw) (w2 hw) (w3 hw) (hb hby at_17) (Nat.le_of_ble_eq_true rfl) (Nat.le_of_ble_eq_true rfl) ?_
    intro T458 h458 b458 S458 E458 fr458 lt458 na458 sf458 A458 D458
    have F459 : Fld Z h458 b458 "com/example/nodewarden/nodewarden/core/Asides" "text" "Ljava/lang/StringBuilder;" .null := D458 (Or.inr (w31 hw)) (ty := (.object "java/lang/StringBuilder")) (by decide)
    have F460 : Fld Z h458 b458 "com/example/nodewarden/nodewarden/core/Asides" "table" "[I" .null := D458 (Or.inl (w34 hw)) (ty := (.array .int)) (by decide)
    have F461 : Fld Z h458 b458 "com/example/nodewarden/nodewarden/core/Asides" "count" "I" (.int (0 : Int32)) := D458 (Or.inl (w41 hw)) (ty := .int) (by decide)
    show Go p e below _ (T458.setTop (mkF m 20 #[.val (.int k_), .val (.int p0), .val (.int p1), .val (.int p2), .val (.int fi), .val (.int en), .val (.int (0 : Int32)), .val (.int as_456), .val (.ref b457), .unset, .unset, .unset] [(.ref b458)]))
    refine s_dup S458 (hb hby at_20) rfl (pc' := 21) rfl ?_
    have V462 := V457.ext E458
    have nXC : b458 ≠ b457 := Exa.neArv A458 V462 (w2 hw)
    show Go p e below _ (T458.setTop (mkF m 21 #[.val (.int k_), .val (.int p0), .val (.int p1), .val (.int p2), .val (.int fi), .val (.int en), .val (.int (0 : Int32)), .val (.int as_456), .val (.ref b457), .unset, .unset, .unset] [(.ref b458), (.ref b458)]))
    refine g_special S458 (rmIN X na458 S458.old A458 F459 F460 F461) (fun _ q => nomatch q) rfl (w4 hw) (w5 hw) (w3 hw) (w6 hw) (by decide) (hb hby at_21) (by rw [hml]; rfl) b458 [] (lenOf pd6 rfl) rfl rfl (Nat.le_of_ble_eq_true rfl) (Nat.le_of_ble_eq_true rfl) (Nat.le_of_ble_eq_true rfl) (Nat.le_of_ble_eq_true rfl) ?_
    intro v463 T463 V463 h463 S463 C463 q463
    obtain ⟨rfl, sb, tb, t, kb, kt, K0, A0, sf0_⟩ := q463
    have X464 : Ext h457 h463 := ext_keep1 E458 K0 fr458
    have V465 := V457.ext X464
    show Go p e below _ (T463.setTop (mkF m 24 #[.val (.int k_), .val (.int p0), .val (.int p1), .val (.int p2), .val (.int fi), .val (.int en), .val (.int (0 : Int32)), .val (.int as_456), .val (.ref b457), .unset, .unset, .unset] [(.ref b458)]))
    refine s_astore S463 (hb hby at_24) rfl (L' := #[.val (.int k_), .val (.int p0), .val (.int p1), .val (.int p2), .val (.int fi), .val (.int en), .val (.int (0 : Int32)), .val (.int as_456), .val (.ref b457), .val (.ref b458), .unset, .unset]) rfl (pc' := 26) rfl ?_
    refine s_iload S463 (hb hby at_26) rfl (pc' := 28) rfl ?_
    refine s_ifY S463 (hb hby at_28) (by decide) (by decide) (pcT := 43) (by decide) ?_
    refine s_iload S463 (hb hby at_43) rfl (pc' := 45) rfl ?_
    refine s_iconst S463 (hb hby at_45) (v := (1 : Int32)) rfl (pc' := 46) rfl ?_
    refine s_icmpY S463 (hb hby at_46) (by decide) (by decide) (pcT := 61) (by decide) ?_
    refine s_iload S463 (hb hby at_61) rfl (pc' := 63) rfl ?_
    refine s_iconst S463 (hb hby at_63) (v := (2 : Int32)) rfl (pc' := 64) rfl ?_
    refine s_icmpY S463 (hb hby at_64) (by decide) (by decide) (pcT := 79) (by decide) ?_
    rcases own_as5 k_ as_456 eas_456 with rfl | rfl | rfl | rfl | rfl
    · skip
      show Go p e below _ (T463.setTop (mkF m 79 #[.val (.int k_), .val (.int p0), .val (.int p1), .val (.int p2), .val (.int fi), .val (.int en), .val (.int (0 : Int32)), .val (.int (0 : Int32)), .val (.ref b457), .val (.ref b458), .unset, .unset] []))
      refine s_aload S463 (hb hby at_79) rfl rfl (pc' := 81) rfl ?_
      refine s_iload S463 (hb hby at_81) rfl (pc' := 83) rfl ?_
      refine s_iload S463 (hb hby at_83) rfl (pc' := 85) rfl ?_
      refine s_iload S463 (hb hby at_85) rfl (pc' := 87) rfl ?_
      show Go p e below _ (T463.setTop (mkF m 87 #[.val (.int k_), .val (.int p0), .val (.int p1), .val (.int p2), .val (.int fi), .val (.int en), .val (.int (0 : Int32)), .val (.int (0 : Int32)), .val (.ref b457), .val (.ref b458), .unset, .unset] [(.int en), (.int fi), (.int (0 : Int32)), (.ref b458)]))
      refine g_virtual S463 (rmAF00 X S463.old A0) (fun _ q => nomatch q) (w35 hw) (w36 hw) (w38 hw) (w37 hw) (w3 hw) (w39 hw) (by decide) (fun _ h => notFace_of_selects h) (hb hby at_87) (by rw [hml]; rfl) b458 A0.1 [(.int (0 : Int32)), (.int fi), (.int en)] (lenOf pd11 rfl) rfl rfl (Nat.le_of_ble_eq_true rfl) (Nat.le_of_ble_eq_true rfl) (Nat.le_of_ble_eq_true rfl) (Nat.le_of_ble_eq_true rfl) ?_
      intro v467 T467 V467 h467 S467 C467 q467
      obtain ⟨r466, rfl, hr466, rfl⟩ := q467
      rcases hr466 with ⟨rfl, -⟩
      · skip
        show Go p e below _ (T467.setTop (mkF m 90 #[.val (.int k_), .val (.int p0), .val (.int p1), .val (.int p2), .val (.int fi), .val (.int en), .val (.int (0 : Int32)), .val (.int (0 : Int32)), .val (.ref b457), .val (.ref b458), .unset, .unset] [(.int (0 : Int32))]))
        refine s_istore S467 (hb hby at_90) (L' := #[.val (.int k_), .val (.int p0), .val (.int p1), .val (.int p2), .val (.int fi), .val (.int en), .val (.int (0 : Int32)), .val (.int (0 : Int32)), .val (.ref b457), .val (.ref b458), .val (.int (0 : Int32)), .unset]) rfl (pc' := 92) rfl ?_
        refine s_iload S467 (hb hby at_92) rfl (pc' := 94) rfl ?_
        refine s_iload S467 (hb hby at_94) rfl (pc' := 96) rfl ?_
        refine s_icmpN S467 (hb hby at_96) (by decide) (pc' := 99) rfl ?_
        refine s_iload S467 (hb hby at_99) rfl (pc' := 101) rfl ?_
        refine s_iload S467 (hb hby at_101) rfl (pc' := 103) rfl ?_
        refine s_iload S467 (hb hby at_103) rfl (pc' := 105) rfl ?_
        show Go p e below _ (T467.setTop (mkF m 105 #[.val (.int k_), .val (.int p0), .val (.int p1), .val (.int p2), .val (.int fi), .val (.int en), .val (.int (0 : Int32)), .val (.int (0 : Int32)), .val (.ref b457), .val (.ref b458), .val (.int (0 : Int32)), .unset] [(.int (0 : Int32)), (.int (0 : Int32)), (.int (0 : Int32))]))
        refine g_static S467 (rmMX X (z := (0 : Int32)) (by decide) S467.old) (fun _ q => nomatch q) (w42 hw) (w43 hw) (w44 hw) (w45 hw) (by decide) (hb hby at_105) (by rw [hml]; rfl) [(.int (0 : Int32)), (.int (0 : Int32))] (lenOf pd7 rfl) rfl rfl (Nat.le_of_ble_eq_true rfl) (Nat.le_of_ble_eq_true rfl) (Nat.le_of_ble_eq_true rfl) (Nat.le_of_ble_eq_true rfl) ?_
        intro v468 T468 V468 h468 S468 C468 q468
        obtain ⟨rfl, rfl⟩ := q468
        show Go p e below _ (T468.setTop (mkF m 108 #[.val (.int k_), .val (.int p0), .val (.int p1), .val (.int p2), .val (.int fi), .val (.int en), .val (.int (0 : Int32)), .val (.int (0 : Int32)), .val (.ref b457), .val (.ref b458), .val (.int (0 : Int32)), .unset] [(.int (0 : Int32)), (.int (0 : Int32))]))
        refine s_icmpY S468 (hb hby at_108) (by decide) (by decide) (pcT := 113) (by decide) ?_
        refine s_iload S468 (hb hby at_113) rfl (pc' := 115) rfl ?_
        refine s_ifN S468 (hb hby at_115) (by decide) (pc' := 118) rfl ?_
        refine s_iconst S468 (hb hby at_118) (v := (0 : Int32)) rfl (pc' := 119) rfl ?_
        refine s_iload S468 (hb hby at_119) rfl (pc' := 121) rfl ?_
        refine s_icmpY S468 (hb hby at_121) (by decide) (by decide) (pcT := 137) (by decide) ?_
        refine s_iload S468 (hb hby at_137) rfl (pc' := 139) rfl ?_
        refine s_iconst S468 (hb hby at_139) (v := (1 : Int32)) rfl (pc' := 140) rfl ?_
        refine s_icmpN S468 (hb hby at_140) (by decide) (pc' := 143) rfl ?_
        refine s_iconst S468 (hb hby at_143) (v := (1 : Int32)) rfl (pc' := 144) rfl ?_
        refine s_iload S468 (hb hby at_144) rfl (pc' := 146) rfl ?_
        refine s_icmpY S468 (hb hby at_146) (by decide) (by decide) (pcT := 162) (by decide) ?_
        refine s_iload S468 (hb hby at_162) rfl (pc' := 164) rfl ?_
        refine s_iconst S468 (hb hby at_164) (v := (2 : Int32)) rfl (pc' := 165) rfl ?_
        refine s_icmpN S468 (hb hby at_165) (by decide) (pc' := 168) rfl ?_
        refine s_iconst S468 (hb hby at_168) (v := (2 : Int32)) rfl (pc' := 169) rfl ?_
        refine s_iload S468 (hb hby at_169) rfl (pc' := 171) rfl ?_
        refine s_icmpY S468 (hb hby at_171) (by decide) (by decide) (pcT := 187) (by decide) ?_
        refine s_iload S468 (hb hby at_187) rfl (pc' := 189) rfl ?_
        refine s_iload S468 (hb hby at_189) rfl (pc' := 191) rfl ?_
        refine s_icmpY S468 (hb hby at_191) (by decide) (by decide) (pcT := 230) (by decide) ?_
        refine s_iconst S468 (hb hby at_230) (v := (1 : Int32)) rfl (pc' := 231) rfl ?_
        exact g_iretN S468 (hb hby at_231) hret (by simp) ⟨rfl, trivial⟩
    · skip
      show Go p e below _ (T463.setTop (mkF m 79 #[.val (.int k_), .val (.int p0), .val (.int p1), .val (.int p2), .val (.int fi), .val (.int en), .val (.int (0 : Int32)), .val (.int (1 : Int32)), .val (.ref b457), .val (.ref b458), .unset, .unset] []))
      refine s_aload S463 (hb hby at_79) rfl rfl (pc' := 81) rfl ?_
      refine s_iload S463 (hb hby at_81) rfl (pc' := 83) rfl ?_
      refine s_iload S463 (hb hby at_83) rfl (pc' := 85) rfl ?_
      refine s_iload S463 (hb hby at_85) rfl (pc' := 87) rfl ?_
      show Go p e below _ (T463.setTop (mkF m 87 #[.val (.int k_), .val (.int p0), .val (.int p1), .val (.int p2), .val (.int fi), .val (.int en), .val (.int (0 : Int32)), .val (.int (1 : Int32)), .val (.ref b457), .val (.ref b458), .unset, .unset] [(.int en), (.int fi), (.int (1 : Int32)), (.ref b458)]))
      refine g_virtual S463 (rmAF01 X S463.old A0) (fun _ q => nomatch q) (w35 hw) (w36 hw) (w38 hw) (w37 hw) (w3 hw) (w39 hw) (by decide) (fun _ h => notFace_of_selects h) (hb hby at_87) (by rw [hml]; rfl) b458 A0.1 [(.int (1 : Int32)), (.int fi), (.int en)] (lenOf pd11 rfl) rfl rfl (Nat.le_of_ble_eq_true rfl) (Nat.le_of_ble_eq_true rfl) (Nat.le_of_ble_eq_true rfl) (Nat.le_of_ble_eq_true rfl) ?_
      intro v470 T470 V470 h470 S470 C470 q470
      obtain ⟨r469, rfl, hr469, rfl⟩ := q470
      rcases hr469 with ⟨rfl, -⟩
      · skip
        show Go p e below _ (T470.setTop (mkF m 90 #[.val (.int k_), .val (.int p0), .val (.int p1), .val (.int p2), .val (.int fi), .val (.int en), .val (.int (0 : Int32)), .val (.int (1 : Int32)), .val (.ref b457), .val (.ref b458), .unset, .unset] [(.int (1 : Int32))]))
        refine s_istore S470 (hb hby at_90) (L' := #[.val (.int k_), .val (.int p0), .val (.int p1), .val (.int p2), .val (.int fi), .val (.int en), .val (.int (0 : Int32)), .val (.int (1 : Int32)), .val (.ref b457), .val (.ref b458), .val (.int (1 : Int32)), .unset]) rfl (pc' := 92) rfl ?_
        refine s_iload S470 (hb hby at_92) rfl (pc' := 94) rfl ?_
        refine s_iload S470 (hb hby at_94) rfl (pc' := 96) rfl ?_
        refine s_icmpN S470 (hb hby at_96) (by decide) (pc' := 99) rfl ?_
        refine s_iload S470 (hb hby at_99) rfl (pc' := 101) rfl ?_
        refine s_iload S470 (hb hby at_101) rfl (pc' := 103) rfl ?_
        refine s_iload S470 (hb hby at_103) rfl (pc' := 105) rfl ?_
        show Go p e below _ (T470.setTop (mkF m 105 #[.val (.int k_), .val (.int p0), .val (.int p1), .val (.int p2), .val (.int fi), .val (.int en), .val (.int (0 : Int32)), .val (.int (1 : Int32)), .val (.ref b457), .val (.ref b458), .val (.int (1 : Int32)), .unset] [(.int (0 : Int32)), (.int (1 : Int32)), (.int (1 : Int32))]))
        refine g_static S470 (rmMX X (z := (1 : Int32)) (by decide) S470.old) (fun _ q => nomatch q) (w42 hw) (w43 hw) (w44 hw) (w45 hw) (by decide) (hb hby at_105) (by rw [hml]; rfl) [(.int (1 : Int32)), (.int (0 : Int32))] (lenOf pd7 rfl) rfl rfl (Nat.le_of_ble_eq_true rfl) (Nat.le_of_ble_eq_true rfl) (Nat.le_of_ble_eq_true rfl) (Nat.le_of_ble_eq_true rfl) ?_
        intro v471 T471 V471 h471 S471 C471 q471
        obtain ⟨rfl, rfl⟩ := q471
        show Go p e below _ (T471.setTop (mkF m 108 #[.val (.int k_), .val (.int p0), .val (.int p1), .val (.int p2), .val (.int fi), .val (.int en), .val (.int (0 : Int32)), .val (.int (1 : Int32)), .val (.ref b457), .val (.ref b458), .val (.int (1 : Int32)), .unset] [(.int (1 : Int32)), (.int (1 : Int32))]))
        refine s_icmpY S471 (hb hby at_108) (by decide) (by decide) (pcT := 113) (by decide) ?_
        refine s_iload S471 (hb hby at_113) rfl (pc' := 115) rfl ?_
        refine s_ifY S471 (hb hby at_115) (by decide) (by decide) (pcT := 137) (by decide) ?_
        refine s_iload S471 (hb hby at_137) rfl (pc' := 139) rfl ?_
        refine s_iconst S471 (hb hby at_139) (v := (1 : Int32)) rfl (pc' := 140) rfl ?_
        refine s_icmpN S471 (hb hby at_140) (by decide) (pc' := 143) rfl ?_
        refine s_iconst S471 (hb hby at_143) (v := (1 : Int32)) rfl (pc' := 144) rfl ?_
        refine s_iload S471 (hb hby at_144) rfl (pc' := 146) rfl ?_
        refine s_icmpY S471 (hb hby at_146) (by decide) (by decide) (pcT := 162) (by decide) ?_
        refine s_iload S471 (hb hby at_162) rfl (pc' := 164) rfl ?_
        refine s_iconst S471 (hb hby at_164) (v := (2 : Int32)) rfl (pc' := 165) rfl ?_
        refine s_icmpN S471 (hb hby at_165) (by decide) (pc' := 168) rfl ?_
        refine s_iconst S471 (hb hby at_168) (v := (2 : Int32)) rfl (pc' := 169) rfl ?_
        refine s_iload S471 (hb hby at_169) rfl (pc' := 171) rfl ?_
        refine s_icmpY S471 (hb hby at_171) (by decide) (by decide) (pcT := 187) (by decide) ?_
        refine s_iload S471 (hb hby at_187) rfl (pc' := 189) rfl ?_
        refine s_iload S471 (hb hby at_189) rfl (pc' := 191) rfl ?_
        refine s_icmpY S471 (hb hby at_191) (by decide) (by decide) (pcT := 230) (by decide) ?_
        refine s_iconst S471 (hb hby at_230) (v := (1 : Int32)) rfl (pc' := 231) rfl ?_
        exact g_iretN S471 (hb hby at_231) hret (by simp) ⟨rfl, trivial⟩
    · skip
      show Go p e below _ (T463.setTop (mkF m 79 #[.val (.int k_), .val (.int p0), .val (.int p1), .val (.int p2), .val (.int fi), .val (.int en), .val (.int (0 : Int32)), .val (.int (2 : Int32)), .val (.ref b457), .val (.ref b458), .unset, .unset] []))
      refine s_aload S463 (hb hby at_79) rfl rfl (pc' := 81) rfl ?_
      refine s_iload S463 (hb hby at_81) rfl (pc' := 83) rfl ?_
      refine s_iload S463 (hb hby at_83) rfl (pc' := 85) rfl ?_
      refine s_iload S463 (hb hby at_85) rfl (pc' := 87) rfl ?_
      show Go p e below _ (T463.setTop (mkF m 87 #[.val (.int k_), .val (.int p0), .val (.int p1), .val (.int p2), .val (.int fi), .val (.int en), .val (.int (0 : Int32)), .val (.int (2 : Int32)), .val (.ref b457), .val (.ref b458), .unset, .unset] [(.int en), (.int fi), (.int (2 : Int32)), (.ref b458)]))
      refine g_virtual S463 (rmAF02 X S463.old A0) (fun _ q => nomatch q) (w35 hw) (w36 hw) (w38 hw) (w37 hw) (w3 hw) (w39 hw) (by decide) (fun _ h => notFace_of_selects h) (hb hby at_87) (by rw [hml]; rfl) b458 A0.1 [(.int (2 : Int32)), (.int fi), (.int en)] (lenOf pd11 rfl) rfl rfl (Nat.le_of_ble_eq_true rfl) (Nat.le_of_ble_eq_true rfl) (Nat.le_of_ble_eq_true rfl) (Nat.le_of_ble_eq_true rfl) ?_
      intro v473 T473 V473 h473 S473 C473 q473
      obtain ⟨r472, rfl, hr472, rfl⟩ := q473
      rcases hr472 with ⟨rfl, -⟩
      · skip
        show Go p e below _ (T473.setTop (mkF m 90 #[.val (.int k_), .val (.int p0), .val (.int p1), .val (.int p2), .val (.int fi), .val (.int en), .val (.int (0 : Int32)), .val (.int (2 : Int32)), .val (.ref b457), .val (.ref b458), .unset, .unset] [(.int (2 : Int32))]))
        refine s_istore S473 (hb hby at_90) (L' := #[.val (.int k_), .val (.int p0), .val (.int p1), .val (.int p2), .val (.int fi), .val (.int en), .val (.int (0 : Int32)), .val (.int (2 : Int32)), .val (.ref b457), .val (.ref b458), .val (.int (2 : Int32)), .unset]) rfl (pc' := 92) rfl ?_
        refine s_iload S473 (hb hby at_92) rfl (pc' := 94) rfl ?_
        refine s_iload S473 (hb hby at_94) rfl (pc' := 96) rfl ?_
        refine s_icmpN S473 (hb hby at_96) (by decide) (pc' := 99) rfl ?_
        refine s_iload S473 (hb hby at_99) rfl (pc' := 101) rfl ?_
        refine s_iload S473 (hb hby at_101) rfl (pc' := 103) rfl ?_
        refine s_iload S473 (hb hby at_103) rfl (pc' := 105) rfl ?_
        show Go p e below _ (T473.setTop (mkF m 105 #[.val (.int k_), .val (.int p0), .val (.int p1), .val (.int p2), .val (.int fi), .val (.int en), .val (.int (0 : Int32)), .val (.int (2 : Int32)), .val (.ref b457), .val (.ref b458), .val (.int (2 : Int32)), .unset] [(.int (0 : Int32)), (.int (2 : Int32)), (.int (2 : Int32))]))
        refine g_static S473 (rmMX X (z := (2 : Int32)) (by decide) S473.old) (fun _ q => nomatch q) (w42 hw) (w43 hw) (w44 hw) (w45 hw) (by decide) (hb hby at_105) (by rw [hml]; rfl) [(.int (2 : Int32)), (.int (0 : Int32))] (lenOf pd7 rfl) rfl rfl (Nat.le_of_ble_eq_true rfl) (Nat.le_of_ble_eq_true rfl) (Nat.le_of_ble_eq_true rfl) (Nat.le_of_ble_eq_true rfl) ?_
        intro v474 T474 V474 h474 S474 C474 q474
        obtain ⟨rfl, rfl⟩ := q474
        show Go p e below _ (T474.setTop (mkF m 108 #[.val (.int k_), .val (.int p0), .val (.int p1), .val (.int p2), .val (.int fi), .val (.int en), .val (.int (0 : Int32)), .val (.int (2 : Int32)), .val (.ref b457), .val (.ref b458), .val (.int (2 : Int32)), .unset] [(.int (2 : Int32)), (.int (2 : Int32))]))
        refine s_icmpY S474 (hb hby at_108) (by decide) (by decide) (pcT := 113) (by decide) ?_
        refine s_iload S474 (hb hby at_113) rfl (pc' := 115) rfl ?_
        refine s_ifY S474 (hb hby at_115) (by decide) (by decide) (pcT := 137) (by decide) ?_
        refine s_iload S474 (hb hby at_137) rfl (pc' := 139) rfl ?_
        refine s_iconst S474 (hb hby at_139) (v := (1 : Int32)) rfl (pc' := 140) rfl ?_
        refine s_icmpY S474 (hb hby at_140) (by decide) (by decide) (pcT := 162) (by decide) ?_
        refine s_iload S474 (hb hby at_162) rfl (pc' := 164) rfl ?_
        refine s_iconst S474 (hb hby at_164) (v := (2 : Int32)) rfl (pc' := 165) rfl ?_
        refine s_icmpN S474 (hb hby at_165) (by decide) (pc' := 168) rfl ?_
        refine s_iconst S474 (hb hby at_168) (v := (2 : Int32)) rfl (pc' := 169) rfl ?_
        refine s_iload S474 (hb hby at_169) rfl (pc' := 171) rfl ?_
        refine s_icmpY S474 (hb hby at_171) (by decide) (by decide) (pcT := 187) (by decide) ?_
        refine s_iload S474 (hb hby at_187) rfl (pc' := 189) rfl ?_
        refine s_iload S474 (hb hby at_189) rfl (pc' := 191) rfl ?_
        refine s_icmpY S474 (hb hby at_191) (by decide) (by decide) (pcT := 230) (by decide) ?_
        refine s_iconst S474 (hb hby at_230) (v := (1 : Int32)) rfl (pc' := 231) rfl ?_
        exact g_iretN S474 (hb hby at_231) hret (by simp) ⟨rfl, trivial⟩
    · skip
      show Go p e below _ (T463.setTop (mkF m 79 #[.val (.int k_), .val (.int p0), .val (.int p1), .val (.int p2), .val (.int fi), .val (.int en), .val (.int (0 : Int32)), .val (.int (3 : Int32)), .val (.ref b457), .val (.ref b458), .unset, .unset] []))
      refine s_aload S463 (hb hby at_79) rfl rfl (pc' := 81) rfl ?_
      refine s_iload S463 (hb hby at_81) rfl (pc' := 83) rfl ?_
      refine s_iload S463 (hb hby at_83) rfl (pc' := 85) rfl ?_
      refine s_iload S463 (hb hby at_85) rfl (pc' := 87) rfl ?_
      show Go p e below _ (T463.setTop (mkF m 87 #[.val (.int k_), .val (.int p0), .val (.int p1), .val (.int p2), .val (.int fi), .val (.int en), .val (.int (0 : Int32)), .val (.int (3 : Int32)), .val (.ref b457), .val (.ref b458), .unset, .unset] [(.int en), (.int fi), (.int (3 : Int32)), (.ref b458)]))
      refine g_virtual S463 (rmAF03 X S463.old A0) (fun _ q => nomatch q) (w35 hw) (w36 hw) (w38 hw) (w37 hw) (w3 hw) (w39 hw) (by decide) (fun _ h => notFace_of_selects h) (hb hby at_87) (by rw [hml]; rfl) b458 A0.1 [(.int (3 : Int32)), (.int fi), (.int en)] (lenOf pd11 rfl) rfl rfl (Nat.le_of_ble_eq_true rfl) (Nat.le_of_ble_eq_true rfl) (Nat.le_of_ble_eq_true rfl) (Nat.le_of_ble_eq_true rfl) ?_
      intro v476 T476 V476 h476 S476 C476 q476
      obtain ⟨r475, rfl, hr475, rfl⟩ := q476
      rcases hr475 with ⟨rfl, -⟩
      · skip
        show Go p e below _ (T476.setTop (mkF m 90 #[.val (.int k_), .val (.int p0), .val (.int p1), .val (.int p2), .val (.int fi), .val (.int en), .val (.int (0 : Int32)), .val (.int (3 : Int32)), .val (.ref b457), .val (.ref b458), .unset, .unset] [(.int (3 : Int32))]))
        refine s_istore S476 (hb hby at_90) (L' := #[.val (.int k_), .val (.int p0), .val (.int p1), .val (.int p2), .val (.int fi), .val (.int en), .val (.int (0 : Int32)), .val (.int (3 : Int32)), .val (.ref b457), .val (.ref b458), .val (.int (3 : Int32)), .unset]) rfl (pc' := 92) rfl ?_
        refine s_iload S476 (hb hby at_92) rfl (pc' := 94) rfl ?_
        refine s_iload S476 (hb hby at_94) rfl (pc' := 96) rfl ?_
        refine s_icmpN S476 (hb hby at_96) (by decide) (pc' := 99) rfl ?_
        refine s_iload S476 (hb hby at_99) rfl (pc' := 101) rfl ?_
        refine s_iload S476 (hb hby at_101) rfl (pc' := 103) rfl ?_
        refine s_iload S476 (hb hby at_103) rfl (pc' := 105) rfl ?_
        show Go p e below _ (T476.setTop (mkF m 105 #[.val (.int k_), .val (.int p0), .val (.int p1), .val (.int p2), .val (.int fi), .val (.int en), .val (.int (0 : Int32)), .val (.int (3 : Int32)), .val (.ref b457), .val (.ref b458), .val (.int (3 : Int32)), .unset] [(.int (0 : Int32)), (.int (3 : Int32)), (.int (3 : Int32))]))
        refine g_static S476 (rmMX X (z := (3 : Int32)) (by decide) S476.old) (fun _ q => nomatch q) (w42 hw) (w43 hw) (w44 hw) (w45 hw) (by decide) (hb hby at_105) (by rw [hml]; rfl) [(.int (3 : Int32)), (.int (0 : Int32))] (lenOf pd7 rfl) rfl rfl (Nat.le_of_ble_eq_true rfl) (Nat.le_of_ble_eq_true rfl) (Nat.le_of_ble_eq_true rfl) (Nat.le_of_ble_eq_true rfl) ?_
        intro v477 T477 V477 h477 S477 C477 q477
        obtain ⟨rfl, rfl⟩ := q477
        show Go p e below _ (T477.setTop (mkF m 108 #[.val (.int k_), .val (.int p0), .val (.int p1), .val (.int p2), .val (.int fi), .val (.int en), .val (.int (0 : Int32)), .val (.int (3 : Int32)), .val (.ref b457), .val (.ref b458), .val (.int (3 : Int32)), .unset] [(.int (3 : Int32)), (.int (3 : Int32))]))
        refine s_icmpY S477 (hb hby at_108) (by decide) (by decide) (pcT := 113) (by decide) ?_
        refine s_iload S477 (hb hby at_113) rfl (pc' := 115) rfl ?_
        refine s_ifY S477 (hb hby at_115) (by decide) (by decide) (pcT := 137) (by decide) ?_
        refine s_iload S477 (hb hby at_137) rfl (pc' := 139) rfl ?_
        refine s_iconst S477 (hb hby at_139) (v := (1 : Int32)) rfl (pc' := 140) rfl ?_
        refine s_icmpY S477 (hb hby at_140) (by decide) (by decide) (pcT := 162) (by decide) ?_
        refine s_iload S477 (hb hby at_162) rfl (pc' := 164) rfl ?_
        refine s_iconst S477 (hb hby at_164) (v := (2 : Int32)) rfl (pc' := 165) rfl ?_
        refine s_icmpY S477 (hb hby at_165) (by decide) (by decide) (pcT := 187) (by decide) ?_
        refine s_iload S477 (hb hby at_187) rfl (pc' := 189) rfl ?_
        refine s_iload S477 (hb hby at_189) rfl (pc' := 191) rfl ?_
        refine s_icmpY S477 (hb hby at_191) (by decide) (by decide) (pcT := 230) (by decide) ?_
        refine s_iconst S477 (hb hby at_230) (v := (1 : Int32)) rfl (pc' := 231) rfl ?_
        exact g_iretN S477 (hb hby at_231) hret (by simp) ⟨rfl, trivial⟩
    · skip
      show Go p e below _ (T463.setTop (mkF m 79 #[.val (.int k_), .val (.int p0), .val (.int p1), .val (.int p2), .val (.int fi), .val (.int en), .val (.int (0 : Int32)), .val (.int (4 : Int32)), .val (.ref b457), .val (.ref b458), .unset, .unset] []))
      refine s_aload S463 (hb hby at_79) rfl rfl (pc' := 81) rfl ?_
      refine s_iload S463 (hb hby at_81) rfl (pc' := 83) rfl ?_
      refine s_iload S463 (hb hby at_83) rfl (pc' := 85) rfl ?_
      refine s_iload S463 (hb hby at_85) rfl (pc' := 87) rfl ?_
      show Go p e below _ (T463.setTop (mkF m 87 #[.val (.int k_), .val (.int p0), .val (.int p1), .val (.int p2), .val (.int fi), .val (.int en), .val (.int (0 : Int32)), .val (.int (4 : Int32)), .val (.ref b457), .val (.ref b458), .unset, .unset] [(.int en), (.int fi), (.int (4 : Int32)), (.ref b458)]))
      refine g_virtual S463 (rmAF04 X S463.old A0) (fun _ q => nomatch q) (w35 hw) (w36 hw) (w38 hw) (w37 hw) (w3 hw) (w39 hw) (by decide) (fun _ h => notFace_of_selects h) (hb hby at_87) (by rw [hml]; rfl) b458 A0.1 [(.int (4 : Int32)), (.int fi), (.int en)] (lenOf pd11 rfl) rfl rfl (Nat.le_of_ble_eq_true rfl) (Nat.le_of_ble_eq_true rfl) (Nat.le_of_ble_eq_true rfl) (Nat.le_of_ble_eq_true rfl) ?_
      intro v479 T479 V479 h479 S479 C479 q479
      obtain ⟨r478, rfl, hr478, rfl⟩ := q479
      rcases hr478 with ⟨rfl, -⟩
      · skip
        show Go p e below _ (T479.setTop (mkF m 90 #[.val (.int k_), .val (.int p0), .val (.int p1), .val (.int p2), .val (.int fi), .val (.int en), .val (.int (0 : Int32)), .val (.int (4 : Int32)), .val (.ref b457), .val (.ref b458), .unset, .unset] [(.int (4 : Int32))]))
        refine s_istore S479 (hb hby at_90) (L' := #[.val (.int k_), .val (.int p0), .val (.int p1), .val (.int p2), .val (.int fi), .val (.int en), .val (.int (0 : Int32)), .val (.int (4 : Int32)), .val (.ref b457), .val (.ref b458), .val (.int (4 : Int32)), .unset]) rfl (pc' := 92) rfl ?_
        refine s_iload S479 (hb hby at_92) rfl (pc' := 94) rfl ?_
        refine s_iload S479 (hb hby at_94) rfl (pc' := 96) rfl ?_
        refine s_icmpN S479 (hb hby at_96) (by decide) (pc' := 99) rfl ?_
        refine s_iload S479 (hb hby at_99) rfl (pc' := 101) rfl ?_
        refine s_iload S479 (hb hby at_101) rfl (pc' := 103) rfl ?_
        refine s_iload S479 (hb hby at_103) rfl (pc' := 105) rfl ?_
        show Go p e below _ (T479.setTop (mkF m 105 #[.val (.int k_), .val (.int p0), .val (.int p1), .val (.int p2), .val (.int fi), .val (.int en), .val (.int (0 : Int32)), .val (.int (4 : Int32)), .val (.ref b457), .val (.ref b458), .val (.int (4 : Int32)), .unset] [(.int (0 : Int32)), (.int (4 : Int32)), (.int (4 : Int32))]))
        refine g_static S479 (rmMX X (z := (4 : Int32)) (by decide) S479.old) (fun _ q => nomatch q) (w42 hw) (w43 hw) (w44 hw) (w45 hw) (by decide) (hb hby at_105) (by rw [hml]; rfl) [(.int (4 : Int32)), (.int (0 : Int32))] (lenOf pd7 rfl) rfl rfl (Nat.le_of_ble_eq_true rfl) (Nat.le_of_ble_eq_true rfl) (Nat.le_of_ble_eq_true rfl) (Nat.le_of_ble_eq_true rfl) ?_
        intro v480 T480 V480 h480 S480 C480 q480
        obtain ⟨rfl, rfl⟩ := q480
        show Go p e below _ (T480.setTop (mkF m 108 #[.val (.int k_), .val (.int p0), .val (.int p1), .val (.int p2), .val (.int fi), .val (.int en), .val (.int (0 : Int32)), .val (.int (4 : Int32)), .val (.ref b457), .val (.ref b458), .val (.int (4 : Int32)), .unset] [(.int (4 : Int32)), (.int (4 : Int32))]))
        refine s_icmpY S480 (hb hby at_108) (by decide) (by decide) (pcT := 113) (by decide) ?_
        refine s_iload S480 (hb hby at_113) rfl (pc' := 115) rfl ?_
        refine s_ifY S480 (hb hby at_115) (by decide) (by decide) (pcT := 137) (by decide) ?_
        refine s_iload S480 (hb hby at_137) rfl (pc' := 139) rfl ?_
        refine s_iconst S480 (hb hby at_139) (v := (1 : Int32)) rfl (pc' := 140) rfl ?_
        refine s_icmpY S480 (hb hby at_140) (by decide) (by decide) (pcT := 162) (by decide) ?_
        refine s_iload S480 (hb hby at_162) rfl (pc' := 164) rfl ?_
        refine s_iconst S480 (hb hby at_164) (v := (2 : Int32)) rfl (pc' := 165) rfl ?_
        refine s_icmpY S480 (hb hby at_165) (by decide) (by decide) (pcT := 187) (by decide) ?_
        refine s_iload S480 (hb hby at_187) rfl (pc' := 189) rfl ?_
        refine s_iload S480 (hb hby at_189) rfl (pc' := 191) rfl ?_
        refine s_icmpY S480 (hb hby at_191) (by decide) (by decide) (pcT := 230) (by decide) ?_
        refine s_iconst S480 (hb hby at_230) (v := (1 : Int32)) rfl (pc' := 231) rfl ?_
        exact g_iretN S480 (hb hby at_231) hret (by simp) ⟨rfl, trivial⟩
  · skip
    show Go p e below _ (T0.setTop (mkF m 5 #[.val (.int k_), .val (.int p0), .val (.int p1), .val (.int p2), .val (.int fi), .val (.int en), .val (.int (1 : Int32)), .unset, .unset, .unset, .unset, .unset] []))
    refine s_iloadN S0 (hb hby at_5) rfl (pc' := 6) rfl ?_
    refine s_iconst S0 (hb hby at_6) (v := (2 : Int32)) rfl (pc' := 7) rfl ?_
    refine s_iushr S0 (hb hby at_7) (z := ((k_.toUInt32 >>> ((2 : Int32) &&& 31).toUInt32).toInt32)) rfl (pc' := 8) rfl ?_
    refine s_iconst S0 (hb hby at_8) (v := (5 : Int32)) rfl (pc' := 9) rfl ?_
    refine s_irem S0 (hb hby at_9) (by decide) (z := (((k_.toUInt32 >>> ((2 : Int32) &&& 31).toUInt32).toInt32) % (5 : Int32))) rfl (pc' := 10) rfl ?_
    generalize eas_481 : (((k_.toUInt32 >>> ((2 : Int32) &&& 31).toUInt32).toInt32) % (5 : Int32)) = as_481
    refine s_istore S0 (hb hby at_10) (L' := #[.val (.int k_), .val (.int p0), .val (.int p1), .val (.int p2), .val (.int fi), .val (.int en), .val (.int (1 : Int32)), .val (.int as_481), .unset, .unset, .unset, .unset]) rfl (pc' := 12) rfl ?_
    refine s_iconst S0 (hb hby at_12) (v := (0 : Int32)) rfl (pc' := 13) rfl ?_
    refine g_newarr (aty := .char) S0 (w0 hw) (hb hby at_13) (by decide) (cap := 0) (by decide) (by decide) (Nat.le_of_ble_eq_true rfl) (Nat.le_of_ble_eq_true rfl) ?_
    intro T482 h482 b482 kc482 S482 E482 fr482 lt482 na482 sf482 A482
    have V482 : Arv Z h482 b482 kc482 .char (0 : Int32) [] (.int (0 : Int32)) := A482 0
    show Go p e below _ (T482.setTop (mkF m 15 #[.val (.int k_), .val (.int p0), .val (.int p1), .val (.int p2), .val (.int fi), .val (.int en), .val (.int (1 : Int32)), .val (.int as_481), .unset, .unset, .unset, .unset] [(.ref b482)]))
    refine s_astore S482 (hb hby at_15) rfl (L' := #[.val (.int k_), .val (.int p0), .val (.int p1), .val (.int p2), .val (.int fi), .val (.int en), .val (.int (1 : Int32)), .val (.int as_481), .val (.ref b482), .unset, .unset, .unset]) rfl (pc' := 17) rfl ?_
    refine g_new S482 (w1 hw) (w2 hw) (w3 hw) (hb hby at_17) (Nat.le_of_ble_eq_true rfl) (Nat.le_of_ble_eq_true rfl) ?_
    intro T483 h483 b483 S483 E483 fr483 lt483 na483 sf483 A483 D483
    have F484 : Fld Z h483 b483 "com/example/nodewarden/nodewarden/core/Asides" "text" "Ljava/lang/StringBuilder;" .null := D483 (Or.inr (w31 hw)) (ty := (.object "java/lang/StringBuilder")) (by decide)
    have F485 : Fld Z h483 b483 "com/example/nodewarden/nodewarden/core/Asides" "table" "[I" .null := D483 (Or.inl (w34 hw)) (ty := (.array .int)) (by decide)
    have F486 : Fld Z h483 b483 "com/example/nodewarden/nodewarden/core/Asides" "count" "I" (.int (0 : Int32)) := D483 (Or.inl (w41 hw)) (ty := .int) (by decide)
    show Go p e below _ (T483.setTop (mkF m 20 #[.val (.int k_), .val (.int p0), .val (.int p1), .val (.int p2), .val (.int fi), .val (.int en), .val (.int (1 : Int32)), .val (.int as_481), .val (.ref b482), .unset, .unset, .unset] [(.ref b483)]))
    refine s_dup S483 (hb hby at_20) rfl (pc' := 21) rfl ?_
    have V487 := V482.ext E483
    have nXC : b483 ≠ b482 := Exa.neArv A483 V487 (w2 hw)
    show Go p e below _ (T483.setTop (mkF m 21 #[.val (.int k_), .val (.int p0), .val (.int p1), .val (.int p2), .val (.int fi), .val (.int en), .val (.int (1 : Int32)), .val (.int as_481), .val (.ref b482), .unset, .unset, .unset] [(.ref b483), (.ref b483)]))
    refine g_special S483 (rmIN X na483 S483.old A483 F484 F485 F486) (fun _ q => nomatch q) rfl (w4 hw) (w5 hw) (w3 hw) (w6 hw) (by decide) (hb hby at_21) (by rw [hml]; rfl) b483 [] (lenOf pd6 rfl) rfl rfl (Nat.le_of_ble_eq_true rfl) (Nat.le_of_ble_eq_true rfl) (Nat.le_of_ble_eq_true rfl) (Nat.le_of_ble_eq_true rfl) ?_
    intro v488 T488 V488 h488 S488 C488 q488
    obtain ⟨rfl, sb, tb, t, kb, kt, K0, A0, sf0_⟩ := q488
    have X489 : Ext h482 h488 := ext_keep1 E483 K0 fr483
    have V490 := V482.ext X489
    show Go p e below _ (T488.setTop (mkF m 24 #[.val (.int k_), .val (.int p0), .val (.int p1), .val (.int p2), .val (.int fi), .val (.int en), .val (.int (1 : Int32)), .val (.int as_481), .val (.ref b482), .unset, .unset, .unset] [(.ref b483)]))
    refine s_astore S488 (hb hby at_24) rfl (L' := #[.val (.int k_), .val (.int p0), .val (.int p1), .val (.int p2), .val (.int fi), .val (.int en), .val (.int (1 : Int32)), .val (.int as_481), .val (.ref b482), .val (.ref b483), .unset, .unset]) rfl (pc' := 26) rfl ?_
    refine s_iload S488 (hb hby at_26) rfl (pc' := 28) rfl ?_
    refine s_ifN S488 (hb hby at_28) (by decide) (pc' := 31) rfl ?_
    refine s_aload S488 (hb hby at_31) rfl rfl (pc' := 33) rfl ?_
    refine s_iloadN S488 (hb hby at_33) rfl (pc' := 34) rfl ?_
    refine s_iconst S488 (hb hby at_34) (v := (0 : Int32)) rfl (pc' := 35) rfl ?_
    refine s_iconst S488 (hb hby at_35) (v := (0 : Int32)) rfl (pc' := 36) rfl ?_
    refine s_aload S488 (hb hby at_36) rfl rfl (pc' := 38) rfl ?_
    refine s_iconst S488 (hb hby at_38) (v := (0 : Int32)) rfl (pc' := 39) rfl ?_
    refine s_iconst S488 (hb hby at_39) (v := (0 : Int32)) rfl (pc' := 40) rfl ?_
    show Go p e below _ (T488.setTop (mkF m 40 #[.val (.int k_), .val (.int p0), .val (.int p1), .val (.int p2), .val (.int fi), .val (.int en), .val (.int (1 : Int32)), .val (.int as_481), .val (.ref b482), .val (.ref b483), .unset, .unset] [(.int (0 : Int32)), (.int (0 : Int32)), (.ref b482), (.int (0 : Int32)), (.int (0 : Int32)), (.int p0), (.ref b483)]))
    refine g_virtual S488 (rmAC0 X p0 (0 : Int32) (0 : Int32) S488.old A0 V490) (fun _ q => nomatch q) (w46 hw) (w47 hw) (w49 hw) (w48 hw) (w3 hw) (w50 hw) (by decide) (fun _ h => notFace_of_selects h) (hb hby at_40) (by rw [hml]; rfl) b483 A0.1 [(.int p0), (.int (0 : Int32)), (.int (0 : Int32)), (.ref b482), (.int (0 : Int32)), (.int (0 : Int32))] (lenOf pd12 rfl) rfl rfl (Nat.le_of_ble_eq_true rfl) (Nat.le_of_ble_eq_true rfl) (Nat.le_of_ble_eq_true rfl) (Nat.le_of_ble_eq_true rfl) ?_
    intro v492 T492 V492 h492 S492 C492 q492
    obtain ⟨rfl, t1, kt1, Ac491, Vc491⟩ := q492
    show Go p e below _ (T492.setTop (mkF m 43 #[.val (.int k_), .val (.int p0), .val (.int p1), .val (.int p2), .val (.int fi), .val (.int en), .val (.int (1 : Int32)), .val (.int as_481), .val (.ref b482), .val (.ref b483), .unset, .unset] []))
    refine s_iload S492 (hb hby at_43) rfl (pc' := 45) rfl ?_
    refine s_iconst S492 (hb hby at_45) (v := (1 : Int32)) rfl (pc' := 46) rfl ?_
    refine s_icmpY S492 (hb hby at_46) (by decide) (by decide) (pcT := 61) (by decide) ?_
    refine s_iload S492 (hb hby at_61) rfl (pc' := 63) rfl ?_
    refine s_iconst S492 (hb hby at_63) (v := (2 : Int32)) rfl (pc' := 64) rfl ?_
    refine s_icmpY S492 (hb hby at_64) (by decide) (by decide) (pcT := 79) (by decide) ?_
    rcases own_as5 k_ as_481 eas_481 with rfl | rfl | rfl | rfl | rfl
    · skip
      show Go p e below _ (T492.setTop (mkF m 79 #[.val (.int k_), .val (.int p0), .val (.int p1), .val (.int p2), .val (.int fi), .val (.int en), .val (.int (1 : Int32)), .val (.int (0 : Int32)), .val (.ref b482), .val (.ref b483), .unset, .unset] []))
      refine s_aload S492 (hb hby at_79) rfl rfl (pc' := 81) rfl ?_
      refine s_iload S492 (hb hby at_81) rfl (pc' := 83) rfl ?_
      refine s_iload S492 (hb hby at_83) rfl (pc' := 85) rfl ?_
      refine s_iload S492 (hb hby at_85) rfl (pc' := 87) rfl ?_
      show Go p e below _ (T492.setTop (mkF m 87 #[.val (.int k_), .val (.int p0), .val (.int p1), .val (.int p2), .val (.int fi), .val (.int en), .val (.int (1 : Int32)), .val (.int (0 : Int32)), .val (.ref b482), .val (.ref b483), .unset, .unset] [(.int en), (.int fi), (.int (0 : Int32)), (.ref b483)]))
      refine g_virtual S492 (rmAF10 X S492.old Ac491) (fun _ q => nomatch q) (w35 hw) (w36 hw) (w38 hw) (w37 hw) (w3 hw) (w39 hw) (by decide) (fun _ h => notFace_of_selects h) (hb hby at_87) (by rw [hml]; rfl) b483 Ac491.1 [(.int (0 : Int32)), (.int fi), (.int en)] (lenOf pd11 rfl) rfl rfl (Nat.le_of_ble_eq_true rfl) (Nat.le_of_ble_eq_true rfl) (Nat.le_of_ble_eq_true rfl) (Nat.le_of_ble_eq_true rfl) ?_
      intro v494 T494 V494 h494 S494 C494 q494
      obtain ⟨r493, rfl, hr493, rfl⟩ := q494
      rcases hr493 with ⟨rfl, hz, -⟩ | ⟨rfl, ⟨a0, b0⟩, -⟩
      · skip
        show Go p e below _ (T494.setTop (mkF m 90 #[.val (.int k_), .val (.int p0), .val (.int p1), .val (.int p2), .val (.int fi), .val (.int en), .val (.int (1 : Int32)), .val (.int (0 : Int32)), .val (.ref b482), .val (.ref b483), .unset, .unset] [(.int (0 : Int32))]))
        refine s_istore S494 (hb hby at_90) (L' := #[.val (.int k_), .val (.int p0), .val (.int p1), .val (.int p2), .val (.int fi), .val (.int en), .val (.int (1 : Int32)), .val (.int (0 : Int32)), .val (.ref b482), .val (.ref b483), .val (.int (0 : Int32)), .unset]) rfl (pc' := 92) rfl ?_
        refine s_iload S494 (hb hby at_92) rfl (pc' := 94) rfl ?_
        refine s_iload S494 (hb hby at_94) rfl (pc' := 96) rfl ?_
        refine s_icmpN S494 (hb hby at_96) (by decide) (pc' := 99) rfl ?_
        refine s_iload S494 (hb hby at_99) rfl (pc' := 101) rfl ?_
        refine s_iload S494 (hb hby at_101) rfl (pc' := 103) rfl ?_
        refine s_iload S494 (hb hby at_103) rfl (pc' := 105) rfl ?_
        show Go p e below _ (T494.setTop (mkF m 105 #[.val (.int k_), .val (.int p0), .val (.int p1), .val (.int p2), .val (.int fi), .val (.int en), .val (.int (1 : Int32)), .val (.int (0 : Int32)), .val (.ref b482), .val (.ref b483), .val (.int (0 : Int32)), .unset] [(.int (1 : Int32)), (.int (0 : Int32)), (.int (0 : Int32))]))
        refine g_static S494 (rmMX X (z := (1 : Int32)) (by decide) S494.old) (fun _ q => nomatch q) (w42 hw) (w43 hw) (w44 hw) (w45 hw) (by decide) (hb hby at_105) (by rw [hml]; rfl) [(.int (0 : Int32)), (.int (1 : Int32))] (lenOf pd7 rfl) rfl rfl (Nat.le_of_ble_eq_true rfl) (Nat.le_of_ble_eq_true rfl) (Nat.le_of_ble_eq_true rfl) (Nat.le_of_ble_eq_true rfl) ?_
        intro v495 T495 V495 h495 S495 C495 q495
        obtain ⟨rfl, rfl⟩ := q495
        show Go p e below _ (T495.setTop (mkF m 108 #[.val (.int k_), .val (.int p0), .val (.int p1), .val (.int p2), .val (.int fi), .val (.int en), .val (.int (1 : Int32)), .val (.int (0 : Int32)), .val (.ref b482), .val (.ref b483), .val (.int (0 : Int32)), .unset] [(.int (1 : Int32)), (.int (0 : Int32))]))
        refine s_icmpY S495 (hb hby at_108) (by decide) (by decide) (pcT := 113) (by decide) ?_
        refine s_iload S495 (hb hby at_113) rfl (pc' := 115) rfl ?_
        refine s_ifN S495 (hb hby at_115) (by decide) (pc' := 118) rfl ?_
        refine s_iconst S495 (hb hby at_118) (v := (0 : Int32)) rfl (pc' := 119) rfl ?_
        refine s_iload S495 (hb hby at_119) rfl (pc' := 121) rfl ?_
        refine s_icmpY S495 (hb hby at_121) (by decide) (by decide) (pcT := 137) (by decide) ?_
        refine s_iload S495 (hb hby at_137) rfl (pc' := 139) rfl ?_
        refine s_iconst S495 (hb hby at_139) (v := (1 : Int32)) rfl (pc' := 140) rfl ?_
        refine s_icmpN S495 (hb hby at_140) (by decide) (pc' := 143) rfl ?_
        refine s_iconst S495 (hb hby at_143) (v := (1 : Int32)) rfl (pc' := 144) rfl ?_
        refine s_iload S495 (hb hby at_144) rfl (pc' := 146) rfl ?_
        refine s_icmpY S495 (hb hby at_146) (by decide) (by decide) (pcT := 162) (by decide) ?_
        refine s_iload S495 (hb hby at_162) rfl (pc' := 164) rfl ?_
        refine s_iconst S495 (hb hby at_164) (v := (2 : Int32)) rfl (pc' := 165) rfl ?_
        refine s_icmpN S495 (hb hby at_165) (by decide) (pc' := 168) rfl ?_
        refine s_iconst S495 (hb hby at_168) (v := (2 : Int32)) rfl (pc' := 169) rfl ?_
        refine s_iload S495 (hb hby at_169) rfl (pc' := 171) rfl ?_
        refine s_icmpY S495 (hb hby at_171) (by decide) (by decide) (pcT := 187) (by decide) ?_
        refine s_iload S495 (hb hby at_187) rfl (pc' := 189) rfl ?_
        refine s_iload S495 (hb hby at_189) rfl (pc' := 191) rfl ?_
        refine s_icmpN S495 (hb hby at_191) (by decide) (pc' := 194) rfl ?_
        refine s_iload S495 (hb hby at_194) rfl (pc' := 196) rfl ?_
        refine s_ifN S495 (hb hby at_196) (by decide) (pc' := 199) rfl ?_
        refine s_iloadN S495 (hb hby at_199) rfl (pc' := 200) rfl ?_
        refine s_goto S495 (hb hby at_200) (by decide) (pcT := 214) (by decide) ?_
        refine s_istore S495 (hb hby at_214) (L' := #[.val (.int k_), .val (.int p0), .val (.int p1), .val (.int p2), .val (.int fi), .val (.int en), .val (.int (1 : Int32)), .val (.int (0 : Int32)), .val (.ref b482), .val (.ref b483), .val (.int (0 : Int32)), .val (.int p0)]) rfl (pc' := 216) rfl ?_
        refine s_iload S495 (hb hby at_216) rfl (pc' := 218) rfl ?_
        refine s_iload S495 (hb hby at_218) rfl (pc' := 220) rfl ?_
        refine s_iload S495 (hb hby at_220) rfl (pc' := 222) rfl ?_
        show Go p e below _ (T495.setTop (mkF m 222 #[.val (.int k_), .val (.int p0), .val (.int p1), .val (.int p2), .val (.int fi), .val (.int en), .val (.int (1 : Int32)), .val (.int (0 : Int32)), .val (.ref b482), .val (.ref b483), .val (.int (0 : Int32)), .val (.int p0)] [(.int en), (.int fi), (.int p0)]))
        refine g_static S495 (rmI0 X S495.old hz) (fun _ q => nomatch q) (w109 hw) (w110 hw) (w111 hw) (w112 hw) (by decide) (hb hby at_222) (by rw [hml]; rfl) [(.int p0), (.int fi), (.int en)] (lenOf pd13 rfl) rfl rfl (Nat.le_of_ble_eq_true rfl) (Nat.le_of_ble_eq_true rfl) (Nat.le_of_ble_eq_true rfl) (Nat.le_of_ble_eq_true rfl) ?_
        intro v496 T496 V496 h496 S496 C496 q496
        obtain ⟨rfl, rfl⟩ := q496
        show Go p e below _ (T496.setTop (mkF m 225 #[.val (.int k_), .val (.int p0), .val (.int p1), .val (.int p2), .val (.int fi), .val (.int en), .val (.int (1 : Int32)), .val (.int (0 : Int32)), .val (.ref b482), .val (.ref b483), .val (.int (0 : Int32)), .val (.int p0)] [(.int (0 : Int32))]))
        refine s_ifY S496 (hb hby at_225) (by decide) (by decide) (pcT := 230) (by decide) ?_
        refine s_iconst S496 (hb hby at_230) (v := (1 : Int32)) rfl (pc' := 231) rfl ?_
        exact g_iretN S496 (hb hby at_231) hret (by simp) ⟨rfl, trivial⟩
      · skip
        show Go p e below _ (T494.setTop (mkF m 90 #[.val (.int k_), .val (.int p0), .val (.int p1), .val (.int p2), .val (.int fi), .val (.int en), .val (.int (1 : Int32)), .val (.int (0 : Int32)), .val (.ref b482), .val (.ref b483), .unset, .unset] [(.int (1 : Int32))]))
        refine s_istore S494 (hb hby at_90) (L' := #[.val (.int k_), .val (.int p0), .val (.int p1), .val (.int p2), .val (.int fi), .val (.int en), .val (.int (1 : Int32)), .val (.int (0 : Int32)), .val (.ref b482), .val (.ref b483), .val (.int (1 : Int32)), .unset]) rfl (pc' := 92) rfl ?_
        refine s_iload S494 (hb hby at_92) rfl (pc' := 94) rfl ?_
        refine s_iload S494 (hb hby at_94) rfl (pc' := 96) rfl ?_
        refine s_icmpN S494 (hb hby at_96) (by decide) (pc' := 99) rfl ?_
        refine s_iload S494 (hb hby at_99) rfl (pc' := 101) rfl ?_
        refine s_iload S494 (hb hby at_101) rfl (pc' := 103) rfl ?_
        refine s_iload S494 (hb hby at_103) rfl (pc' := 105) rfl ?_
        show Go p e below _ (T494.setTop (mkF m 105 #[.val (.int k_), .val (.int p0), .val (.int p1), .val (.int p2), .val (.int fi), .val (.int en), .val (.int (1 : Int32)), .val (.int (0 : Int32)), .val (.ref b482), .val (.ref b483), .val (.int (1 : Int32)), .unset] [(.int (1 : Int32)), (.int (0 : Int32)), (.int (1 : Int32))]))
        refine g_static S494 (rmMX X (z := (1 : Int32)) (by decide) S494.old) (fun _ q => nomatch q) (w42 hw) (w43 hw) (w44 hw) (w45 hw) (by decide) (hb hby at_105) (by rw [hml]; rfl) [(.int (0 : Int32)), (.int (1 : Int32))] (lenOf pd7 rfl) rfl rfl (Nat.le_of_ble_eq_true rfl) (Nat.le_of_ble_eq_true rfl) (Nat.le_of_ble_eq_true rfl) (Nat.le_of_ble_eq_true rfl) ?_
        intro v497 T497 V497 h497 S497 C497 q497
        obtain ⟨rfl, rfl⟩ := q497
        show Go p e below _ (T497.setTop (mkF m 108 #[.val (.int k_), .val (.int p0), .val (.int p1), .val (.int p2), .val (.int fi), .val (.int en), .val (.int (1 : Int32)), .val (.int (0 : Int32)), .val (.ref b482), .val (.ref b483), .val (.int (1 : Int32)), .unset] [(.int (1 : Int32)), (.int (1 : Int32))]))
        refine s_icmpY S497 (hb hby at_108) (by decide) (by decide) (pcT := 113) (by decide) ?_
        refine s_iload S497 (hb hby at_113) rfl (pc' := 115) rfl ?_
        refine s_ifN S497 (hb hby at_115) (by decide) (pc' := 118) rfl ?_
        refine s_iconst S497 (hb hby at_118) (v := (0 : Int32)) rfl (pc' := 119) rfl ?_
        refine s_iload S497 (hb hby at_119) rfl (pc' := 121) rfl ?_
        refine s_icmpN S497 (hb hby at_121) (by decide) (pc' := 124) rfl ?_
        refine s_iloadN S497 (hb hby at_124) rfl (pc' := 125) rfl ?_
        refine s_iload S497 (hb hby at_125) rfl (pc' := 127) rfl ?_
        refine s_iload S497 (hb hby at_127) rfl (pc' := 129) rfl ?_
        show Go p e below _ (T497.setTop (mkF m 129 #[.val (.int k_), .val (.int p0), .val (.int p1), .val (.int p2), .val (.int fi), .val (.int en), .val (.int (1 : Int32)), .val (.int (0 : Int32)), .val (.ref b482), .val (.ref b483), .val (.int (1 : Int32)), .unset] [(.int en), (.int fi), (.int p0)]))
        refine g_static S497 (rmI1 X S497.old a0 b0) (fun _ q => nomatch q) (w109 hw) (w110 hw) (w111 hw) (w112 hw) (by decide) (hb hby at_129) (by rw [hml]; rfl) [(.int p0), (.int fi), (.int en)] (lenOf pd13 rfl) rfl rfl (Nat.le_of_ble_eq_true rfl) (Nat.le_of_ble_eq_true rfl) (Nat.le_of_ble_eq_true rfl) (Nat.le_of_ble_eq_true rfl) ?_
        intro v498 T498 V498 h498 S498 C498 q498
        obtain ⟨rfl, rfl⟩ := q498
        show Go p e below _ (T498.setTop (mkF m 132 #[.val (.int k_), .val (.int p0), .val (.int p1), .val (.int p2), .val (.int fi), .val (.int en), .val (.int (1 : Int32)), .val (.int (0 : Int32)), .val (.ref b482), .val (.ref b483), .val (.int (1 : Int32)), .unset] [(.int (1 : Int32))]))
        refine s_ifY S498 (hb hby at_132) (by decide) (by decide) (pcT := 137) (by decide) ?_
        refine s_iload S498 (hb hby at_137) rfl (pc' := 139) rfl ?_
        refine s_iconst S498 (hb hby at_139) (v := (1 : Int32)) rfl (pc' := 140) rfl ?_
        refine s_icmpN S498 (hb hby at_140) (by decide) (pc' := 143) rfl ?_
        refine s_iconst S498 (hb hby at_143) (v := (1 : Int32)) rfl (pc' := 144) rfl ?_
        refine s_iload S498 (hb hby at_144) rfl (pc' := 146) rfl ?_
        refine s_icmpY S498 (hb hby at_146) (by decide) (by decide) (pcT := 162) (by decide) ?_
        refine s_iload S498 (hb hby at_162) rfl (pc' := 164) rfl ?_
        refine s_iconst S498 (hb hby at_164) (v := (2 : Int32)) rfl (pc' := 165) rfl ?_
        refine s_icmpN S498 (hb hby at_165) (by decide) (pc' := 168) rfl ?_
        refine s_iconst S498 (hb hby at_168) (v := (2 : Int32)) rfl (pc' := 169) rfl ?_
        refine s_iload S498 (hb hby at_169) rfl (pc' := 171) rfl ?_
        refine s_icmpY S498 (hb hby at_171) (by decide) (by decide) (pcT := 187) (by decide) ?_
        refine s_iload S498 (hb hby at_187) rfl (pc' := 189) rfl ?_
        refine s_iload S498 (hb hby at_189) rfl (pc' := 191) rfl ?_
        refine s_icmpY S498 (hb hby at_191) (by decide) (by decide) (pcT := 230) (by decide) ?_
        refine s_iconst S498 (hb hby at_230) (v := (1 : Int32)) rfl (pc' := 231) rfl ?_
        exact g_iretN S498 (hb hby at_231) hret (by simp) ⟨rfl, trivial⟩
    · skip
      show Go p e below _ (T492.setTop (mkF m 79 #[.val (.int k_), .val (.int p0), .val (.int p1), .val (.int p2), .val (.int fi), .val (.int en), .val (.int (1 : Int32)), .val (.int (1 : Int32)), .val (.ref b482), .val (.ref b483), .unset, .unset] []))
      refine s_aload S492 (hb hby at_79) rfl rfl (pc' := 81) rfl ?_
      refine s_iload S492 (hb hby at_81) rfl (pc' := 83) rfl ?_
      refine s_iload S492 (hb hby at_83) rfl (pc' := 85) rfl ?_
      refine s_iload S492 (hb hby at_85) rfl (pc' := 87) rfl ?_
      show Go p e below _ (T492.setTop (mkF m 87 #[.val (.int k_), .val (.int p0), .val (.int p1), .val (.int p2), .val (.int fi), .val (.int en), .val (.int (1 : Int32)), .val (.int (1 : Int32)), .val (.ref b482), .val (.ref b483), .unset, .unset] [(.int en), (.int fi), (.int (1 : Int32)), (.ref b483)]))
      refine g_virtual S492 (rmAF11 X S492.old Ac491) (fun _ q => nomatch q) (w35 hw) (w36 hw) (w38 hw) (w37 hw) (w3 hw) (w39 hw) (by decide) (fun _ h => notFace_of_selects h) (hb hby at_87) (by rw [hml]; rfl) b483 Ac491.1 [(.int (1 : Int32)), (.int fi), (.int en)] (lenOf pd11 rfl) rfl rfl (Nat.le_of_ble_eq_true rfl) (Nat.le_of_ble_eq_true rfl) (Nat.le_of_ble_eq_true rfl) (Nat.le_of_ble_eq_true rfl) ?_
      intro v500 T500 V500 h500 S500 C500 q500
      obtain ⟨r499, rfl, hr499, rfl⟩ := q500
      rcases hr499 with ⟨rfl, -⟩
      · skip
        show Go p e below _ (T500.setTop (mkF m 90 #[.val (.int k_), .val (.int p0), .val (.int p1), .val (.int p2), .val (.int fi), .val (.int en), .val (.int (1 : Int32)), .val (.int (1 : Int32)), .val (.ref b482), .val (.ref b483), .unset, .unset] [(.int (1 : Int32))]))
        refine s_istore S500 (hb hby at_90) (L' := #[.val (.int k_), .val (.int p0), .val (.int p1), .val (.int p2), .val (.int fi), .val (.int en), .val (.int (1 : Int32)), .val (.int (1 : Int32)), .val (.ref b482), .val (.ref b483), .val (.int (1 : Int32)), .unset]) rfl (pc' := 92) rfl ?_
        refine s_iload S500 (hb hby at_92) rfl (pc' := 94) rfl ?_
        refine s_iload S500 (hb hby at_94) rfl (pc' := 96) rfl ?_
        refine s_icmpN S500 (hb hby at_96) (by decide) (pc' := 99) rfl ?_
        refine s_iload S500 (hb hby at_99) rfl (pc' := 101) rfl ?_
        refine s_iload S500 (hb hby at_101) rfl (pc' := 103) rfl ?_
        refine s_iload S500 (hb hby at_103) rfl (pc' := 105) rfl ?_
        show Go p e below _ (T500.setTop (mkF m 105 #[.val (.int k_), .val (.int p0), .val (.int p1), .val (.int p2), .val (.int fi), .val (.int en), .val (.int (1 : Int32)), .val (.int (1 : Int32)), .val (.ref b482), .val (.ref b483), .val (.int (1 : Int32)), .unset] [(.int (1 : Int32)), (.int (1 : Int32)), (.int (1 : Int32))]))
        refine g_static S500 (rmMX X (z := (1 : Int32)) (by decide) S500.old) (fun _ q => nomatch q) (w42 hw) (w43 hw) (w44 hw) (w45 hw) (by decide) (hb hby at_105) (by rw [hml]; rfl) [(.int (1 : Int32)), (.int (1 : Int32))] (lenOf pd7 rfl) rfl rfl (Nat.le_of_ble_eq_true rfl) (Nat.le_of_ble_eq_true rfl) (Nat.le_of_ble_eq_true rfl) (Nat.le_of_ble_eq_true rfl) ?_
        intro v501 T501 V501 h501 S501 C501 q501
        obtain ⟨rfl, rfl⟩ := q501
        show Go p e below _ (T501.setTop (mkF m 108 #[.val (.int k_), .val (.int p0), .val (.int p1), .val (.int p2), .val (.int fi), .val (.int en), .val (.int (1 : Int32)), .val (.int (1 : Int32)), .val (.ref b482), .val (.ref b483), .val (.int (1 : Int32)), .unset] [(.int (1 : Int32)), (.int (1 : Int32))]))
        refine s_icmpY S501 (hb hby at_108) (by decide) (by decide) (pcT := 113) (by decide) ?_
        refine s_iload S501 (hb hby at_113) rfl (pc' := 115) rfl ?_
        refine s_ifY S501 (hb hby at_115) (by decide) (by decide) (pcT := 137) (by decide) ?_
        refine s_iload S501 (hb hby at_137) rfl (pc' := 139) rfl ?_
        refine s_iconst S501 (hb hby at_139) (v := (1 : Int32)) rfl (pc' := 140) rfl ?_
        refine s_icmpN S501 (hb hby at_140) (by decide) (pc' := 143) rfl ?_
        refine s_iconst S501 (hb hby at_143) (v := (1 : Int32)) rfl (pc' := 144) rfl ?_
        refine s_iload S501 (hb hby at_144) rfl (pc' := 146) rfl ?_
        refine s_icmpY S501 (hb hby at_146) (by decide) (by decide) (pcT := 162) (by decide) ?_
        refine s_iload S501 (hb hby at_162) rfl (pc' := 164) rfl ?_
        refine s_iconst S501 (hb hby at_164) (v := (2 : Int32)) rfl (pc' := 165) rfl ?_
        refine s_icmpN S501 (hb hby at_165) (by decide) (pc' := 168) rfl ?_
        refine s_iconst S501 (hb hby at_168) (v := (2 : Int32)) rfl (pc' := 169) rfl ?_
        refine s_iload S501 (hb hby at_169) rfl (pc' := 171) rfl ?_
        refine s_icmpY S501 (hb hby at_171) (by decide) (by decide) (pcT := 187) (by decide) ?_
        refine s_iload S501 (hb hby at_187) rfl (pc' := 189) rfl ?_
        refine s_iload S501 (hb hby at_189) rfl (pc' := 191) rfl ?_
        refine s_icmpY S501 (hb hby at_191) (by decide) (by decide) (pcT := 230) (by decide) ?_
        refine s_iconst S501 (hb hby at_230) (v := (1 : Int32)) rfl (pc' := 231) rfl ?_
        exact g_iretN S501 (hb hby at_231) hret (by simp) ⟨rfl, trivial⟩
    · skip
      show Go p e below _ (T492.setTop (mkF m 79 #[.val (.int k_), .val (.int p0), .val (.int p1), .val (.int p2), .val (.int fi), .val (.int en), .val (.int (1 : Int32)), .val (.int (2 : Int32)), .val (.ref b482), .val (.ref b483), .unset, .unset] []))
      refine s_aload S492 (hb hby at_79) rfl rfl (pc' := 81) rfl ?_
      refine s_iload S492 (hb hby at_81) rfl (pc' := 83) rfl ?_
      refine s_iload S492 (hb hby at_83) rfl (pc' := 85) rfl ?_
      refine s_iload S492 (hb hby at_85) rfl (pc' := 87) rfl ?_
      show Go p e below _ (T492.setTop (mkF m 87 #[.val (.int k_), .val (.int p0), .val (.int p1), .val (.int p2), .val (.int fi), .val (.int en), .val (.int (1 : Int32)), .val (.int (2 : Int32)), .val (.ref b482), .val (.ref b483), .unset, .unset] [(.int en), (.int fi), (.int (2 : Int32)), (.ref b483)]))
      refine g_virtual S492 (rmAF12 X S492.old Ac491) (fun _ q => nomatch q) (w35 hw) (w36 hw) (w38 hw) (w37 hw) (w3 hw) (w39 hw) (by decide) (fun _ h => notFace_of_selects h) (hb hby at_87) (by rw [hml]; rfl) b483 Ac491.1 [(.int (2 : Int32)), (.int fi), (.int en)] (lenOf pd11 rfl) rfl rfl (Nat.le_of_ble_eq_true rfl) (Nat.le_of_ble_eq_true rfl) (Nat.le_of_ble_eq_true rfl) (Nat.le_of_ble_eq_true rfl) ?_
      intro v503 T503 V503 h503 S503 C503 q503
      obtain ⟨r502, rfl, hr502, rfl⟩ := q503
      rcases hr502 with ⟨rfl, -⟩
      · skip
        show Go p e below _ (T503.setTop (mkF m 90 #[.val (.int k_), .val (.int p0), .val (.int p1), .val (.int p2), .val (.int fi), .val (.int en), .val (.int (1 : Int32)), .val (.int (2 : Int32)), .val (.ref b482), .val (.ref b483), .unset, .unset] [(.int (2 : Int32))]))
        refine s_istore S503 (hb hby at_90) (L' := #[.val (.int k_), .val (.int p0), .val (.int p1), .val (.int p2), .val (.int fi), .val (.int en), .val (.int (1 : Int32)), .val (.int (2 : Int32)), .val (.ref b482), .val (.ref b483), .val (.int (2 : Int32)), .unset]) rfl (pc' := 92) rfl ?_
        refine s_iload S503 (hb hby at_92) rfl (pc' := 94) rfl ?_
        refine s_iload S503 (hb hby at_94) rfl (pc' := 96) rfl ?_
        refine s_icmpN S503 (hb hby at_96) (by decide) (pc' := 99) rfl ?_
        refine s_iload S503 (hb hby at_99) rfl (pc' := 101) rfl ?_
        refine s_iload S503 (hb hby at_101) rfl (pc' := 103) rfl ?_
        refine s_iload S503 (hb hby at_103) rfl (pc' := 105) rfl ?_
        show Go p e below _ (T503.setTop (mkF m 105 #[.val (.int k_), .val (.int p0), .val (.int p1), .val (.int p2), .val (.int fi), .val (.int en), .val (.int (1 : Int32)), .val (.int (2 : Int32)), .val (.ref b482), .val (.ref b483), .val (.int (2 : Int32)), .unset] [(.int (1 : Int32)), (.int (2 : Int32)), (.int (2 : Int32))]))
        refine g_static S503 (rmMX X (z := (2 : Int32)) (by decide) S503.old) (fun _ q => nomatch q) (w42 hw) (w43 hw) (w44 hw) (w45 hw) (by decide) (hb hby at_105) (by rw [hml]; rfl) [(.int (2 : Int32)), (.int (1 : Int32))] (lenOf pd7 rfl) rfl rfl (Nat.le_of_ble_eq_true rfl) (Nat.le_of_ble_eq_true rfl) (Nat.le_of_ble_eq_true rfl) (Nat.le_of_ble_eq_true rfl) ?_
        intro v504 T504 V504 h504 S504 C504 q504
        obtain ⟨rfl, rfl⟩ := q504
        show Go p e below _ (T504.setTop (mkF m 108 #[.val (.int k_), .val (.int p0), .val (.int p1), .val (.int p2), .val (.int fi), .val (.int en), .val (.int (1 : Int32)), .val (.int (2 : Int32)), .val (.ref b482), .val (.ref b483), .val (.int (2 : Int32)), .unset] [(.int (2 : Int32)), (.int (2 : Int32))]))
        refine s_icmpY S504 (hb hby at_108) (by decide) (by decide) (pcT := 113) (by decide) ?_
        refine s_iload S504 (hb hby at_113) rfl (pc' := 115) rfl ?_
        refine s_ifY S504 (hb hby at_115) (by decide) (by decide) (pcT := 137) (by decide) ?_
        refine s_iload S504 (hb hby at_137) rfl (pc' := 139) rfl ?_
        refine s_iconst S504 (hb hby at_139) (v := (1 : Int32)) rfl (pc' := 140) rfl ?_
        refine s_icmpY S504 (hb hby at_140) (by decide) (by decide) (pcT := 162) (by decide) ?_
        refine s_iload S504 (hb hby at_162) rfl (pc' := 164) rfl ?_
        refine s_iconst S504 (hb hby at_164) (v := (2 : Int32)) rfl (pc' := 165) rfl ?_
        refine s_icmpN S504 (hb hby at_165) (by decide) (pc' := 168) rfl ?_
        refine s_iconst S504 (hb hby at_168) (v := (2 : Int32)) rfl (pc' := 169) rfl ?_
        refine s_iload S504 (hb hby at_169) rfl (pc' := 171) rfl ?_
        refine s_icmpY S504 (hb hby at_171) (by decide) (by decide) (pcT := 187) (by decide) ?_
        refine s_iload S504 (hb hby at_187) rfl (pc' := 189) rfl ?_
        refine s_iload S504 (hb hby at_189) rfl (pc' := 191) rfl ?_
        refine s_icmpY S504 (hb hby at_191) (by decide) (by decide) (pcT := 230) (by decide) ?_
        refine s_iconst S504 (hb hby at_230) (v := (1 : Int32)) rfl (pc' := 231) rfl ?_
        exact g_iretN S504 (hb hby at_231) hret (by simp) ⟨rfl, trivial⟩
    · skip
      show Go p e below _ (T492.setTop (mkF m 79 #[.val (.int k_), .val (.int p0), .val (.int p1), .val (.int p2), .val (.int fi), .val (.int en), .val (.int (1 : Int32)), .val (.int (3 : Int32)), .val (.ref b482), .val (.ref b483), .unset, .unset] []))
      refine s_aload S492 (hb hby at_79) rfl rfl (pc' := 81) rfl ?_
      refine s_iload S492 (hb hby at_81) rfl (pc' := 83) rfl ?_
      refine s_iload S492 (hb hby at_83) rfl (pc' := 85) rfl ?_
      refine s_iload S492 (hb hby at_85) rfl (pc' := 87) rfl ?_
      show Go p e below _ (T492.setTop (mkF m 87 #[.val (.int k_), .val (.int p0), .val (.int p1), .val (.int p2), .val (.int fi), .val (.int en), .val (.int (1 : Int32)), .val (.int (3 : Int32)), .val (.ref b482), .val (.ref b483), .unset, .unset] [(.int en), (.int fi), (.int (3 : Int32)), (.ref b483)]))
      refine g_virtual S492 (rmAF13 X S492.old Ac491) (fun _ q => nomatch q) (w35 hw) (w36 hw) (w38 hw) (w37 hw) (w3 hw) (w39 hw) (by decide) (fun _ h => notFace_of_selects h) (hb hby at_87) (by rw [hml]; rfl) b483 Ac491.1 [(.int (3 : Int32)), (.int fi), (.int en)] (lenOf pd11 rfl) rfl rfl (Nat.le_of_ble_eq_true rfl) (Nat.le_of_ble_eq_true rfl) (Nat.le_of_ble_eq_true rfl) (Nat.le_of_ble_eq_true rfl) ?_
      intro v506 T506 V506 h506 S506 C506 q506
      obtain ⟨r505, rfl, hr505, rfl⟩ := q506
      rcases hr505 with ⟨rfl, -⟩
      · skip
        show Go p e below _ (T506.setTop (mkF m 90 #[.val (.int k_), .val (.int p0), .val (.int p1), .val (.int p2), .val (.int fi), .val (.int en), .val (.int (1 : Int32)), .val (.int (3 : Int32)), .val (.ref b482), .val (.ref b483), .unset, .unset] [(.int (3 : Int32))]))
        refine s_istore S506 (hb hby at_90) (L' := #[.val (.int k_), .val (.int p0), .val (.int p1), .val (.int p2), .val (.int fi), .val (.int en), .val (.int (1 : Int32)), .val (.int (3 : Int32)), .val (.ref b482), .val (.ref b483), .val (.int (3 : Int32)), .unset]) rfl (pc' := 92) rfl ?_
        refine s_iload S506 (hb hby at_92) rfl (pc' := 94) rfl ?_
        refine s_iload S506 (hb hby at_94) rfl (pc' := 96) rfl ?_
        refine s_icmpN S506 (hb hby at_96) (by decide) (pc' := 99) rfl ?_
        refine s_iload S506 (hb hby at_99) rfl (pc' := 101) rfl ?_
        refine s_iload S506 (hb hby at_101) rfl (pc' := 103) rfl ?_
        refine s_iload S506 (hb hby at_103) rfl (pc' := 105) rfl ?_
        show Go p e below _ (T506.setTop (mkF m 105 #[.val (.int k_), .val (.int p0), .val (.int p1), .val (.int p2), .val (.int fi), .val (.int en), .val (.int (1 : Int32)), .val (.int (3 : Int32)), .val (.ref b482), .val (.ref b483), .val (.int (3 : Int32)), .unset] [(.int (1 : Int32)), (.int (3 : Int32)), (.int (3 : Int32))]))
        refine g_static S506 (rmMX X (z := (3 : Int32)) (by decide) S506.old) (fun _ q => nomatch q) (w42 hw) (w43 hw) (w44 hw) (w45 hw) (by decide) (hb hby at_105) (by rw [hml]; rfl) [(.int (3 : Int32)), (.int (1 : Int32))] (lenOf pd7 rfl) rfl rfl (Nat.le_of_ble_eq_true rfl) (Nat.le_of_ble_eq_true rfl) (Nat.le_of_ble_eq_true rfl) (Nat.le_of_ble_eq_true rfl) ?_
        intro v507 T507 V507 h507 S507 C507 q507
        obtain ⟨rfl, rfl⟩ := q507
        show Go p e below _ (T507.setTop (mkF m 108 #[.val (.int k_), .val (.int p0), .val (.int p1), .val (.int p2), .val (.int fi), .val (.int en), .val (.int (1 : Int32)), .val (.int (3 : Int32)), .val (.ref b482), .val (.ref b483), .val (.int (3 : Int32)), .unset] [(.int (3 : Int32)), (.int (3 : Int32))]))
        refine s_icmpY S507 (hb hby at_108) (by decide) (by decide) (pcT := 113) (by decide) ?_
        refine s_iload S507 (hb hby at_113) rfl (pc' := 115) rfl ?_
        refine s_ifY S507 (hb hby at_115) (by decide) (by decide) (pcT := 137) (by decide) ?_
        refine s_iload S507 (hb hby at_137) rfl (pc' := 139) rfl ?_
        refine s_iconst S507 (hb hby at_139) (v := (1 : Int32)) rfl (pc' := 140) rfl ?_
        refine s_icmpY S507 (hb hby at_140) (by decide) (by decide) (pcT := 162) (by decide) ?_
        refine s_iload S507 (hb hby at_162) rfl (pc' := 164) rfl ?_
        refine s_iconst S507 (hb hby at_164) (v := (2 : Int32)) rfl (pc' := 165) rfl ?_
        refine s_icmpY S507 (hb hby at_165) (by decide) (by decide) (pcT := 187) (by decide) ?_
        refine s_iload S507 (hb hby at_187) rfl (pc' := 189) rfl ?_
        refine s_iload S507 (hb hby at_189) rfl (pc' := 191) rfl ?_
        refine s_icmpY S507 (hb hby at_191) (by decide) (by decide) (pcT := 230) (by decide) ?_
        refine s_iconst S507 (hb hby at_230) (v := (1 : Int32)) rfl (pc' := 231) rfl ?_
        exact g_iretN S507 (hb hby at_231) hret (by simp) ⟨rfl, trivial⟩
    · skip
      show Go p e below _ (T492.setTop (mkF m 79 #[.val (.int k_), .val (.int p0), .val (.int p1), .val (.int p2), .val (.int fi), .val (.int en), .val (.int (1 : Int32)), .val (.int (4 : Int32)), .val (.ref b482), .val (.ref b483), .unset, .unset] []))
      refine s_aload S492 (hb hby at_79) rfl rfl (pc' := 81) rfl ?_
      refine s_iload S492 (hb hby at_81) rfl (pc' := 83) rfl ?_
      refine s_iload S492 (hb hby at_83) rfl (pc' := 85) rfl ?_
      refine s_iload S492 (hb hby at_85) rfl (pc' := 87) rfl ?_
      show Go p e below _ (T492.setTop (mkF m 87 #[.val (.int k_), .val (.int p0), .val (.int p1), .val (.int p2), .val (.int fi), .val (.int en), .val (.int (1 : Int32)), .val (.int (4 : Int32)), .val (.ref b482), .val (.ref b483), .unset, .unset] [(.int en), (.int fi), (.int (4 : Int32)), (.ref b483)]))
      refine g_virtual S492 (rmAF14 X S492.old Ac491) (fun _ q => nomatch q) (w35 hw) (w36 hw) (w38 hw) (w37 hw) (w3 hw) (w39 hw) (by decide) (fun _ h => notFace_of_selects h) (hb hby at_87) (by rw [hml]; rfl) b483 Ac491.1 [(.int (4 : Int32)), (.int fi), (.int en)] (lenOf pd11 rfl) rfl rfl (Nat.le_of_ble_eq_true rfl) (Nat.le_of_ble_eq_true rfl) (Nat.le_of_ble_eq_true rfl) (Nat.le_of_ble_eq_true rfl) ?_
      intro v509 T509 V509 h509 S509 C509 q509
      obtain ⟨r508, rfl, hr508, rfl⟩ := q509
      rcases hr508 with ⟨rfl, -⟩
      · skip
        show Go p e below _ (T509.setTop (mkF m 90 #[.val (.int k_), .val (.int p0), .val (.int p1), .val (.int p2), .val (.int fi), .val (.int en), .val (.int (1 : Int32)), .val (.int (4 : Int32)), .val (.ref b482), .val (.ref b483), .unset, .unset] [(.int (4 : Int32))]))
        refine s_istore S509 (hb hby at_90) (L' := #[.val (.int k_), .val (.int p0), .val (.int p1), .val (.int p2), .val (.int fi), .val (.int en), .val (.int (1 : Int32)), .val (.int (4 : Int32)), .val (.ref b482), .val (.ref b483), .val (.int (4 : Int32)), .unset]) rfl (pc' := 92) rfl ?_
        refine s_iload S509 (hb hby at_92) rfl (pc' := 94) rfl ?_
        refine s_iload S509 (hb hby at_94) rfl (pc' := 96) rfl ?_
        refine s_icmpN S509 (hb hby at_96) (by decide) (pc' := 99) rfl ?_
        refine s_iload S509 (hb hby at_99) rfl (pc' := 101) rfl ?_
        refine s_iload S509 (hb hby at_101) rfl (pc' := 103) rfl ?_
        refine s_iload S509 (hb hby at_103) rfl (pc' := 105) rfl ?_
        show Go p e below _ (T509.setTop (mkF m 105 #[.val (.int k_), .val (.int p0), .val (.int p1), .val (.int p2), .val (.int fi), .val (.int en), .val (.int (1 : Int32)), .val (.int (4 : Int32)), .val (.ref b482), .val (.ref b483), .val (.int (4 : Int32)), .unset] [(.int (1 : Int32)), (.int (4 : Int32)), (.int (4 : Int32))]))
        refine g_static S509 (rmMX X (z := (4 : Int32)) (by decide) S509.old) (fun _ q => nomatch q) (w42 hw) (w43 hw) (w44 hw) (w45 hw) (by decide) (hb hby at_105) (by rw [hml]; rfl) [(.int (4 : Int32)), (.int (1 : Int32))] (lenOf pd7 rfl) rfl rfl (Nat.le_of_ble_eq_true rfl) (Nat.le_of_ble_eq_true rfl) (Nat.le_of_ble_eq_true rfl) (Nat.le_of_ble_eq_true rfl) ?_
        intro v510 T510 V510 h510 S510 C510 q510
        obtain ⟨rfl, rfl⟩ := q510
        show Go p e below _ (T510.setTop (mkF m 108 #[.val (.int k_), .val (.int p0), .val (.int p1), .val (.int p2), .val (.int fi), .val (.int en), .val (.int (1 : Int32)), .val (.int (4 : Int32)), .val (.ref b482), .val (.ref b483), .val (.int (4 : Int32)), .unset] [(.int (4 : Int32)), (.int (4 : Int32))]))
        refine s_icmpY S510 (hb hby at_108) (by decide) (by decide) (pcT := 113) (by decide) ?_
        refine s_iload S510 (hb hby at_113) rfl (pc' := 115) rfl ?_
        refine s_ifY S510 (hb hby at_115) (by decide) (by decide) (pcT := 137) (by decide) ?_
        refine s_iload S510 (hb hby at_137) rfl (pc' := 139) rfl ?_
        refine s_iconst S510 (hb hby at_139) (v := (1 : Int32)) rfl (pc' := 140) rfl ?_
        refine s_icmpY S510 (hb hby at_140) (by decide) (by decide) (pcT := 162) (by decide) ?_
        refine s_iload S510 (hb hby at_162) rfl (pc' := 164) rfl ?_
        refine s_iconst S510 (hb hby at_164) (v := (2 : Int32)) rfl (pc' := 165) rfl ?_
        refine s_icmpY S510 (hb hby at_165) (by decide) (by decide) (pcT := 187) (by decide) ?_
        refine s_iload S510 (hb hby at_187) rfl (pc' := 189) rfl ?_
        refine s_iload S510 (hb hby at_189) rfl (pc' := 191) rfl ?_
        refine s_icmpY S510 (hb hby at_191) (by decide) (by decide) (pcT := 230) (by decide) ?_
        refine s_iconst S510 (hb hby at_230) (v := (1 : Int32)) rfl (pc' := 231) rfl ?_
        exact g_iretN S510 (hb hby at_231) hret (by simp) ⟨rfl, trivial⟩
  · skip
    show Go p e below _ (T0.setTop (mkF m 5 #[.val (.int k_), .val (.int p0), .val (.int p1), .val (.int p2), .val (.int fi), .val (.int en), .val (.int (2 : Int32)), .unset, .unset, .unset, .unset, .unset] []))
    refine s_iloadN S0 (hb hby at_5) rfl (pc' := 6) rfl ?_
    refine s_iconst S0 (hb hby at_6) (v := (2 : Int32)) rfl (pc' := 7) rfl ?_
    refine s_iushr S0 (hb hby at_7) (z := ((k_.toUInt32 >>> ((2 : Int32) &&& 31).toUInt32).toInt32)) rfl (pc' := 8) rfl ?_
    refine s_iconst S0 (hb hby at_8) (v := (5 : Int32)) rfl (pc' := 9) rfl ?_
    refine s_irem S0 (hb hby at_9) (by decide) (z := (((k_.toUInt32 >>> ((2 : Int32) &&& 31).toUInt32).toInt32) % (5 : Int32))) rfl (pc' := 10) rfl ?_
    generalize eas_511 : (((k_.toUInt32 >>> ((2 : Int32) &&& 31).toUInt32).toInt32) % (5 : Int32)) = as_511
    refine s_istore S0 (hb hby at_10) (L' := #[.val (.int k_), .val (.int p0), .val (.int p1), .val (.int p2), .val (.int fi), .val (.int en), .val (.int (2 : Int32)), .val (.int as_511), .unset, .unset, .unset, .unset]) rfl (pc' := 12) rfl ?_
    refine s_iconst S0 (hb hby at_12) (v := (0 : Int32)) rfl (pc' := 13) rfl ?_
    refine g_newarr (aty := .char) S0 (w0 hw) (hb hby at_13) (by decide) (cap := 0) (by decide) (by decide) (Nat.le_of_ble_eq_true rfl) (Nat.le_of_ble_eq_true rfl) ?_
    intro T512 h512 b512 kc512 S512 E512 fr512 lt512 na512 sf512 A512
    have V512 : Arv Z h512 b512 kc512 .char (0 : Int32) [] (.int (0 : Int32)) := A512 0
    show Go p e below _ (T512.setTop (mkF m 15 #[.val (.int k_), .val (.int p0), .val (.int p1), .val (.int p2), .val (.int fi), .val (.int en), .val (.int (2 : Int32)), .val (.int as_511), .unset, .unset, .unset, .unset] [(.ref b512)]))
    refine s_astore S512 (hb hby at_15) rfl (L' := #[.val (.int k_), .val (.int p0), .val (.int p1), .val (.int p2), .val (.int fi), .val (.int en), .val (.int (2 : Int32)), .val (.int as_511), .val (.ref b512), .unset, .unset, .unset]) rfl (pc' := 17) rfl ?_
    refine g_new S512 (w1 hw) (w2 hw) (w3 hw) (hb hby at_17) (Nat.le_of_ble_eq_true rfl) (Nat.le_of_ble_eq_true rfl) ?_
    intro T513 h513 b513 S513 E513 fr513 lt513 na513 sf513 A513 D513
    have F514 : Fld Z h513 b513 "com/example/nodewarden/nodewarden/core/Asides" "text" "Ljava/lang/StringBuilder;" .null := D513 (Or.inr (w31 hw)) (ty := (.object "java/lang/StringBuilder")) (by decide)
    have F515 : Fld Z h513 b513 "com/example/nodewarden/nodewarden/core/Asides" "table" "[I" .null := D513 (Or.inl (w34 hw)) (ty := (.array .int)) (by decide)
    have F516 : Fld Z h513 b513 "com/example/nodewarden/nodewarden/core/Asides" "count" "I" (.int (0 : Int32)) := D513 (Or.inl (w41 hw)) (ty := .int) (by decide)
    show Go p e below _ (T513.setTop (mkF m 20 #[.val (.int k_), .val (.int p0), .val (.int p1), .val (.int p2), .val (.int fi), .val (.int en), .val (.int (2 : Int32)), .val (.int as_511), .val (.ref b512), .unset, .unset, .unset] [(.ref b513)]))
    refine s_dup S513 (hb hby at_20) rfl (pc' := 21) rfl ?_
    have V517 := V512.ext E513
    have nXC : b513 ≠ b512 := Exa.neArv A513 V517 (w2 hw)
    show Go p e below _ (T513.setTop (mkF m 21 #[.val (.int k_), .val (.int p0), .val (.int p1), .val (.int p2), .val (.int fi), .val (.int en), .val (.int (2 : Int32)), .val (.int as_511), .val (.ref b512), .unset, .unset, .unset] [(.ref b513), (.ref b513)]))
    refine g_special S513 (rmIN X na513 S513.old A513 F514 F515 F516) (fun _ q => nomatch q) rfl (w4 hw) (w5 hw) (w3 hw) (w6 hw) (by decide) (hb hby at_21) (by rw [hml]; rfl) b513 [] (lenOf pd6 rfl) rfl rfl (Nat.le_of_ble_eq_true rfl) (Nat.le_of_ble_eq_true rfl) (Nat.le_of_ble_eq_true rfl) (Nat.le_of_ble_eq_true rfl) ?_
    intro v518 T518 V518 h518 S518 C518 q518
    obtain ⟨rfl, sb, tb, t, kb, kt, K0, A0, sf0_⟩ := q518
    have X519 : Ext h512 h518 := ext_keep1 E513 K0 fr513
    have V520 := V512.ext X519
    show Go p e below _ (T518.setTop (mkF m 24 #[.val (.int k_), .val (.int p0), .val (.int p1), .val (.int p2), .val (.int fi), .val (.int en), .val (.int (2 : Int32)), .val (.int as_511), .val (.ref b512), .unset, .unset, .unset] [(.ref b513)]))
    refine s_astore S518 (hb hby at_24) rfl (L' := #[.val (.int k_), .val (.int p0), .val (.int p1), .val (.int p2), .val (.int fi), .val (.int en), .val (.int (2 : Int32)), .val (.int as_511), .val (.ref b512), .val (.ref b513), .unset, .unset]) rfl (pc' := 26) rfl ?_
    refine s_iload S518 (hb hby at_26) rfl (pc' := 28) rfl ?_
    refine s_ifN S518 (hb hby at_28) (by decide) (pc' := 31) rfl ?_
    refine s_aload S518 (hb hby at_31) rfl rfl (pc' := 33) rfl ?_
    refine s_iloadN S518 (hb hby at_33) rfl (pc' := 34) rfl ?_
    refine s_iconst S518 (hb hby at_34) (v := (0 : Int32)) rfl (pc' := 35) rfl ?_
    refine s_iconst S518 (hb hby at_35) (v := (0 : Int32)) rfl (pc' := 36) rfl ?_
    refine s_aload S518 (hb hby at_36) rfl rfl (pc' := 38) rfl ?_
    refine s_iconst S518 (hb hby at_38) (v := (0 : Int32)) rfl (pc' := 39) rfl ?_
    refine s_iconst S518 (hb hby at_39) (v := (0 : Int32)) rfl (pc' := 40) rfl ?_
    show Go p e below _ (T518.setTop (mkF m 40 #[.val (.int k_), .val (.int p0), .val (.int p1), .val (.int p2), .val (.int fi), .val (.int en), .val (.int (2 : Int32)), .val (.int as_511), .val (.ref b512), .val (.ref b513), .unset, .unset] [(.int (0 : Int32)), (.int (0 : Int32)), (.ref b512), (.int (0 : Int32)), (.int (0 : Int32)), (.int p0), (.ref b513)]))
    refine g_virtual S518 (rmAC0 X p0 (0 : Int32) (0 : Int32) S518.old A0 V520) (fun _ q => nomatch q) (w46 hw) (w47 hw) (w49 hw) (w48 hw) (w3 hw) (w50 hw) (by decide) (fun _ h => notFace_of_selects h) (hb hby at_40) (by rw [hml]; rfl) b513 A0.1 [(.int p0), (.int (0 : Int32)), (.int (0 : Int32)), (.ref b512), (.int (0 : Int32)), (.int (0 : Int32))] (lenOf pd12 rfl) rfl rfl (Nat.le_of_ble_eq_true rfl) (Nat.le_of_ble_eq_true rfl) (Nat.le_of_ble_eq_true rfl) (Nat.le_of_ble_eq_true rfl) ?_
    intro v522 T522 V522 h522 S522 C522 q522
    obtain ⟨rfl, t1, kt1, Ac521, Vc521⟩ := q522
    show Go p e below _ (T522.setTop (mkF m 43 #[.val (.int k_), .val (.int p0), .val (.int p1), .val (.int p2), .val (.int fi), .val (.int en), .val (.int (2 : Int32)), .val (.int as_511), .val (.ref b512), .val (.ref b513), .unset, .unset] []))
    refine s_iload S522 (hb hby at_43) rfl (pc' := 45) rfl ?_
    refine s_iconst S522 (hb hby at_45) (v := (1 : Int32)) rfl (pc' := 46) rfl ?_
    refine s_icmpN S522 (hb hby at_46) (by decide) (pc' := 49) rfl ?_
    refine s_aload S522 (hb hby at_49) rfl rfl (pc' := 51) rfl ?_
    refine s_iloadN S522 (hb hby at_51) rfl (pc' := 52) rfl ?_
    refine s_iconst S522 (hb hby at_52) (v := (0 : Int32)) rfl (pc' := 53) rfl ?_
    refine s_iconst S522 (hb hby at_53) (v := (0 : Int32)) rfl (pc' := 54) rfl ?_
    refine s_aload S522 (hb hby at_54) rfl rfl (pc' := 56) rfl ?_
    refine s_iconst S522 (hb hby at_56) (v := (0 : Int32)) rfl (pc' := 57) rfl ?_
    refine s_iconst S522 (hb hby at_57) (v := (0 : Int32)) rfl (pc' := 58) rfl ?_
    show Go p e below _ (T522.setTop (mkF m 58 #[.val (.int k_), .val (.int p0), .val (.int p1), .val (.int p2), .val (.int fi), .val (.int en), .val (.int (2 : Int32)), .val (.int as_511), .val (.ref b512), .val (.ref b513), .unset, .unset] [(.int (0 : Int32)), (.int (0 : Int32)), (.ref b512), (.int (0 : Int32)), (.int (0 : Int32)), (.int p1), (.ref b513)]))
    refine g_virtual S522 (rmAC1 X p1 (0 : Int32) (0 : Int32) S522.old Ac521 Vc521) (fun _ q => nomatch q) (w46 hw) (w47 hw) (w49 hw) (w48 hw) (w3 hw) (w50 hw) (by decide) (fun _ h => notFace_of_selects h) (hb hby at_58) (by rw [hml]; rfl) b513 Ac521.1 [(.int p1), (.int (0 : Int32)), (.int (0 : Int32)), (.ref b512), (.int (0 : Int32)), (.int (0 : Int32))] (lenOf pd12 rfl) rfl rfl (Nat.le_of_ble_eq_true rfl) (Nat.le_of_ble_eq_true rfl) (Nat.le_of_ble_eq_true rfl) (Nat.le_of_ble_eq_true rfl) ?_
    intro v524 T524 V524 h524 S524 C524 q524
    obtain ⟨rfl, Ac523, Vc523⟩ := q524
    show Go p e below _ (T524.setTop (mkF m 61 #[.val (.int k_), .val (.int p0), .val (.int p1), .val (.int p2), .val (.int fi), .val (.int en), .val (.int (2 : Int32)), .val (.int as_511), .val (.ref b512), .val (.ref b513), .unset, .unset] []))
    refine s_iload S524 (hb hby at_61) rfl (pc' := 63) rfl ?_
    refine s_iconst S524 (hb hby at_63) (v := (2 : Int32)) rfl (pc' := 64) rfl ?_
    refine s_icmpY S524 (hb hby at_64) (by decide) (by decide) (pcT := 79) (by decide) ?_
    rcases own_as5 k_ as_511 eas_511 with rfl | rfl | rfl | rfl | rfl
    · skip
      show Go p e below _ (T524.setTop (mkF m 79 #[.val (.int k_), .val (.int p0), .val (.int p1), .val (.int p2), .val (.int fi), .val (.int en), .val (.int (2 : Int32)), .val (.int (0 : Int32)), .val (.ref b512), .val (.ref b513), .unset, .unset] []))
      refine s_aload S524 (hb hby at_79) rfl rfl (pc' := 81) rfl ?_
      refine s_iload S524 (hb hby at_81) rfl (pc' := 83) rfl ?_
      refine s_iload S524 (hb hby at_83) rfl (pc' := 85) rfl ?_
      refine s_iload S524 (hb hby at_85) rfl (pc' := 87) rfl ?_
      show Go p e below _ (T524.setTop (mkF m 87 #[.val (.int k_), .val (.int p0), .val (.int p1), .val (.int p2), .val (.int fi), .val (.int en), .val (.int (2 : Int32)), .val (.int (0 : Int32)), .val (.ref b512), .val (.ref b513), .unset, .unset] [(.int en), (.int fi), (.int (0 : Int32)), (.ref b513)]))
      refine g_virtual S524 (rmAF20 X S524.old Ac523) (fun _ q => nomatch q) (w35 hw) (w36 hw) (w38 hw) (w37 hw) (w3 hw) (w39 hw) (by decide) (fun _ h => notFace_of_selects h) (hb hby at_87) (by rw [hml]; rfl) b513 Ac523.1 [(.int (0 : Int32)), (.int fi), (.int en)] (lenOf pd11 rfl) rfl rfl (Nat.le_of_ble_eq_true rfl) (Nat.le_of_ble_eq_true rfl) (Nat.le_of_ble_eq_true rfl) (Nat.le_of_ble_eq_true rfl) ?_
      intro v526 T526 V526 h526 S526 C526 q526
      obtain ⟨r525, rfl, hr525, rfl⟩ := q526
      rcases hr525 with ⟨rfl, hz, -⟩ | ⟨rfl, ⟨a0, b0⟩, hz, -⟩ | ⟨rfl, ⟨a0, b0⟩, ⟨a1, b1⟩, -⟩
      · skip
        show Go p e below _ (T526.setTop (mkF m 90 #[.val (.int k_), .val (.int p0), .val (.int p1), .val (.int p2), .val (.int fi), .val (.int en), .val (.int (2 : Int32)), .val (.int (0 : Int32)), .val (.ref b512), .val (.ref b513), .unset, .unset] [(.int (0 : Int32))]))
        refine s_istore S526 (hb hby at_90) (L' := #[.val (.int k_), .val (.int p0), .val (.int p1), .val (.int p2), .val (.int fi), .val (.int en), .val (.int (2 : Int32)), .val (.int (0 : Int32)), .val (.ref b512), .val (.ref b513), .val (.int (0 : Int32)), .unset]) rfl (pc' := 92) rfl ?_
        refine s_iload S526 (hb hby at_92) rfl (pc' := 94) rfl ?_
        refine s_iload S526 (hb hby at_94) rfl (pc' := 96) rfl ?_
        refine s_icmpN S526 (hb hby at_96) (by decide) (pc' := 99) rfl ?_
        refine s_iload S526 (hb hby at_99) rfl (pc' := 101) rfl ?_
        refine s_iload S526 (hb hby at_101) rfl (pc' := 103) rfl ?_
        refine s_iload S526 (hb hby at_103) rfl (pc' := 105) rfl ?_
        show Go p e below _ (T526.setTop (mkF m 105 #[.val (.int k_), .val (.int p0), .val (.int p1), .val (.int p2), .val (.int fi), .val (.int en), .val (.int (2 : Int32)), .val (.int (0 : Int32)), .val (.ref b512), .val (.ref b513), .val (.int (0 : Int32)), .unset] [(.int (2 : Int32)), (.int (0 : Int32)), (.int (0 : Int32))]))
        refine g_static S526 (rmMX X (z := (2 : Int32)) (by decide) S526.old) (fun _ q => nomatch q) (w42 hw) (w43 hw) (w44 hw) (w45 hw) (by decide) (hb hby at_105) (by rw [hml]; rfl) [(.int (0 : Int32)), (.int (2 : Int32))] (lenOf pd7 rfl) rfl rfl (Nat.le_of_ble_eq_true rfl) (Nat.le_of_ble_eq_true rfl) (Nat.le_of_ble_eq_true rfl) (Nat.le_of_ble_eq_true rfl) ?_
        intro v527 T527 V527 h527 S527 C527 q527
        obtain ⟨rfl, rfl⟩ := q527
        show Go p e below _ (T527.setTop (mkF m 108 #[.val (.int k_), .val (.int p0), .val (.int p1), .val (.int p2), .val (.int fi), .val (.int en), .val (.int (2 : Int32)), .val (.int (0 : Int32)), .val (.ref b512), .val (.ref b513), .val (.int (0 : Int32)), .unset] [(.int (2 : Int32)), (.int (0 : Int32))]))
        refine s_icmpY S527 (hb hby at_108) (by decide) (by decide) (pcT := 113) (by decide) ?_
        refine s_iload S527 (hb hby at_113) rfl (pc' := 115) rfl ?_
        refine s_ifN S527 (hb hby at_115) (by decide) (pc' := 118) rfl ?_
        refine s_iconst S527 (hb hby at_118) (v := (0 : Int32)) rfl (pc' := 119) rfl ?_
        refine s_iload S527 (hb hby at_119) rfl (pc' := 121) rfl ?_
        refine s_icmpY S527 (hb hby at_121) (by decide) (by decide) (pcT := 137) (by decide) ?_
        refine s_iload S527 (hb hby at_137) rfl (pc' := 139) rfl ?_
        refine s_iconst S527 (hb hby at_139) (v := (1 : Int32)) rfl (pc' := 140) rfl ?_
        refine s_icmpN S527 (hb hby at_140) (by decide) (pc' := 143) rfl ?_
        refine s_iconst S527 (hb hby at_143) (v := (1 : Int32)) rfl (pc' := 144) rfl ?_
        refine s_iload S527 (hb hby at_144) rfl (pc' := 146) rfl ?_
        refine s_icmpY S527 (hb hby at_146) (by decide) (by decide) (pcT := 162) (by decide) ?_
        refine s_iload S527 (hb hby at_162) rfl (pc' := 164) rfl ?_
        refine s_iconst S527 (hb hby at_164) (v := (2 : Int32)) rfl (pc' := 165) rfl ?_
        refine s_icmpN S527 (hb hby at_165) (by decide) (pc' := 168) rfl ?_
        refine s_iconst S527 (hb hby at_168) (v := (2 : Int32)) rfl (pc' := 169) rfl ?_
        refine s_iload S527 (hb hby at_169) rfl (pc' := 171) rfl ?_
        refine s_icmpY S527 (hb hby at_171) (by decide) (by decide) (pcT := 187) (by decide) ?_
        refine s_iload S527 (hb hby at_187) rfl (pc' := 189) rfl ?_
        refine s_iload S527 (hb hby at_189) rfl (pc' := 191) rfl ?_
        refine s_icmpN S527 (hb hby at_191) (by decide) (pc' := 194) rfl ?_
        refine s_iload S527 (hb hby at_194) rfl (pc' := 196) rfl ?_
        refine s_ifN S527 (hb hby at_196) (by decide) (pc' := 199) rfl ?_
        refine s_iloadN S527 (hb hby at_199) rfl (pc' := 200) rfl ?_
        refine s_goto S527 (hb hby at_200) (by decide) (pcT := 214) (by decide) ?_
        refine s_istore S527 (hb hby at_214) (L' := #[.val (.int k_), .val (.int p0), .val (.int p1), .val (.int p2), .val (.int fi), .val (.int en), .val (.int (2 : Int32)), .val (.int (0 : Int32)), .val (.ref b512), .val (.ref b513), .val (.int (0 : Int32)), .val (.int p0)]) rfl (pc' := 216) rfl ?_
        refine s_iload S527 (hb hby at_216) rfl (pc' := 218) rfl ?_
        refine s_iload S527 (hb hby at_218) rfl (pc' := 220) rfl ?_
        refine s_iload S527 (hb hby at_220) rfl (pc' := 222) rfl ?_
        show Go p e below _ (T527.setTop (mkF m 222 #[.val (.int k_), .val (.int p0), .val (.int p1), .val (.int p2), .val (.int fi), .val (.int en), .val (.int (2 : Int32)), .val (.int (0 : Int32)), .val (.ref b512), .val (.ref b513), .val (.int (0 : Int32)), .val (.int p0)] [(.int en), (.int fi), (.int p0)]))
        refine g_static S527 (rmI0 X S527.old hz) (fun _ q => nomatch q) (w109 hw) (w110 hw) (w111 hw) (w112 hw) (by decide) (hb hby at_222) (by rw [hml]; rfl) [(.int p0), (.int fi), (.int en)] (lenOf pd13 rfl) rfl rfl (Nat.le_of_ble_eq_true rfl) (Nat.le_of_ble_eq_true rfl) (Nat.le_of_ble_eq_true rfl) (Nat.le_of_ble_eq_true rfl) ?_
        intro v528 T528 V528 h528 S528 C528 q528
        obtain ⟨rfl, rfl⟩ := q528
        show Go p e below _ (T528.setTop (mkF m 225 #[.val (.int k_), .val (.int p0), .val (.int p1), .val (.int p2), .val (.int fi), .val (.int en), .val (.int (2 : Int32)), .val (.int (0 : Int32)), .val (.ref b512), .val (.ref b513), .val (.int (0 : Int32)), .val (.int p0)] [(.int (0 : Int32))]))
        refine s_ifY S528 (hb hby at_225) (by decide) (by decide) (pcT := 230) (by decide) ?_
        refine s_iconst S528 (hb hby at_230) (v := (1 : Int32)) rfl (pc' := 231) rfl ?_
        exact g_iretN S528 (hb hby at_231) hret (by simp) ⟨rfl, trivial⟩
      · skip
        show Go p e below _ (T526.setTop (mkF m 90 #[.val (.int k_), .val (.int p0), .val (.int p1), .val (.int p2), .val (.int fi), .val (.int en), .val (.int (2 : Int32)), .val (.int (0 : Int32)), .val (.ref b512), .val (.ref b513), .unset, .unset] [(.int (1 : Int32))]))
        refine s_istore S526 (hb hby at_90) (L' := #[.val (.int k_), .val (.int p0), .val (.int p1), .val (.int p2), .val (.int fi), .val (.int en), .val (.int (2 : Int32)), .val (.int (0 : Int32)), .val (.ref b512), .val (.ref b513), .val (.int (1 : Int32)), .unset]) rfl (pc' := 92) rfl ?_
        refine s_iload S526 (hb hby at_92) rfl (pc' := 94) rfl ?_
        refine s_iload S526 (hb hby at_94) rfl (pc' := 96) rfl ?_
        refine s_icmpN S526 (hb hby at_96) (by decide) (pc' := 99) rfl ?_
        refine s_iload S526 (hb hby at_99) rfl (pc' := 101) rfl ?_
        refine s_iload S526 (hb hby at_101) rfl (pc' := 103) rfl ?_
        refine s_iload S526 (hb hby at_103) rfl (pc' := 105) rfl ?_
        show Go p e below _ (T526.setTop (mkF m 105 #[.val (.int k_), .val (.int p0), .val (.int p1), .val (.int p2), .val (.int fi), .val (.int en), .val (.int (2 : Int32)), .val (.int (0 : Int32)), .val (.ref b512), .val (.ref b513), .val (.int (1 : Int32)), .unset] [(.int (2 : Int32)), (.int (0 : Int32)), (.int (1 : Int32))]))
        refine g_static S526 (rmMX X (z := (2 : Int32)) (by decide) S526.old) (fun _ q => nomatch q) (w42 hw) (w43 hw) (w44 hw) (w45 hw) (by decide) (hb hby at_105) (by rw [hml]; rfl) [(.int (0 : Int32)), (.int (2 : Int32))] (lenOf pd7 rfl) rfl rfl (Nat.le_of_ble_eq_true rfl) (Nat.le_of_ble_eq_true rfl) (Nat.le_of_ble_eq_true rfl) (Nat.le_of_ble_eq_true rfl) ?_
        intro v529 T529 V529 h529 S529 C529 q529
        obtain ⟨rfl, rfl⟩ := q529
        show Go p e below _ (T529.setTop (mkF m 108 #[.val (.int k_), .val (.int p0), .val (.int p1), .val (.int p2), .val (.int fi), .val (.int en), .val (.int (2 : Int32)), .val (.int (0 : Int32)), .val (.ref b512), .val (.ref b513), .val (.int (1 : Int32)), .unset] [(.int (2 : Int32)), (.int (1 : Int32))]))
        refine s_icmpY S529 (hb hby at_108) (by decide) (by decide) (pcT := 113) (by decide) ?_
        refine s_iload S529 (hb hby at_113) rfl (pc' := 115) rfl ?_
        refine s_ifN S529 (hb hby at_115) (by decide) (pc' := 118) rfl ?_
        refine s_iconst S529 (hb hby at_118) (v := (0 : Int32)) rfl (pc' := 119) rfl ?_
        refine s_iload S529 (hb hby at_119) rfl (pc' := 121) rfl ?_
        refine s_icmpN S529 (hb hby at_121) (by decide) (pc' := 124) rfl ?_
        refine s_iloadN S529 (hb hby at_124) rfl (pc' := 125) rfl ?_
        refine s_iload S529 (hb hby at_125) rfl (pc' := 127) rfl ?_
        refine s_iload S529 (hb hby at_127) rfl (pc' := 129) rfl ?_
        show Go p e below _ (T529.setTop (mkF m 129 #[.val (.int k_), .val (.int p0), .val (.int p1), .val (.int p2), .val (.int fi), .val (.int en), .val (.int (2 : Int32)), .val (.int (0 : Int32)), .val (.ref b512), .val (.ref b513), .val (.int (1 : Int32)), .unset] [(.int en), (.int fi), (.int p0)]))
        refine g_static S529 (rmI1 X S529.old a0 b0) (fun _ q => nomatch q) (w109 hw) (w110 hw) (w111 hw) (w112 hw) (by decide) (hb hby at_129) (by rw [hml]; rfl) [(.int p0), (.int fi), (.int en)] (lenOf pd13 rfl) rfl rfl (Nat.le_of_ble_eq_true rfl) (Nat.le_of_ble_eq_true rfl) (Nat.le_of_ble_eq_true rfl) (Nat.le_of_ble_eq_true rfl) ?_
        intro v530 T530 V530 h530 S530 C530 q530
        obtain ⟨rfl, rfl⟩ := q530
        show Go p e below _ (T530.setTop (mkF m 132 #[.val (.int k_), .val (.int p0), .val (.int p1), .val (.int p2), .val (.int fi), .val (.int en), .val (.int (2 : Int32)), .val (.int (0 : Int32)), .val (.ref b512), .val (.ref b513), .val (.int (1 : Int32)), .unset] [(.int (1 : Int32))]))
        refine s_ifY S530 (hb hby at_132) (by decide) (by decide) (pcT := 137) (by decide) ?_
        refine s_iload S530 (hb hby at_137) rfl (pc' := 139) rfl ?_
        refine s_iconst S530 (hb hby at_139) (v := (1 : Int32)) rfl (pc' := 140) rfl ?_
        refine s_icmpN S530 (hb hby at_140) (by decide) (pc' := 143) rfl ?_
        refine s_iconst S530 (hb hby at_143) (v := (1 : Int32)) rfl (pc' := 144) rfl ?_
        refine s_iload S530 (hb hby at_144) rfl (pc' := 146) rfl ?_
        refine s_icmpY S530 (hb hby at_146) (by decide) (by decide) (pcT := 162) (by decide) ?_
        refine s_iload S530 (hb hby at_162) rfl (pc' := 164) rfl ?_
        refine s_iconst S530 (hb hby at_164) (v := (2 : Int32)) rfl (pc' := 165) rfl ?_
        refine s_icmpN S530 (hb hby at_165) (by decide) (pc' := 168) rfl ?_
        refine s_iconst S530 (hb hby at_168) (v := (2 : Int32)) rfl (pc' := 169) rfl ?_
        refine s_iload S530 (hb hby at_169) rfl (pc' := 171) rfl ?_
        refine s_icmpY S530 (hb hby at_171) (by decide) (by decide) (pcT := 187) (by decide) ?_
        refine s_iload S530 (hb hby at_187) rfl (pc' := 189) rfl ?_
        refine s_iload S530 (hb hby at_189) rfl (pc' := 191) rfl ?_
        refine s_icmpN S530 (hb hby at_191) (by decide) (pc' := 194) rfl ?_
        refine s_iload S530 (hb hby at_194) rfl (pc' := 196) rfl ?_
        refine s_ifY S530 (hb hby at_196) (by decide) (by decide) (pcT := 203) (by decide) ?_
        refine s_iload S530 (hb hby at_203) rfl (pc' := 205) rfl ?_
        refine s_iconst S530 (hb hby at_205) (v := (1 : Int32)) rfl (pc' := 206) rfl ?_
        refine s_icmpN S530 (hb hby at_206) (by decide) (pc' := 209) rfl ?_
        refine s_iloadN S530 (hb hby at_209) rfl (pc' := 210) rfl ?_
        refine s_goto S530 (hb hby at_210) (by decide) (pcT := 214) (by decide) ?_
        refine s_istore S530 (hb hby at_214) (L' := #[.val (.int k_), .val (.int p0), .val (.int p1), .val (.int p2), .val (.int fi), .val (.int en), .val (.int (2 : Int32)), .val (.int (0 : Int32)), .val (.ref b512), .val (.ref b513), .val (.int (1 : Int32)), .val (.int p1)]) rfl (pc' := 216) rfl ?_
        refine s_iload S530 (hb hby at_216) rfl (pc' := 218) rfl ?_
        refine s_iload S530 (hb hby at_218) rfl (pc' := 220) rfl ?_
        refine s_iload S530 (hb hby at_220) rfl (pc' := 222) rfl ?_
        show Go p e below _ (T530.setTop (mkF m 222 #[.val (.int k_), .val (.int p0), .val (.int p1), .val (.int p2), .val (.int fi), .val (.int en), .val (.int (2 : Int32)), .val (.int (0 : Int32)), .val (.ref b512), .val (.ref b513), .val (.int (1 : Int32)), .val (.int p1)] [(.int en), (.int fi), (.int p1)]))
        refine g_static S530 (rmI0 X S530.old hz) (fun _ q => nomatch q) (w109 hw) (w110 hw) (w111 hw) (w112 hw) (by decide) (hb hby at_222) (by rw [hml]; rfl) [(.int p1), (.int fi), (.int en)] (lenOf pd13 rfl) rfl rfl (Nat.le_of_ble_eq_true rfl) (Nat.le_of_ble_eq_true rfl) (Nat.le_of_ble_eq_true rfl) (Nat.le_of_ble_eq_true rfl) ?_
        intro v531 T531 V531 h531 S531 C531 q531
        obtain ⟨rfl, rfl⟩ := q531
        show Go p e below _ (T531.setTop (mkF m 225 #[.val (.int k_), .val (.int p0), .val (.int p1), .val (.int p2), .val (.int fi), .val (.int en), .val (.int (2 : Int32)), .val (.int (0 : Int32)), .val (.ref b512), .val (.ref b513), .val (.int (1 : Int32)), .val (.int p1)] [(.int (0 : Int32))]))
        refine s_ifY S531 (hb hby at_225) (by decide) (by decide) (pcT := 230) (by decide) ?_
        refine s_iconst S531 (hb hby at_230) (v := (1 : Int32)) rfl (pc' := 231) rfl ?_
        exact g_iretN S531 (hb hby at_231) hret (by simp) ⟨rfl, trivial⟩
      · skip
        show Go p e below _ (T526.setTop (mkF m 90 #[.val (.int k_), .val (.int p0), .val (.int p1), .val (.int p2), .val (.int fi), .val (.int en), .val (.int (2 : Int32)), .val (.int (0 : Int32)), .val (.ref b512), .val (.ref b513), .unset, .unset] [(.int (2 : Int32))]))
        refine s_istore S526 (hb hby at_90) (L' := #[.val (.int k_), .val (.int p0), .val (.int p1), .val (.int p2), .val (.int fi), .val (.int en), .val (.int (2 : Int32)), .val (.int (0 : Int32)), .val (.ref b512), .val (.ref b513), .val (.int (2 : Int32)), .unset]) rfl (pc' := 92) rfl ?_
        refine s_iload S526 (hb hby at_92) rfl (pc' := 94) rfl ?_
        refine s_iload S526 (hb hby at_94) rfl (pc' := 96) rfl ?_
        refine s_icmpN S526 (hb hby at_96) (by decide) (pc' := 99) rfl ?_
        refine s_iload S526 (hb hby at_99) rfl (pc' := 101) rfl ?_
        refine s_iload S526 (hb hby at_101) rfl (pc' := 103) rfl ?_
        refine s_iload S526 (hb hby at_103) rfl (pc' := 105) rfl ?_
        show Go p e below _ (T526.setTop (mkF m 105 #[.val (.int k_), .val (.int p0), .val (.int p1), .val (.int p2), .val (.int fi), .val (.int en), .val (.int (2 : Int32)), .val (.int (0 : Int32)), .val (.ref b512), .val (.ref b513), .val (.int (2 : Int32)), .unset] [(.int (2 : Int32)), (.int (0 : Int32)), (.int (2 : Int32))]))
        refine g_static S526 (rmMX X (z := (2 : Int32)) (by decide) S526.old) (fun _ q => nomatch q) (w42 hw) (w43 hw) (w44 hw) (w45 hw) (by decide) (hb hby at_105) (by rw [hml]; rfl) [(.int (0 : Int32)), (.int (2 : Int32))] (lenOf pd7 rfl) rfl rfl (Nat.le_of_ble_eq_true rfl) (Nat.le_of_ble_eq_true rfl) (Nat.le_of_ble_eq_true rfl) (Nat.le_of_ble_eq_true rfl) ?_
        intro v532 T532 V532 h532 S532 C532 q532
        obtain ⟨rfl, rfl⟩ := q532
        show Go p e below _ (T532.setTop (mkF m 108 #[.val (.int k_), .val (.int p0), .val (.int p1), .val (.int p2), .val (.int fi), .val (.int en), .val (.int (2 : Int32)), .val (.int (0 : Int32)), .val (.ref b512), .val (.ref b513), .val (.int (2 : Int32)), .unset] [(.int (2 : Int32)), (.int (2 : Int32))]))
        refine s_icmpY S532 (hb hby at_108) (by decide) (by decide) (pcT := 113) (by decide) ?_
        refine s_iload S532 (hb hby at_113) rfl (pc' := 115) rfl ?_
        refine s_ifN S532 (hb hby at_115) (by decide) (pc' := 118) rfl ?_
        refine s_iconst S532 (hb hby at_118) (v := (0 : Int32)) rfl (pc' := 119) rfl ?_
        refine s_iload S532 (hb hby at_119) rfl (pc' := 121) rfl ?_
        refine s_icmpN S532 (hb hby at_121) (by decide) (pc' := 124) rfl ?_
        refine s_iloadN S532 (hb hby at_124) rfl (pc' := 125) rfl ?_
        refine s_iload S532 (hb hby at_125) rfl (pc' := 127) rfl ?_
        refine s_iload S532 (hb hby at_127) rfl (pc' := 129) rfl ?_
        show Go p e below _ (T532.setTop (mkF m 129 #[.val (.int k_), .val (.int p0), .val (.int p1), .val (.int p2), .val (.int fi), .val (.int en), .val (.int (2 : Int32)), .val (.int (0 : Int32)), .val (.ref b512), .val (.ref b513), .val (.int (2 : Int32)), .unset] [(.int en), (.int fi), (.int p0)]))
        refine g_static S532 (rmI1 X S532.old a0 b0) (fun _ q => nomatch q) (w109 hw) (w110 hw) (w111 hw) (w112 hw) (by decide) (hb hby at_129) (by rw [hml]; rfl) [(.int p0), (.int fi), (.int en)] (lenOf pd13 rfl) rfl rfl (Nat.le_of_ble_eq_true rfl) (Nat.le_of_ble_eq_true rfl) (Nat.le_of_ble_eq_true rfl) (Nat.le_of_ble_eq_true rfl) ?_
        intro v533 T533 V533 h533 S533 C533 q533
        obtain ⟨rfl, rfl⟩ := q533
        show Go p e below _ (T533.setTop (mkF m 132 #[.val (.int k_), .val (.int p0), .val (.int p1), .val (.int p2), .val (.int fi), .val (.int en), .val (.int (2 : Int32)), .val (.int (0 : Int32)), .val (.ref b512), .val (.ref b513), .val (.int (2 : Int32)), .unset] [(.int (1 : Int32))]))
        refine s_ifY S533 (hb hby at_132) (by decide) (by decide) (pcT := 137) (by decide) ?_
        refine s_iload S533 (hb hby at_137) rfl (pc' := 139) rfl ?_
        refine s_iconst S533 (hb hby at_139) (v := (1 : Int32)) rfl (pc' := 140) rfl ?_
        refine s_icmpN S533 (hb hby at_140) (by decide) (pc' := 143) rfl ?_
        refine s_iconst S533 (hb hby at_143) (v := (1 : Int32)) rfl (pc' := 144) rfl ?_
        refine s_iload S533 (hb hby at_144) rfl (pc' := 146) rfl ?_
        refine s_icmpN S533 (hb hby at_146) (by decide) (pc' := 149) rfl ?_
        refine s_iloadN S533 (hb hby at_149) rfl (pc' := 150) rfl ?_
        refine s_iload S533 (hb hby at_150) rfl (pc' := 152) rfl ?_
        refine s_iload S533 (hb hby at_152) rfl (pc' := 154) rfl ?_
        show Go p e below _ (T533.setTop (mkF m 154 #[.val (.int k_), .val (.int p0), .val (.int p1), .val (.int p2), .val (.int fi), .val (.int en), .val (.int (2 : Int32)), .val (.int (0 : Int32)), .val (.ref b512), .val (.ref b513), .val (.int (2 : Int32)), .unset] [(.int en), (.int fi), (.int p1)]))
        refine g_static S533 (rmI1 X S533.old a1 b1) (fun _ q => nomatch q) (w109 hw) (w110 hw) (w111 hw) (w112 hw) (by decide) (hb hby at_154) (by rw [hml]; rfl) [(.int p1), (.int fi), (.int en)] (lenOf pd13 rfl) rfl rfl (Nat.le_of_ble_eq_true rfl) (Nat.le_of_ble_eq_true rfl) (Nat.le_of_ble_eq_true rfl) (Nat.le_of_ble_eq_true rfl) ?_
        intro v534 T534 V534 h534 S534 C534 q534
        obtain ⟨rfl, rfl⟩ := q534
        show Go p e below _ (T534.setTop (mkF m 157 #[.val (.int k_), .val (.int p0), .val (.int p1), .val (.int p2), .val (.int fi), .val (.int en), .val (.int (2 : Int32)), .val (.int (0 : Int32)), .val (.ref b512), .val (.ref b513), .val (.int (2 : Int32)), .unset] [(.int (1 : Int32))]))
        refine s_ifY S534 (hb hby at_157) (by decide) (by decide) (pcT := 162) (by decide) ?_
        refine s_iload S534 (hb hby at_162) rfl (pc' := 164) rfl ?_
        refine s_iconst S534 (hb hby at_164) (v := (2 : Int32)) rfl (pc' := 165) rfl ?_
        refine s_icmpN S534 (hb hby at_165) (by decide) (pc' := 168) rfl ?_
        refine s_iconst S534 (hb hby at_168) (v := (2 : Int32)) rfl (pc' := 169) rfl ?_
        refine s_iload S534 (hb hby at_169) rfl (pc' := 171) rfl ?_
        refine s_icmpY S534 (hb hby at_171) (by decide) (by decide) (pcT := 187) (by decide) ?_
        refine s_iload S534 (hb hby at_187) rfl (pc' := 189) rfl ?_
        refine s_iload S534 (hb hby at_189) rfl (pc' := 191) rfl ?_
        refine s_icmpY S534 (hb hby at_191) (by decide) (by decide) (pcT := 230) (by decide) ?_
        refine s_iconst S534 (hb hby at_230) (v := (1 : Int32)) rfl (pc' := 231) rfl ?_
        exact g_iretN S534 (hb hby at_231) hret (by simp) ⟨rfl, trivial⟩
    · skip
      show Go p e below _ (T524.setTop (mkF m 79 #[.val (.int k_), .val (.int p0), .val (.int p1), .val (.int p2), .val (.int fi), .val (.int en), .val (.int (2 : Int32)), .val (.int (1 : Int32)), .val (.ref b512), .val (.ref b513), .unset, .unset] []))
      refine s_aload S524 (hb hby at_79) rfl rfl (pc' := 81) rfl ?_
      refine s_iload S524 (hb hby at_81) rfl (pc' := 83) rfl ?_
      refine s_iload S524 (hb hby at_83) rfl (pc' := 85) rfl ?_
      refine s_iload S524 (hb hby at_85) rfl (pc' := 87) rfl ?_
      show Go p e below _ (T524.setTop (mkF m 87 #[.val (.int k_), .val (.int p0), .val (.int p1), .val (.int p2), .val (.int fi), .val (.int en), .val (.int (2 : Int32)), .val (.int (1 : Int32)), .val (.ref b512), .val (.ref b513), .unset, .unset] [(.int en), (.int fi), (.int (1 : Int32)), (.ref b513)]))
      refine g_virtual S524 (rmAF21 X S524.old Ac523) (fun _ q => nomatch q) (w35 hw) (w36 hw) (w38 hw) (w37 hw) (w3 hw) (w39 hw) (by decide) (fun _ h => notFace_of_selects h) (hb hby at_87) (by rw [hml]; rfl) b513 Ac523.1 [(.int (1 : Int32)), (.int fi), (.int en)] (lenOf pd11 rfl) rfl rfl (Nat.le_of_ble_eq_true rfl) (Nat.le_of_ble_eq_true rfl) (Nat.le_of_ble_eq_true rfl) (Nat.le_of_ble_eq_true rfl) ?_
      intro v536 T536 V536 h536 S536 C536 q536
      obtain ⟨r535, rfl, hr535, rfl⟩ := q536
      rcases hr535 with ⟨rfl, hz, -⟩ | ⟨rfl, ⟨a1, b1⟩, -⟩
      · skip
        show Go p e below _ (T536.setTop (mkF m 90 #[.val (.int k_), .val (.int p0), .val (.int p1), .val (.int p2), .val (.int fi), .val (.int en), .val (.int (2 : Int32)), .val (.int (1 : Int32)), .val (.ref b512), .val (.ref b513), .unset, .unset] [(.int (1 : Int32))]))
        refine s_istore S536 (hb hby at_90) (L' := #[.val (.int k_), .val (.int p0), .val (.int p1), .val (.int p2), .val (.int fi), .val (.int en), .val (.int (2 : Int32)), .val (.int (1 : Int32)), .val (.ref b512), .val (.ref b513), .val (.int (1 : Int32)), .unset]) rfl (pc' := 92) rfl ?_
        refine s_iload S536 (hb hby at_92) rfl (pc' := 94) rfl ?_
        refine s_iload S536 (hb hby at_94) rfl (pc' := 96) rfl ?_
        refine s_icmpN S536 (hb hby at_96) (by decide) (pc' := 99) rfl ?_
        refine s_iload S536 (hb hby at_99) rfl (pc' := 101) rfl ?_
        refine s_iload S536 (hb hby at_101) rfl (pc' := 103) rfl ?_
        refine s_iload S536 (hb hby at_103) rfl (pc' := 105) rfl ?_
        show Go p e below _ (T536.setTop (mkF m 105 #[.val (.int k_), .val (.int p0), .val (.int p1), .val (.int p2), .val (.int fi), .val (.int en), .val (.int (2 : Int32)), .val (.int (1 : Int32)), .val (.ref b512), .val (.ref b513), .val (.int (1 : Int32)), .unset] [(.int (2 : Int32)), (.int (1 : Int32)), (.int (1 : Int32))]))
        refine g_static S536 (rmMX X (z := (2 : Int32)) (by decide) S536.old) (fun _ q => nomatch q) (w42 hw) (w43 hw) (w44 hw) (w45 hw) (by decide) (hb hby at_105) (by rw [hml]; rfl) [(.int (1 : Int32)), (.int (2 : Int32))] (lenOf pd7 rfl) rfl rfl (Nat.le_of_ble_eq_true rfl) (Nat.le_of_ble_eq_true rfl) (Nat.le_of_ble_eq_true rfl) (Nat.le_of_ble_eq_true rfl) ?_
        intro v537 T537 V537 h537 S537 C537 q537
        obtain ⟨rfl, rfl⟩ := q537
        show Go p e below _ (T537.setTop (mkF m 108 #[.val (.int k_), .val (.int p0), .val (.int p1), .val (.int p2), .val (.int fi), .val (.int en), .val (.int (2 : Int32)), .val (.int (1 : Int32)), .val (.ref b512), .val (.ref b513), .val (.int (1 : Int32)), .unset] [(.int (2 : Int32)), (.int (1 : Int32))]))
        refine s_icmpY S537 (hb hby at_108) (by decide) (by decide) (pcT := 113) (by decide) ?_
        refine s_iload S537 (hb hby at_113) rfl (pc' := 115) rfl ?_
        refine s_ifY S537 (hb hby at_115) (by decide) (by decide) (pcT := 137) (by decide) ?_
        refine s_iload S537 (hb hby at_137) rfl (pc' := 139) rfl ?_
        refine s_iconst S537 (hb hby at_139) (v := (1 : Int32)) rfl (pc' := 140) rfl ?_
        refine s_icmpN S537 (hb hby at_140) (by decide) (pc' := 143) rfl ?_
        refine s_iconst S537 (hb hby at_143) (v := (1 : Int32)) rfl (pc' := 144) rfl ?_
        refine s_iload S537 (hb hby at_144) rfl (pc' := 146) rfl ?_
        refine s_icmpY S537 (hb hby at_146) (by decide) (by decide) (pcT := 162) (by decide) ?_
        refine s_iload S537 (hb hby at_162) rfl (pc' := 164) rfl ?_
        refine s_iconst S537 (hb hby at_164) (v := (2 : Int32)) rfl (pc' := 165) rfl ?_
        refine s_icmpN S537 (hb hby at_165) (by decide) (pc' := 168) rfl ?_
        refine s_iconst S537 (hb hby at_168) (v := (2 : Int32)) rfl (pc' := 169) rfl ?_
        refine s_iload S537 (hb hby at_169) rfl (pc' := 171) rfl ?_
        refine s_icmpY S537 (hb hby at_171) (by decide) (by decide) (pcT := 187) (by decide) ?_
        refine s_iload S537 (hb hby at_187) rfl (pc' := 189) rfl ?_
        refine s_iload S537 (hb hby at_189) rfl (pc' := 191) rfl ?_
        refine s_icmpN S537 (hb hby at_191) (by decide) (pc' := 194) rfl ?_
        refine s_iload S537 (hb hby at_194) rfl (pc' := 196) rfl ?_
        refine s_ifY S537 (hb hby at_196) (by decide) (by decide) (pcT := 203) (by decide) ?_
        refine s_iload S537 (hb hby at_203) rfl (pc' := 205) rfl ?_
        refine s_iconst S537 (hb hby at_205) (v := (1 : Int32)) rfl (pc' := 206) rfl ?_
        refine s_icmpN S537 (hb hby at_206) (by decide) (pc' := 209) rfl ?_
        refine s_iloadN S537 (hb hby at_209) rfl (pc' := 210) rfl ?_
        refine s_goto S537 (hb hby at_210) (by decide) (pcT := 214) (by decide) ?_
        refine s_istore S537 (hb hby at_214) (L' := #[.val (.int k_), .val (.int p0), .val (.int p1), .val (.int p2), .val (.int fi), .val (.int en), .val (.int (2 : Int32)), .val (.int (1 : Int32)), .val (.ref b512), .val (.ref b513), .val (.int (1 : Int32)), .val (.int p1)]) rfl (pc' := 216) rfl ?_
        refine s_iload S537 (hb hby at_216) rfl (pc' := 218) rfl ?_
        refine s_iload S537 (hb hby at_218) rfl (pc' := 220) rfl ?_
        refine s_iload S537 (hb hby at_220) rfl (pc' := 222) rfl ?_
        show Go p e below _ (T537.setTop (mkF m 222 #[.val (.int k_), .val (.int p0), .val (.int p1), .val (.int p2), .val (.int fi), .val (.int en), .val (.int (2 : Int32)), .val (.int (1 : Int32)), .val (.ref b512), .val (.ref b513), .val (.int (1 : Int32)), .val (.int p1)] [(.int en), (.int fi), (.int p1)]))
        refine g_static S537 (rmI0 X S537.old hz) (fun _ q => nomatch q) (w109 hw) (w110 hw) (w111 hw) (w112 hw) (by decide) (hb hby at_222) (by rw [hml]; rfl) [(.int p1), (.int fi), (.int en)] (lenOf pd13 rfl) rfl rfl (Nat.le_of_ble_eq_true rfl) (Nat.le_of_ble_eq_true rfl) (Nat.le_of_ble_eq_true rfl) (Nat.le_of_ble_eq_true rfl) ?_
        intro v538 T538 V538 h538 S538 C538 q538
        obtain ⟨rfl, rfl⟩ := q538
        show Go p e below _ (T538.setTop (mkF m 225 #[.val (.int k_), .val (.int p0), .val (.int p1), .val (.int p2), .val (.int fi), .val (.int en), .val (.int (2 : Int32)), .val (.int (1 : Int32)), .val (.ref b512), .val (.ref b513), .val (.int (1 : Int32)), .val (.int p1)] [(.int (0 : Int32))]))
        refine s_ifY S538 (hb hby at_225) (by decide) (by decide) (pcT := 230) (by decide) ?_
        refine s_iconst S538 (hb hby at_230) (v := (1 : Int32)) rfl (pc' := 231) rfl ?_
        exact g_iretN S538 (hb hby at_231) hret (by simp) ⟨rfl, trivial⟩
      · skip
        show Go p e below _ (T536.setTop (mkF m 90 #[.val (.int k_), .val (.int p0), .val (.int p1), .val (.int p2), .val (.int fi), .val (.int en), .val (.int (2 : Int32)), .val (.int (1 : Int32)), .val (.ref b512), .val (.ref b513), .unset, .unset] [(.int (2 : Int32))]))
        refine s_istore S536 (hb hby at_90) (L' := #[.val (.int k_), .val (.int p0), .val (.int p1), .val (.int p2), .val (.int fi), .val (.int en), .val (.int (2 : Int32)), .val (.int (1 : Int32)), .val (.ref b512), .val (.ref b513), .val (.int (2 : Int32)), .unset]) rfl (pc' := 92) rfl ?_
        refine s_iload S536 (hb hby at_92) rfl (pc' := 94) rfl ?_
        refine s_iload S536 (hb hby at_94) rfl (pc' := 96) rfl ?_
        refine s_icmpN S536 (hb hby at_96) (by decide) (pc' := 99) rfl ?_
        refine s_iload S536 (hb hby at_99) rfl (pc' := 101) rfl ?_
        refine s_iload S536 (hb hby at_101) rfl (pc' := 103) rfl ?_
        refine s_iload S536 (hb hby at_103) rfl (pc' := 105) rfl ?_
        show Go p e below _ (T536.setTop (mkF m 105 #[.val (.int k_), .val (.int p0), .val (.int p1), .val (.int p2), .val (.int fi), .val (.int en), .val (.int (2 : Int32)), .val (.int (1 : Int32)), .val (.ref b512), .val (.ref b513), .val (.int (2 : Int32)), .unset] [(.int (2 : Int32)), (.int (1 : Int32)), (.int (2 : Int32))]))
        refine g_static S536 (rmMX X (z := (2 : Int32)) (by decide) S536.old) (fun _ q => nomatch q) (w42 hw) (w43 hw) (w44 hw) (w45 hw) (by decide) (hb hby at_105) (by rw [hml]; rfl) [(.int (1 : Int32)), (.int (2 : Int32))] (lenOf pd7 rfl) rfl rfl (Nat.le_of_ble_eq_true rfl) (Nat.le_of_ble_eq_true rfl) (Nat.le_of_ble_eq_true rfl) (Nat.le_of_ble_eq_true rfl) ?_
        intro v539 T539 V539 h539 S539 C539 q539
        obtain ⟨rfl, rfl⟩ := q539
        show Go p e below _ (T539.setTop (mkF m 108 #[.val (.int k_), .val (.int p0), .val (.int p1), .val (.int p2), .val (.int fi), .val (.int en), .val (.int (2 : Int32)), .val (.int (1 : Int32)), .val (.ref b512), .val (.ref b513), .val (.int (2 : Int32)), .unset] [(.int (2 : Int32)), (.int (2 : Int32))]))
        refine s_icmpY S539 (hb hby at_108) (by decide) (by decide) (pcT := 113) (by decide) ?_
        refine s_iload S539 (hb hby at_113) rfl (pc' := 115) rfl ?_
        refine s_ifY S539 (hb hby at_115) (by decide) (by decide) (pcT := 137) (by decide) ?_
        refine s_iload S539 (hb hby at_137) rfl (pc' := 139) rfl ?_
        refine s_iconst S539 (hb hby at_139) (v := (1 : Int32)) rfl (pc' := 140) rfl ?_
        refine s_icmpN S539 (hb hby at_140) (by decide) (pc' := 143) rfl ?_
        refine s_iconst S539 (hb hby at_143) (v := (1 : Int32)) rfl (pc' := 144) rfl ?_
        refine s_iload S539 (hb hby at_144) rfl (pc' := 146) rfl ?_
        refine s_icmpN S539 (hb hby at_146) (by decide) (pc' := 149) rfl ?_
        refine s_iloadN S539 (hb hby at_149) rfl (pc' := 150) rfl ?_
        refine s_iload S539 (hb hby at_150) rfl (pc' := 152) rfl ?_
        refine s_iload S539 (hb hby at_152) rfl (pc' := 154) rfl ?_
        show Go p e below _ (T539.setTop (mkF m 154 #[.val (.int k_), .val (.int p0), .val (.int p1), .val (.int p2), .val (.int fi), .val (.int en), .val (.int (2 : Int32)), .val (.int (1 : Int32)), .val (.ref b512), .val (.ref b513), .val (.int (2 : Int32)), .unset] [(.int en), (.int fi), (.int p1)]))
        refine g_static S539 (rmI1 X S539.old a1 b1) (fun _ q => nomatch q) (w109 hw) (w110 hw) (w111 hw) (w112 hw) (by decide) (hb hby at_154) (by rw [hml]; rfl) [(.int p1), (.int fi), (.int en)] (lenOf pd13 rfl) rfl rfl (Nat.le_of_ble_eq_true rfl) (Nat.le_of_ble_eq_true rfl) (Nat.le_of_ble_eq_true rfl) (Nat.le_of_ble_eq_true rfl) ?_
        intro v540 T540 V540 h540 S540 C540 q540
        obtain ⟨rfl, rfl⟩ := q540
        show Go p e below _ (T540.setTop (mkF m 157 #[.val (.int k_), .val (.int p0), .val (.int p1), .val (.int p2), .val (.int fi), .val (.int en), .val (.int (2 : Int32)), .val (.int (1 : Int32)), .val (.ref b512), .val (.ref b513), .val (.int (2 : Int32)), .unset] [(.int (1 : Int32))]))
        refine s_ifY S540 (hb hby at_157) (by decide) (by decide) (pcT := 162) (by decide) ?_
        refine s_iload S540 (hb hby at_162) rfl (pc' := 164) rfl ?_
        refine s_iconst S540 (hb hby at_164) (v := (2 : Int32)) rfl (pc' := 165) rfl ?_
        refine s_icmpN S540 (hb hby at_165) (by decide) (pc' := 168) rfl ?_
        refine s_iconst S540 (hb hby at_168) (v := (2 : Int32)) rfl (pc' := 169) rfl ?_
        refine s_iload S540 (hb hby at_169) rfl (pc' := 171) rfl ?_
        refine s_icmpY S540 (hb hby at_171) (by decide) (by decide) (pcT := 187) (by decide) ?_
        refine s_iload S540 (hb hby at_187) rfl (pc' := 189) rfl ?_
        refine s_iload S540 (hb hby at_189) rfl (pc' := 191) rfl ?_
        refine s_icmpY S540 (hb hby at_191) (by decide) (by decide) (pcT := 230) (by decide) ?_
        refine s_iconst S540 (hb hby at_230) (v := (1 : Int32)) rfl (pc' := 231) rfl ?_
        exact g_iretN S540 (hb hby at_231) hret (by simp) ⟨rfl, trivial⟩
    · skip
      show Go p e below _ (T524.setTop (mkF m 79 #[.val (.int k_), .val (.int p0), .val (.int p1), .val (.int p2), .val (.int fi), .val (.int en), .val (.int (2 : Int32)), .val (.int (2 : Int32)), .val (.ref b512), .val (.ref b513), .unset, .unset] []))
      refine s_aload S524 (hb hby at_79) rfl rfl (pc' := 81) rfl ?_
      refine s_iload S524 (hb hby at_81) rfl (pc' := 83) rfl ?_
      refine s_iload S524 (hb hby at_83) rfl (pc' := 85) rfl ?_
      refine s_iload S524 (hb hby at_85) rfl (pc' := 87) rfl ?_
      show Go p e below _ (T524.setTop (mkF m 87 #[.val (.int k_), .val (.int p0), .val (.int p1), .val (.int p2), .val (.int fi), .val (.int en), .val (.int (2 : Int32)), .val (.int (2 : Int32)), .val (.ref b512), .val (.ref b513), .unset, .unset] [(.int en), (.int fi), (.int (2 : Int32)), (.ref b513)]))
      refine g_virtual S524 (rmAF22 X S524.old Ac523) (fun _ q => nomatch q) (w35 hw) (w36 hw) (w38 hw) (w37 hw) (w3 hw) (w39 hw) (by decide) (fun _ h => notFace_of_selects h) (hb hby at_87) (by rw [hml]; rfl) b513 Ac523.1 [(.int (2 : Int32)), (.int fi), (.int en)] (lenOf pd11 rfl) rfl rfl (Nat.le_of_ble_eq_true rfl) (Nat.le_of_ble_eq_true rfl) (Nat.le_of_ble_eq_true rfl) (Nat.le_of_ble_eq_true rfl) ?_
      intro v542 T542 V542 h542 S542 C542 q542
      obtain ⟨r541, rfl, hr541, rfl⟩ := q542
      rcases hr541 with ⟨rfl, -⟩
      · skip
        show Go p e below _ (T542.setTop (mkF m 90 #[.val (.int k_), .val (.int p0), .val (.int p1), .val (.int p2), .val (.int fi), .val (.int en), .val (.int (2 : Int32)), .val (.int (2 : Int32)), .val (.ref b512), .val (.ref b513), .unset, .unset] [(.int (2 : Int32))]))
        refine s_istore S542 (hb hby at_90) (L' := #[.val (.int k_), .val (.int p0), .val (.int p1), .val (.int p2), .val (.int fi), .val (.int en), .val (.int (2 : Int32)), .val (.int (2 : Int32)), .val (.ref b512), .val (.ref b513), .val (.int (2 : Int32)), .unset]) rfl (pc' := 92) rfl ?_
        refine s_iload S542 (hb hby at_92) rfl (pc' := 94) rfl ?_
        refine s_iload S542 (hb hby at_94) rfl (pc' := 96) rfl ?_
        refine s_icmpN S542 (hb hby at_96) (by decide) (pc' := 99) rfl ?_
        refine s_iload S542 (hb hby at_99) rfl (pc' := 101) rfl ?_
        refine s_iload S542 (hb hby at_101) rfl (pc' := 103) rfl ?_
        refine s_iload S542 (hb hby at_103) rfl (pc' := 105) rfl ?_
        show Go p e below _ (T542.setTop (mkF m 105 #[.val (.int k_), .val (.int p0), .val (.int p1), .val (.int p2), .val (.int fi), .val (.int en), .val (.int (2 : Int32)), .val (.int (2 : Int32)), .val (.ref b512), .val (.ref b513), .val (.int (2 : Int32)), .unset] [(.int (2 : Int32)), (.int (2 : Int32)), (.int (2 : Int32))]))
        refine g_static S542 (rmMX X (z := (2 : Int32)) (by decide) S542.old) (fun _ q => nomatch q) (w42 hw) (w43 hw) (w44 hw) (w45 hw) (by decide) (hb hby at_105) (by rw [hml]; rfl) [(.int (2 : Int32)), (.int (2 : Int32))] (lenOf pd7 rfl) rfl rfl (Nat.le_of_ble_eq_true rfl) (Nat.le_of_ble_eq_true rfl) (Nat.le_of_ble_eq_true rfl) (Nat.le_of_ble_eq_true rfl) ?_
        intro v543 T543 V543 h543 S543 C543 q543
        obtain ⟨rfl, rfl⟩ := q543
        show Go p e below _ (T543.setTop (mkF m 108 #[.val (.int k_), .val (.int p0), .val (.int p1), .val (.int p2), .val (.int fi), .val (.int en), .val (.int (2 : Int32)), .val (.int (2 : Int32)), .val (.ref b512), .val (.ref b513), .val (.int (2 : Int32)), .unset] [(.int (2 : Int32)), (.int (2 : Int32))]))
        refine s_icmpY S543 (hb hby at_108) (by decide) (by decide) (pcT := 113) (by decide) ?_
        refine s_iload S543 (hb hby at_113) rfl (pc' := 115) rfl ?_
        refine s_ifY S543 (hb hby at_115) (by decide) (by decide) (pcT := 137) (by decide) ?_
        refine s_iload S543 (hb hby at_137) rfl (pc' := 139) rfl ?_
        refine s_iconst S543 (hb hby at_139) (v := (1 : Int32)) rfl (pc' := 140) rfl ?_
        refine s_icmpY S543 (hb hby at_140) (by decide) (by decide) (pcT := 162) (by decide) ?_
        refine s_iload S543 (hb hby at_162) rfl (pc' := 164) rfl ?_
        refine s_iconst S543 (hb hby at_164) (v := (2 : Int32)) rfl (pc' := 165) rfl ?_
        refine s_icmpN S543 (hb hby at_165) (by decide) (pc' := 168) rfl ?_
        refine s_iconst S543 (hb hby at_168) (v := (2 : Int32)) rfl (pc' := 169) rfl ?_
        refine s_iload S543 (hb hby at_169) rfl (pc' := 171) rfl ?_
        refine s_icmpY S543 (hb hby at_171) (by decide) (by decide) (pcT := 187) (by decide) ?_
        refine s_iload S543 (hb hby at_187) rfl (pc' := 189) rfl ?_
        refine s_iload S543 (hb hby at_189) rfl (pc' := 191) rfl ?_
        refine s_icmpY S543 (hb hby at_191) (by decide) (by decide) (pcT := 230) (by decide) ?_
        refine s_iconst S543 (hb hby at_230) (v := (1 : Int32)) rfl (pc' := 231) rfl ?_
        exact g_iretN S543 (hb hby at_231) hret (by simp) ⟨rfl, trivial⟩
    · skip
      show Go p e below _ (T524.setTop (mkF m 79 #[.val (.int k_), .val (.int p0), .val (.int p1), .val (.int p2), .val (.int fi), .val (.int en), .val (.int (2 : Int32)), .val (.int (3 : Int32)), .val (.ref b512), .val (.ref b513), .unset, .unset] []))
      refine s_aload S524 (hb hby at_79) rfl rfl (pc' := 81) rfl ?_
      refine s_iload S524 (hb hby at_81) rfl (pc' := 83) rfl ?_
      refine s_iload S524 (hb hby at_83) rfl (pc' := 85) rfl ?_
      refine s_iload S524 (hb hby at_85) rfl (pc' := 87) rfl ?_
      show Go p e below _ (T524.setTop (mkF m 87 #[.val (.int k_), .val (.int p0), .val (.int p1), .val (.int p2), .val (.int fi), .val (.int en), .val (.int (2 : Int32)), .val (.int (3 : Int32)), .val (.ref b512), .val (.ref b513), .unset, .unset] [(.int en), (.int fi), (.int (3 : Int32)), (.ref b513)]))
      refine g_virtual S524 (rmAF23 X S524.old Ac523) (fun _ q => nomatch q) (w35 hw) (w36 hw) (w38 hw) (w37 hw) (w3 hw) (w39 hw) (by decide) (fun _ h => notFace_of_selects h) (hb hby at_87) (by rw [hml]; rfl) b513 Ac523.1 [(.int (3 : Int32)), (.int fi), (.int en)] (lenOf pd11 rfl) rfl rfl (Nat.le_of_ble_eq_true rfl) (Nat.le_of_ble_eq_true rfl) (Nat.le_of_ble_eq_true rfl) (Nat.le_of_ble_eq_true rfl) ?_
      intro v545 T545 V545 h545 S545 C545 q545
      obtain ⟨r544, rfl, hr544, rfl⟩ := q545
      rcases hr544 with ⟨rfl, -⟩
      · skip
        show Go p e below _ (T545.setTop (mkF m 90 #[.val (.int k_), .val (.int p0), .val (.int p1), .val (.int p2), .val (.int fi), .val (.int en), .val (.int (2 : Int32)), .val (.int (3 : Int32)), .val (.ref b512), .val (.ref b513), .unset, .unset] [(.int (3 : Int32))]))
        refine s_istore S545 (hb hby at_90) (L' := #[.val (.int k_), .val (.int p0), .val (.int p1), .val (.int p2), .val (.int fi), .val (.int en), .val (.int (2 : Int32)), .val (.int (3 : Int32)), .val (.ref b512), .val (.ref b513), .val (.int (3 : Int32)), .unset]) rfl (pc' := 92) rfl ?_
        refine s_iload S545 (hb hby at_92) rfl (pc' := 94) rfl ?_
        refine s_iload S545 (hb hby at_94) rfl (pc' := 96) rfl ?_
        refine s_icmpN S545 (hb hby at_96) (by decide) (pc' := 99) rfl ?_
        refine s_iload S545 (hb hby at_99) rfl (pc' := 101) rfl ?_
        refine s_iload S545 (hb hby at_101) rfl (pc' := 103) rfl ?_
        refine s_iload S545 (hb hby at_103) rfl (pc' := 105) rfl ?_
        show Go p e below _ (T545.setTop (mkF m 105 #[.val (.int k_), .val (.int p0), .val (.int p1), .val (.int p2), .val (.int fi), .val (.int en), .val (.int (2 : Int32)), .val (.int (3 : Int32)), .val (.ref b512), .val (.ref b513), .val (.int (3 : Int32)), .unset] [(.int (2 : Int32)), (.int (3 : Int32)), (.int (3 : Int32))]))
        refine g_static S545 (rmMX X (z := (3 : Int32)) (by decide) S545.old) (fun _ q => nomatch q) (w42 hw) (w43 hw) (w44 hw) (w45 hw) (by decide) (hb hby at_105) (by rw [hml]; rfl) [(.int (3 : Int32)), (.int (2 : Int32))] (lenOf pd7 rfl) rfl rfl (Nat.le_of_ble_eq_true rfl) (Nat.le_of_ble_eq_true rfl) (Nat.le_of_ble_eq_true rfl) (Nat.le_of_ble_eq_true rfl) ?_
        intro v546 T546 V546 h546 S546 C546 q546
        obtain ⟨rfl, rfl⟩ := q546
        show Go p e below _ (T546.setTop (mkF m 108 #[.val (.int k_), .val (.int p0), .val (.int p1), .val (.int p2), .val (.int fi), .val (.int en), .val (.int (2 : Int32)), .val (.int (3 : Int32)), .val (.ref b512), .val (.ref b513), .val (.int (3 : Int32)), .unset] [(.int (3 : Int32)), (.int (3 : Int32))]))
        refine s_icmpY S546 (hb hby at_108) (by decide) (by decide) (pcT := 113) (by decide) ?_
        refine s_iload S546 (hb hby at_113) rfl (pc' := 115) rfl ?_
        refine s_ifY S546 (hb hby at_115) (by decide) (by decide) (pcT := 137) (by decide) ?_
        refine s_iload S546 (hb hby at_137) rfl (pc' := 139) rfl ?_
        refine s_iconst S546 (hb hby at_139) (v := (1 : Int32)) rfl (pc' := 140) rfl ?_
        refine s_icmpY S546 (hb hby at_140) (by decide) (by decide) (pcT := 162) (by decide) ?_
        refine s_iload S546 (hb hby at_162) rfl (pc' := 164) rfl ?_
        refine s_iconst S546 (hb hby at_164) (v := (2 : Int32)) rfl (pc' := 165) rfl ?_
        refine s_icmpY S546 (hb hby at_165) (by decide) (by decide) (pcT := 187) (by decide) ?_
        refine s_iload S546 (hb hby at_187) rfl (pc' := 189) rfl ?_
        refine s_iload S546 (hb hby at_189) rfl (pc' := 191) rfl ?_
        refine s_icmpY S546 (hb hby at_191) (by decide) (by decide) (pcT := 230) (by decide) ?_
        refine s_iconst S546 (hb hby at_230) (v := (1 : Int32)) rfl (pc' := 231) rfl ?_
        exact g_iretN S546 (hb hby at_231) hret (by simp) ⟨rfl, trivial⟩
    · skip
      show Go p e below _ (T524.setTop (mkF m 79 #[.val (.int k_), .val (.int p0), .val (.int p1), .val (.int p2), .val (.int fi), .val (.int en), .val (.int (2 : Int32)), .val (.int (4 : Int32)), .val (.ref b512), .val (.ref b513), .unset, .unset] []))
      refine s_aload S524 (hb hby at_79) rfl rfl (pc' := 81) rfl ?_
      refine s_iload S524 (hb hby at_81) rfl (pc' := 83) rfl ?_
      refine s_iload S524 (hb hby at_83) rfl (pc' := 85) rfl ?_
      refine s_iload S524 (hb hby at_85) rfl (pc' := 87) rfl ?_
      show Go p e below _ (T524.setTop (mkF m 87 #[.val (.int k_), .val (.int p0), .val (.int p1), .val (.int p2), .val (.int fi), .val (.int en), .val (.int (2 : Int32)), .val (.int (4 : Int32)), .val (.ref b512), .val (.ref b513), .unset, .unset] [(.int en), (.int fi), (.int (4 : Int32)), (.ref b513)]))
      refine g_virtual S524 (rmAF24 X S524.old Ac523) (fun _ q => nomatch q) (w35 hw) (w36 hw) (w38 hw) (w37 hw) (w3 hw) (w39 hw) (by decide) (fun _ h => notFace_of_selects h) (hb hby at_87) (by rw [hml]; rfl) b513 Ac523.1 [(.int (4 : Int32)), (.int fi), (.int en)] (lenOf pd11 rfl) rfl rfl (Nat.le_of_ble_eq_true rfl) (Nat.le_of_ble_eq_true rfl) (Nat.le_of_ble_eq_true rfl) (Nat.le_of_ble_eq_true rfl) ?_
      intro v548 T548 V548 h548 S548 C548 q548
      obtain ⟨r547, rfl, hr547, rfl⟩ := q548
      rcases hr547 with ⟨rfl, -⟩
      · skip
        show Go p e below _ (T548.setTop (mkF m 90 #[.val (.int k_), .val (.int p0), .val (.int p1), .val (.int p2), .val (.int fi), .val (.int en), .val (.int (2 : Int32)), .val (.int (4 : Int32)), .val (.ref b512), .val (.ref b513), .unset, .unset] [(.int (4 : Int32))]))
        refine s_istore S548 (hb hby at_90) (L' := #[.val (.int k_), .val (.int p0), .val (.int p1), .val (.int p2), .val (.int fi), .val (.int en), .val (.int (2 : Int32)), .val (.int (4 : Int32)), .val (.ref b512), .val (.ref b513), .val (.int (4 : Int32)), .unset]) rfl (pc' := 92) rfl ?_
        refine s_iload S548 (hb hby at_92) rfl (pc' := 94) rfl ?_
        refine s_iload S548 (hb hby at_94) rfl (pc' := 96) rfl ?_
        refine s_icmpN S548 (hb hby at_96) (by decide) (pc' := 99) rfl ?_
        refine s_iload S548 (hb hby at_99) rfl (pc' := 101) rfl ?_
        refine s_iload S548 (hb hby at_101) rfl (pc' := 103) rfl ?_
        refine s_iload S548 (hb hby at_103) rfl (pc' := 105) rfl ?_
        show Go p e below _ (T548.setTop (mkF m 105 #[.val (.int k_), .val (.int p0), .val (.int p1), .val (.int p2), .val (.int fi), .val (.int en), .val (.int (2 : Int32)), .val (.int (4 : Int32)), .val (.ref b512), .val (.ref b513), .val (.int (4 : Int32)), .unset] [(.int (2 : Int32)), (.int (4 : Int32)), (.int (4 : Int32))]))
        refine g_static S548 (rmMX X (z := (4 : Int32)) (by decide) S548.old) (fun _ q => nomatch q) (w42 hw) (w43 hw) (w44 hw) (w45 hw) (by decide) (hb hby at_105) (by rw [hml]; rfl) [(.int (4 : Int32)), (.int (2 : Int32))] (lenOf pd7 rfl) rfl rfl (Nat.le_of_ble_eq_true rfl) (Nat.le_of_ble_eq_true rfl) (Nat.le_of_ble_eq_true rfl) (Nat.le_of_ble_eq_true rfl) ?_
        intro v549 T549 V549 h549 S549 C549 q549
        obtain ⟨rfl, rfl⟩ := q549
        show Go p e below _ (T549.setTop (mkF m 108 #[.val (.int k_), .val (.int p0), .val (.int p1), .val (.int p2), .val (.int fi), .val (.int en), .val (.int (2 : Int32)), .val (.int (4 : Int32)), .val (.ref b512), .val (.ref b513), .val (.int (4 : Int32)), .unset] [(.int (4 : Int32)), (.int (4 : Int32))]))
        refine s_icmpY S549 (hb hby at_108) (by decide) (by decide) (pcT := 113) (by decide) ?_
        refine s_iload S549 (hb hby at_113) rfl (pc' := 115) rfl ?_
        refine s_ifY S549 (hb hby at_115) (by decide) (by decide) (pcT := 137) (by decide) ?_
        refine s_iload S549 (hb hby at_137) rfl (pc' := 139) rfl ?_
        refine s_iconst S549 (hb hby at_139) (v := (1 : Int32)) rfl (pc' := 140) rfl ?_
        refine s_icmpY S549 (hb hby at_140) (by decide) (by decide) (pcT := 162) (by decide) ?_
        refine s_iload S549 (hb hby at_162) rfl (pc' := 164) rfl ?_
        refine s_iconst S549 (hb hby at_164) (v := (2 : Int32)) rfl (pc' := 165) rfl ?_
        refine s_icmpY S549 (hb hby at_165) (by decide) (by decide) (pcT := 187) (by decide) ?_
        refine s_iload S549 (hb hby at_187) rfl (pc' := 189) rfl ?_
        refine s_iload S549 (hb hby at_189) rfl (pc' := 191) rfl ?_
        refine s_icmpY S549 (hb hby at_191) (by decide) (by decide) (pcT := 230) (by decide) ?_
        refine s_iconst S549 (hb hby at_230) (v := (1 : Int32)) rfl (pc' := 231) rfl ?_
        exact g_iretN S549 (hb hby at_231) hret (by simp) ⟨rfl, trivial⟩
  · skip
    show Go p e below _ (T0.setTop (mkF m 5 #[.val (.int k_), .val (.int p0), .val (.int p1), .val (.int p2), .val (.int fi), .val (.int en), .val (.int (3 : Int32)), .unset, .unset, .unset, .unset, .unset] []))
    refine s_iloadN S0 (hb hby at_5) rfl (pc' := 6) rfl ?_
    refine s_iconst S0 (hb hby at_6) (v := (2 : Int32)) rfl (pc' := 7) rfl ?_
    refine s_iushr S0 (hb hby at_7) (z := ((k_.toUInt32 >>> ((2 : Int32) &&& 31).toUInt32).toInt32)) rfl (pc' := 8) rfl ?_
    refine s_iconst S0 (hb hby at_8) (v := (5 : Int32)) rfl (pc' := 9) rfl ?_
    refine s_irem S0 (hb hby at_9) (by decide) (z := (((k_.toUInt32 >>> ((2 : Int32) &&& 31).toUInt32).toInt32) % (5 : Int32))) rfl (pc' := 10) rfl ?_
    generalize eas_550 : (((k_.toUInt32 >>> ((2 : Int32) &&& 31).toUInt32).toInt32) % (5 : Int32)) = as_550
    refine s_istore S0 (hb hby at_10) (L' := #[.val (.int k_), .val (.int p0), .val (.int p1), .val (.int p2), .val (.int fi), .val (.int en), .val (.int (3 : Int32)), .val (.int as_550), .unset, .unset, .unset, .unset]) rfl (pc' := 12) rfl ?_
    refine s_iconst S0 (hb hby at_12) (v := (0 : Int32)) rfl (pc' := 13) rfl ?_
    refine g_newarr (aty := .char) S0 (w0 hw) (hb hby at_13) (by decide) (cap := 0) (by decide) (by decide) (Nat.le_of_ble_eq_true rfl) (Nat.le_of_ble_eq_true rfl) ?_
    intro T551 h551 b551 kc551 S551 E551 fr551 lt551 na551 sf551 A551
    have V551 : Arv Z h551 b551 kc551 .char (0 : Int32) [] (.int (0 : Int32)) := A551 0
    show Go p e below _ (T551.setTop (mkF m 15 #[.val (.int k_), .val (.int p0), .val (.int p1), .val (.int p2), .val (.int fi), .val (.int en), .val (.int (3 : Int32)), .val (.int as_550), .unset, .unset, .unset, .unset] [(.ref b551)]))
    refine s_astore S551 (hb hby at_15) rfl (L' := #[.val (.int k_), .val (.int p0), .val (.int p1), .val (.int p2), .val (.int fi), .val (.int en), .val (.int (3 : Int32)), .val (.int as_550), .val (.ref b551), .unset, .unset, .unset]) rfl (pc' := 17) rfl ?_
    refine g_new S551 (w1 hw) (w2 hw) (w3 hw) (hb hby at_17) (Nat.le_of_ble_eq_true rfl) (Nat.le_of_ble_eq_true rfl) ?_
    intro T552 h552 b552 S552 E552 fr552 lt552 na552 sf552 A552 D552
    have F553 : Fld Z h552 b552 "com/example/nodewarden/nodewarden/core/Asides" "text" "Ljava/lang/StringBuilder;" .null := D552 (Or.inr (w31 hw)) (ty := (.object "java/lang/StringBuilder")) (by decide)
    have F554 : Fld Z h552 b552 "com/example/nodewarden/nodewarden/core/Asides" "table" "[I" .null := D552 (Or.inl (w34 hw)) (ty := (.array .int)) (by decide)
    have F555 : Fld Z h552 b552 "com/example/nodewarden/nodewarden/core/Asides" "count" "I" (.int (0 : Int32)) := D552 (Or.inl (w41 hw)) (ty := .int) (by decide)
    show Go p e below _ (T552.setTop (mkF m 20 #[.val (.int k_), .val (.int p0), .val (.int p1), .val (.int p2), .val (.int fi), .val (.int en), .val (.int (3 : Int32)), .val (.int as_550), .val (.ref b551), .unset, .unset, .unset] [(.ref b552)]))
    refine s_dup S552 (hb hby at_20) rfl (pc' := 21) rfl ?_
    have V556 := V551.ext E552
    have nXC : b552 ≠ b551 := Exa.neArv A552 V556 (w2 hw)
    show Go p e below _ (T552.setTop (mkF m 21 #[.val (.int k_), .val (.int p0), .val (.int p1), .val (.int p2), .val (.int fi), .val (.int en), .val (.int (3 : Int32)), .val (.int as_550), .val (.ref b551), .unset, .unset, .unset] [(.ref b552), (.ref b552)]))
    refine g_special S552 (rmIN X na552 S552.old A552 F553 F554 F555) (fun _ q => nomatch q) rfl (w4 hw) (w5 hw) (w3 hw) (w6 hw) (by decide) (hb hby at_21) (by rw [hml]; rfl) b552 [] (lenOf pd6 rfl) rfl rfl (Nat.le_of_ble_eq_true rfl) (Nat.le_of_ble_eq_true rfl) (Nat.le_of_ble_eq_true rfl) (Nat.le_of_ble_eq_true rfl) ?_
    intro v557 T557 V557 h557 S557 C557 q557
    obtain ⟨rfl, sb, tb, t, kb, kt, K0, A0, sf0_⟩ := q557
    have X558 : Ext h551 h557 := ext_keep1 E552 K0 fr552
    have V559 := V551.ext X558
    show Go p e below _ (T557.setTop (mkF m 24 #[.val (.int k_), .val (.int p0), .val (.int p1), .val (.int p2), .val (.int fi), .val (.int en), .val (.int (3 : Int32)), .val (.int as_550), .val (.ref b551), .unset, .unset, .unset] [(.ref b552)]))
    refine s_astore S557 (hb hby at_24) rfl (L' := #[.val (.int k_), .val (.int p0), .val (.int p1), .val (.int p2), .val (.int fi), .val (.int en), .val (.int (3 : Int32)), .val (.int as_550), .val (.ref b551), .val (.ref b552), .unset, .unset]) rfl (pc' := 26) rfl ?_
    refine s_iload S557 (hb hby at_26) rfl (pc' := 28) rfl ?_
    refine s_ifN S557 (hb hby at_28) (by decide) (pc' := 31) rfl ?_
    refine s_aload S557 (hb hby at_31) rfl rfl (pc' := 33) rfl ?_
    refine s_iloadN S557 (hb hby at_33) rfl (pc' := 34) rfl ?_
    refine s_iconst S557 (hb hby at_34) (v := (0 : Int32)) rfl (pc' := 35) rfl ?_
    refine s_iconst S557 (hb hby at_35) (v := (0 : Int32)) rfl (pc' := 36) rfl ?_
    refine s_aload S557 (hb hby at_36) rfl rfl (pc' := 38) rfl ?_
    refine s_iconst S557 (hb hby at_38) (v := (0 : Int32)) rfl (pc' := 39) rfl ?_
    refine s_iconst S557 (hb hby at_39) (v := (0 : Int32)) rfl (pc' := 40) rfl ?_
    show Go p e below _ (T557.setTop (mkF m 40 #[.val (.int k_), .val (.int p0), .val (.int p1), .val (.int p2), .val (.int fi), .val (.int en), .val (.int (3 : Int32)), .val (.int as_550), .val (.ref b551), .val (.ref b552), .unset, .unset] [(.int (0 : Int32)), (.int (0 : Int32)), (.ref b551), (.int (0 : Int32)), (.int (0 : Int32)), (.int p0), (.ref b552)]))
    refine g_virtual S557 (rmAC0 X p0 (0 : Int32) (0 : Int32) S557.old A0 V559) (fun _ q => nomatch q) (w46 hw) (w47 hw) (w49 hw) (w48 hw) (w3 hw) (w50 hw) (by decide) (fun _ h => notFace_of_selects h) (hb hby at_40) (by rw [hml]; rfl) b552 A0.1 [(.int p0), (.int (0 : Int32)), (.int (0 : Int32)), (.ref b551), (.int (0 : Int32)), (.int (0 : Int32))] (lenOf pd12 rfl) rfl rfl (Nat.le_of_ble_eq_true rfl) (Nat.le_of_ble_eq_true rfl) (Nat.le_of_ble_eq_true rfl) (Nat.le_of_ble_eq_true rfl) ?_
    intro v561 T561 V561 h561 S561 C561 q561
    obtain ⟨rfl, t1, kt1, Ac560, Vc560⟩ := q561
    show Go p e below _ (T561.setTop (mkF m 43 #[.val (.int k_), .val (.int p0), .val (.int p1), .val (.int p2), .val (.int fi), .val (.int en), .val (.int (3 : Int32)), .val (.int as_550), .val (.ref b551), .val (.ref b552), .unset, .unset] []))
    refine s_iload S561 (hb hby at_43) rfl (pc' := 45) rfl ?_
    refine s_iconst S561 (hb hby at_45) (v := (1 : Int32)) rfl (pc' := 46) rfl ?_
    refine s_icmpN S561 (hb hby at_46) (by decide) (pc' := 49) rfl ?_
    refine s_aload S561 (hb hby at_49) rfl rfl (pc' := 51) rfl ?_
    refine s_iloadN S561 (hb hby at_51) rfl (pc' := 52) rfl ?_
    refine s_iconst S561 (hb hby at_52) (v := (0 : Int32)) rfl (pc' := 53) rfl ?_
    refine s_iconst S561 (hb hby at_53) (v := (0 : Int32)) rfl (pc' := 54) rfl ?_
    refine s_aload S561 (hb hby at_54) rfl rfl (pc' := 56) rfl ?_
    refine s_iconst S561 (hb hby at_56) (v := (0 : Int32)) rfl (pc' := 57) rfl ?_
    refine s_iconst S561 (hb hby at_57) (v := (0 : Int32)) rfl (pc' := 58) rfl ?_
    show Go p e below _ (T561.setTop (mkF m 58 #[.val (.int k_), .val (.int p0), .val (.int p1), .val (.int p2), .val (.int fi), .val (.int en), .val (.int (3 : Int32)), .val (.int as_550), .val (.ref b551), .val (.ref b552), .unset, .unset] [(.int (0 : Int32)), (.int (0 : Int32)), (.ref b551), (.int (0 : Int32)), (.int (0 : Int32)), (.int p1), (.ref b552)]))
    refine g_virtual S561 (rmAC1 X p1 (0 : Int32) (0 : Int32) S561.old Ac560 Vc560) (fun _ q => nomatch q) (w46 hw) (w47 hw) (w49 hw) (w48 hw) (w3 hw) (w50 hw) (by decide) (fun _ h => notFace_of_selects h) (hb hby at_58) (by rw [hml]; rfl) b552 Ac560.1 [(.int p1), (.int (0 : Int32)), (.int (0 : Int32)), (.ref b551), (.int (0 : Int32)), (.int (0 : Int32))] (lenOf pd12 rfl) rfl rfl (Nat.le_of_ble_eq_true rfl) (Nat.le_of_ble_eq_true rfl) (Nat.le_of_ble_eq_true rfl) (Nat.le_of_ble_eq_true rfl) ?_
    intro v563 T563 V563 h563 S563 C563 q563
    obtain ⟨rfl, Ac562, Vc562⟩ := q563
    show Go p e below _ (T563.setTop (mkF m 61 #[.val (.int k_), .val (.int p0), .val (.int p1), .val (.int p2), .val (.int fi), .val (.int en), .val (.int (3 : Int32)), .val (.int as_550), .val (.ref b551), .val (.ref b552), .unset, .unset] []))
    refine s_iload S563 (hb hby at_61) rfl (pc' := 63) rfl ?_
    refine s_iconst S563 (hb hby at_63) (v := (2 : Int32)) rfl (pc' := 64) rfl ?_
    refine s_icmpN S563 (hb hby at_64) (by decide) (pc' := 67) rfl ?_
    refine s_aload S563 (hb hby at_67) rfl rfl (pc' := 69) rfl ?_
    refine s_iloadN S563 (hb hby at_69) rfl (pc' := 70) rfl ?_
    refine s_iconst S563 (hb hby at_70) (v := (0 : Int32)) rfl (pc' := 71) rfl ?_
    refine s_iconst S563 (hb hby at_71) (v := (0 : Int32)) rfl (pc' := 72) rfl ?_
    refine s_aload S563 (hb hby at_72) rfl rfl (pc' := 74) rfl ?_
    refine s_iconst S563 (hb hby at_74) (v := (0 : Int32)) rfl (pc' := 75) rfl ?_
    refine s_iconst S563 (hb hby at_75) (v := (0 : Int32)) rfl (pc' := 76) rfl ?_
    show Go p e below _ (T563.setTop (mkF m 76 #[.val (.int k_), .val (.int p0), .val (.int p1), .val (.int p2), .val (.int fi), .val (.int en), .val (.int (3 : Int32)), .val (.int as_550), .val (.ref b551), .val (.ref b552), .unset, .unset] [(.int (0 : Int32)), (.int (0 : Int32)), (.ref b551), (.int (0 : Int32)), (.int (0 : Int32)), (.int p2), (.ref b552)]))
    refine g_virtual S563 (rmAC2 X p2 (0 : Int32) (0 : Int32) S563.old Ac562 Vc562) (fun _ q => nomatch q) (w46 hw) (w47 hw) (w49 hw) (w48 hw) (w3 hw) (w50 hw) (by decide) (fun _ h => notFace_of_selects h) (hb hby at_76) (by rw [hml]; rfl) b552 Ac562.1 [(.int p2), (.int (0 : Int32)), (.int (0 : Int32)), (.ref b551), (.int (0 : Int32)), (.int (0 : Int32))] (lenOf pd12 rfl) rfl rfl (Nat.le_of_ble_eq_true rfl) (Nat.le_of_ble_eq_true rfl) (Nat.le_of_ble_eq_true rfl) (Nat.le_of_ble_eq_true rfl) ?_
    intro v565 T565 V565 h565 S565 C565 q565
    obtain ⟨rfl, Ac564, Vc564⟩ := q565
    show Go p e below _ (T565.setTop (mkF m 79 #[.val (.int k_), .val (.int p0), .val (.int p1), .val (.int p2), .val (.int fi), .val (.int en), .val (.int (3 : Int32)), .val (.int as_550), .val (.ref b551), .val (.ref b552), .unset, .unset] []))
    rcases own_as5 k_ as_550 eas_550 with rfl | rfl | rfl | rfl | rfl
    · skip
      show Go p e below _ (T565.setTop (mkF m 79 #[.val (.int k_), .val (.int p0), .val (.int p1), .val (.int p2), .val (.int fi), .val (.int en), .val (.int (3 : Int32)), .val (.int (0 : Int32)), .val (.ref b551), .val (.ref b552), .unset, .unset] []))
      refine s_aload S565 (hb hby at_79) rfl rfl (pc' := 81) rfl ?_
      refine s_iload S565 (hb hby at_81) rfl (pc' := 83) rfl ?_
      refine s_iload S565 (hb hby at_83) rfl (pc' := 85) rfl ?_
      refine s_iload S565 (hb hby at_85) rfl (pc' := 87) rfl ?_
      show Go p e below _ (T565.setTop (mkF m 87 #[.val (.int k_), .val (.int p0), .val (.int p1), .val (.int p2), .val (.int fi), .val (.int en), .val (.int (3 : Int32)), .val (.int (0 : Int32)), .val (.ref b551), .val (.ref b552), .unset, .unset] [(.int en), (.int fi), (.int (0 : Int32)), (.ref b552)]))
      refine g_virtual S565 (rmAF30 X S565.old Ac564) (fun _ q => nomatch q) (w35 hw) (w36 hw) (w38 hw) (w37 hw) (w3 hw) (w39 hw) (by decide) (fun _ h => notFace_of_selects h) (hb hby at_87) (by rw [hml]; rfl) b552 Ac564.1 [(.int (0 : Int32)), (.int fi), (.int en)] (lenOf pd11 rfl) rfl rfl (Nat.le_of_ble_eq_true rfl) (Nat.le_of_ble_eq_true rfl) (Nat.le_of_ble_eq_true rfl) (Nat.le_of_ble_eq_true rfl) ?_
      intro v567 T567 V567 h567 S567 C567 q567
      obtain ⟨r566, rfl, hr566, rfl⟩ := q567
      rcases hr566 with ⟨rfl, hz, -⟩ | ⟨rfl, ⟨a0, b0⟩, hz, -⟩ | ⟨rfl, ⟨a0, b0⟩, ⟨a1, b1⟩, hz, -⟩ | ⟨rfl, ⟨a0, b0⟩, ⟨a1, b1⟩, ⟨a2, b2⟩, -⟩
      · skip
        show Go p e below _ (T567.setTop (mkF m 90 #[.val (.int k_), .val (.int p0), .val (.int p1), .val (.int p2), .val (.int fi), .val (.int en), .val (.int (3 : Int32)), .val (.int (0 : Int32)), .val (.ref b551), .val (.ref b552), .unset, .unset] [(.int (0 : Int32))]))
        refine s_istore S567 (hb hby at_90) (L' := #[.val (.int k_), .val (.int p0), .val (.int p1), .val (.int p2), .val (.int fi), .val (.int en), .val (.int (3 : Int32)), .val (.int (0 : Int32)), .val (.ref b551), .val (.ref b552), .val (.int (0 : Int32)), .unset]) rfl (pc' := 92) rfl ?_
        refine s_iload S567 (hb hby at_92) rfl (pc' := 94) rfl ?_
        refine s_iload S567 (hb hby at_94) rfl (pc' := 96) rfl ?_
        refine s_icmpN S567 (hb hby at_96) (by decide) (pc' := 99) rfl ?_
        refine s_iload S567 (hb hby at_99) rfl (pc' := 101) rfl ?_
        refine s_iload S567 (hb hby at_101) rfl (pc' := 103) rfl ?_
        refine s_iload S567 (hb hby at_103) rfl (pc' := 105) rfl ?_
        show Go p e below _ (T567.setTop (mkF m 105 #[.val (.int k_), .val (.int p0), .val (.int p1), .val (.int p2), .val (.int fi), .val (.int en), .val (.int (3 : Int32)), .val (.int (0 : Int32)), .val (.ref b551), .val (.ref b552), .val (.int (0 : Int32)), .unset] [(.int (3 : Int32)), (.int (0 : Int32)), (.int (0 : Int32))]))
        refine g_static S567 (rmMX X (z := (3 : Int32)) (by decide) S567.old) (fun _ q => nomatch q) (w42 hw) (w43 hw) (w44 hw) (w45 hw) (by decide) (hb hby at_105) (by rw [hml]; rfl) [(.int (0 : Int32)), (.int (3 : Int32))] (lenOf pd7 rfl) rfl rfl (Nat.le_of_ble_eq_true rfl) (Nat.le_of_ble_eq_true rfl) (Nat.le_of_ble_eq_true rfl) (Nat.le_of_ble_eq_true rfl) ?_
        intro v568 T568 V568 h568 S568 C568 q568
        obtain ⟨rfl, rfl⟩ := q568
        show Go p e below _ (T568.setTop (mkF m 108 #[.val (.int k_), .val (.int p0), .val (.int p1), .val (.int p2), .val (.int fi), .val (.int en), .val (.int (3 : Int32)), .val (.int (0 : Int32)), .val (.ref b551), .val (.ref b552), .val (.int (0 : Int32)), .unset] [(.int (3 : Int32)), (.int (0 : Int32))]))
        refine s_icmpY S568 (hb hby at_108) (by decide) (by decide) (pcT := 113) (by decide) ?_
        refine s_iload S568 (hb hby at_113) rfl (pc' := 115) rfl ?_
        refine s_ifN S568 (hb hby at_115) (by decide) (pc' := 118) rfl ?_
        refine s_iconst S568 (hb hby at_118) (v := (0 : Int32)) rfl (pc' := 119) rfl ?_
        refine s_iload S568 (hb hby at_119) rfl (pc' := 121) rfl ?_
        refine s_icmpY S568 (hb hby at_121) (by decide) (by decide) (pcT := 137) (by decide) ?_
        refine s_iload S568 (hb hby at_137) rfl (pc' := 139) rfl ?_
        refine s_iconst S568 (hb hby at_139) (v := (1 : Int32)) rfl (pc' := 140) rfl ?_
        refine s_icmpN S568 (hb hby at_140) (by decide) (pc' := 143) rfl ?_
        refine s_iconst S568 (hb hby at_143) (v := (1 : Int32)) rfl (pc' := 144) rfl ?_
        refine s_iload S568 (hb hby at_144) rfl (pc' := 146) rfl ?_
        refine s_icmpY S568 (hb hby at_146) (by decide) (by decide) (pcT := 162) (by decide) ?_
        refine s_iload S568 (hb hby at_162) rfl (pc' := 164) rfl ?_
        refine s_iconst S568 (hb hby at_164) (v := (2 : Int32)) rfl (pc' := 165) rfl ?_
        refine s_icmpN S568 (hb hby at_165) (by decide) (pc' := 168) rfl ?_
        refine s_iconst S568 (hb hby at_168) (v := (2 : Int32)) rfl (pc' := 169) rfl ?_
        refine s_iload S568 (hb hby at_169) rfl (pc' := 171) rfl ?_
        refine s_icmpY S568 (hb hby at_171) (by decide) (by decide) (pcT := 187) (by decide) ?_
        refine s_iload S568 (hb hby at_187) rfl (pc' := 189) rfl ?_
        refine s_iload S568 (hb hby at_189) rfl (pc' := 191) rfl ?_
        refine s_icmpN S568 (hb hby at_191) (by decide) (pc' := 194) rfl ?_
        refine s_iload S568 (hb hby at_194) rfl (pc' := 196) rfl ?_
        refine s_ifN S568 (hb hby at_196) (by decide) (pc' := 199) rfl ?_
        refine s_iloadN S568 (hb hby at_199) rfl (pc' := 200) rfl ?_
        refine s_goto S568 (hb hby at_200) (by decide) (pcT := 214) (by decide) ?_
        refine s_istore S568 (hb hby at_214) (L' := #[.val (.int k_), .val (.int p0), .val (.int p1), .val (.int p2), .val (.int fi), .val (.int en), .val (.int (3 : Int32)), .val (.int (0 : Int32)), .val (.ref b551), .val (.ref b552), .val (.int (0 : Int32)), .val (.int p0)]) rfl (pc' := 216) rfl ?_
        refine s_iload S568 (hb hby at_216) rfl (pc' := 218) rfl ?_
        refine s_iload S568 (hb hby at_218) rfl (pc' := 220) rfl ?_
        refine s_iload S568 (hb hby at_220) rfl (pc' := 222) rfl ?_
        show Go p e below _ (T568.setTop (mkF m 222 #[.val (.int k_), .val (.int p0), .val (.int p1), .val (.int p2), .val (.int fi), .val (.int en), .val (.int (3 : Int32)), .val (.int (0 : Int32)), .val (.ref b551), .val (.ref b552), .val (.int (0 : Int32)), .val (.int p0)] [(.int en), (.int fi), (.int p0)]))
        refine g_static S568 (rmI0 X S568.old hz) (fun _ q => nomatch q) (w109 hw) (w110 hw) (w111 hw) (w112 hw) (by decide) (hb hby at_222) (by rw [hml]; rfl) [(.int p0), (.int fi), (.int en)] (lenOf pd13 rfl) rfl rfl (Nat.le_of_ble_eq_true rfl) (Nat.le_of_ble_eq_true rfl) (Nat.le_of_ble_eq_true rfl) (Nat.le_of_ble_eq_true rfl) ?_
        intro v569 T569 V569 h569 S569 C569 q569
        obtain ⟨rfl, rfl⟩ := q569
        show Go p e below _ (T569.setTop (mkF m 225 #[.val (.int k_), .val (.int p0), .val (.int p1), .val (.int p2), .val (.int fi), .val (.int en), .val (.int (3 : Int32)), .val (.int (0 : Int32)), .val (.ref b551), .val (.ref b552), .val (.int (0 : Int32)), .val (.int p0)] [(.int (0 : Int32))]))
        refine s_ifY S569 (hb hby at_225) (by decide) (by decide) (pcT := 230) (by decide) ?_
        refine s_iconst S569 (hb hby at_230) (v := (1 : Int32)) rfl (pc' := 231) rfl ?_
        exact g_iretN S569 (hb hby at_231) hret (by simp) ⟨rfl, trivial⟩
      · skip
        show Go p e below _ (T567.setTop (mkF m 90 #[.val (.int k_), .val (.int p0), .val (.int p1), .val (.int p2), .val (.int fi), .val (.int en), .val (.int (3 : Int32)), .val (.int (0 : Int32)), .val (.ref b551), .val (.ref b552), .unset, .unset] [(.int (1 : Int32))]))
        refine s_istore S567 (hb hby at_90) (L' := #[.val (.int k_), .val (.int p0), .val (.int p1), .val (.int p2), .val (.int fi), .val (.int en), .val (.int (3 : Int32)), .val (.int (0 : Int32)), .val (.ref b551), .val (.ref b552), .val (.int (1 : Int32)), .unset]) rfl (pc' := 92) rfl ?_
        refine s_iload S567 (hb hby at_92) rfl (pc' := 94) rfl ?_
        refine s_iload S567 (hb hby at_94) rfl (pc' := 96) rfl ?_
        refine s_icmpN S567 (hb hby at_96) (by decide) (pc' := 99) rfl ?_
        refine s_iload S567 (hb hby at_99) rfl (pc' := 101) rfl ?_
        refine s_iload S567 (hb hby at_101) rfl (pc' := 103) rfl ?_
        refine s_iload S567 (hb hby at_103) rfl (pc' := 105) rfl ?_
        show Go p e below _ (T567.setTop (mkF m 105 #[.val (.int k_), .val (.int p0), .val (.int p1), .val (.int p2), .val (.int fi), .val (.int en), .val (.int (3 : Int32)), .val (.int (0 : Int32)), .val (.ref b551), .val (.ref b552), .val (.int (1 : Int32)), .unset] [(.int (3 : Int32)), (.int (0 : Int32)), (.int (1 : Int32))]))
        refine g_static S567 (rmMX X (z := (3 : Int32)) (by decide) S567.old) (fun _ q => nomatch q) (w42 hw) (w43 hw) (w44 hw) (w45 hw) (by decide) (hb hby at_105) (by rw [hml]; rfl) [(.int (0 : Int32)), (.int (3 : Int32))] (lenOf pd7 rfl) rfl rfl (Nat.le_of_ble_eq_true rfl) (Nat.le_of_ble_eq_true rfl) (Nat.le_of_ble_eq_true rfl) (Nat.le_of_ble_eq_true rfl) ?_
        intro v570 T570 V570 h570 S570 C570 q570
        obtain ⟨rfl, rfl⟩ := q570
        show Go p e below _ (T570.setTop (mkF m 108 #[.val (.int k_), .val (.int p0), .val (.int p1), .val (.int p2), .val (.int fi), .val (.int en), .val (.int (3 : Int32)), .val (.int (0 : Int32)), .val (.ref b551), .val (.ref b552), .val (.int (1 : Int32)), .unset] [(.int (3 : Int32)), (.int (1 : Int32))]))
        refine s_icmpY S570 (hb hby at_108) (by decide) (by decide) (pcT := 113) (by decide) ?_
        refine s_iload S570 (hb hby at_113) rfl (pc' := 115) rfl ?_
        refine s_ifN S570 (hb hby at_115) (by decide) (pc' := 118) rfl ?_
        refine s_iconst S570 (hb hby at_118) (v := (0 : Int32)) rfl (pc' := 119) rfl ?_
        refine s_iload S570 (hb hby at_119) rfl (pc' := 121) rfl ?_
        refine s_icmpN S570 (hb hby at_121) (by decide) (pc' := 124) rfl ?_
        refine s_iloadN S570 (hb hby at_124) rfl (pc' := 125) rfl ?_
        refine s_iload S570 (hb hby at_125) rfl (pc' := 127) rfl ?_
        refine s_iload S570 (hb hby at_127) rfl (pc' := 129) rfl ?_
        show Go p e below _ (T570.setTop (mkF m 129 #[.val (.int k_), .val (.int p0), .val (.int p1), .val (.int p2), .val (.int fi), .val (.int en), .val (.int (3 : Int32)), .val (.int (0 : Int32)), .val (.ref b551), .val (.ref b552), .val (.int (1 : Int32)), .unset] [(.int en), (.int fi), (.int p0)]))
        refine g_static S570 (rmI1 X S570.old a0 b0) (fun _ q => nomatch q) (w109 hw) (w110 hw) (w111 hw) (w112 hw) (by decide) (hb hby at_129) (by rw [hml]; rfl) [(.int p0), (.int fi), (.int en)] (lenOf pd13 rfl) rfl rfl (Nat.le_of_ble_eq_true rfl) (Nat.le_of_ble_eq_true rfl) (Nat.le_of_ble_eq_true rfl) (Nat.le_of_ble_eq_true rfl) ?_
        intro v571 T571 V571 h571 S571 C571 q571
        obtain ⟨rfl, rfl⟩ := q571
        show Go p e below _ (T571.setTop (mkF m 132 #[.val (.int k_), .val (.int p0), .val (.int p1), .val (.int p2), .val (.int fi), .val (.int en), .val (.int (3 : Int32)), .val (.int (0 : Int32)), .val (.ref b551), .val (.ref b552), .val (.int (1 : Int32)), .unset] [(.int (1 : Int32))]))
        refine s_ifY S571 (hb hby at_132) (by decide) (by decide) (pcT := 137) (by decide) ?_
        refine s_iload S571 (hb hby at_137) rfl (pc' := 139) rfl ?_
        refine s_iconst S571 (hb hby at_139) (v := (1 : Int32)) rfl (pc' := 140) rfl ?_
        refine s_icmpN S571 (hb hby at_140) (by decide) (pc' := 143) rfl ?_
        refine s_iconst S571 (hb hby at_143) (v := (1 : Int32)) rfl (pc' := 144) rfl ?_
        refine s_iload S571 (hb hby at_144) rfl (pc' := 146) rfl ?_
        refine s_icmpY S571 (hb hby at_146) (by decide) (by decide) (pcT := 162) (by decide) ?_
        refine s_iload S571 (hb hby at_162) rfl (pc' := 164) rfl ?_
        refine s_iconst S571 (hb hby at_164) (v := (2 : Int32)) rfl (pc' := 165) rfl ?_
        refine s_icmpN S571 (hb hby at_165) (by decide) (pc' := 168) rfl ?_
        refine s_iconst S571 (hb hby at_168) (v := (2 : Int32)) rfl (pc' := 169) rfl ?_
        refine s_iload S571 (hb hby at_169) rfl (pc' := 171) rfl ?_
        refine s_icmpY S571 (hb hby at_171) (by decide) (by decide) (pcT := 187) (by decide) ?_
        refine s_iload S571 (hb hby at_187) rfl (pc' := 189) rfl ?_
        refine s_iload S571 (hb hby at_189) rfl (pc' := 191) rfl ?_
        refine s_icmpN S571 (hb hby at_191) (by decide) (pc' := 194) rfl ?_
        refine s_iload S571 (hb hby at_194) rfl (pc' := 196) rfl ?_
        refine s_ifY S571 (hb hby at_196) (by decide) (by decide) (pcT := 203) (by decide) ?_
        refine s_iload S571 (hb hby at_203) rfl (pc' := 205) rfl ?_
        refine s_iconst S571 (hb hby at_205) (v := (1 : Int32)) rfl (pc' := 206) rfl ?_
        refine s_icmpN S571 (hb hby at_206) (by decide) (pc' := 209) rfl ?_
        refine s_iloadN S571 (hb hby at_209) rfl (pc' := 210) rfl ?_
        refine s_goto S571 (hb hby at_210) (by decide) (pcT := 214) (by decide) ?_
        refine s_istore S571 (hb hby at_214) (L' := #[.val (.int k_), .val (.int p0), .val (.int p1), .val (.int p2), .val (.int fi), .val (.int en), .val (.int (3 : Int32)), .val (.int (0 : Int32)), .val (.ref b551), .val (.ref b552), .val (.int (1 : Int32)), .val (.int p1)]) rfl (pc' := 216) rfl ?_
        refine s_iload S571 (hb hby at_216) rfl (pc' := 218) rfl ?_
        refine s_iload S571 (hb hby at_218) rfl (pc' := 220) rfl ?_
        refine s_iload S571 (hb hby at_220) rfl (pc' := 222) rfl ?_
        show Go p e below _ (T571.setTop (mkF m 222 #[.val (.int k_), .val (.int p0), .val (.int p1), .val (.int p2), .val (.int fi), .val (.int en), .val (.int (3 : Int32)), .val (.int (0 : Int32)), .val (.ref b551), .val (.ref b552), .val (.int (1 : Int32)), .val (.int p1)] [(.int en), (.int fi), (.int p1)]))
        refine g_static S571 (rmI0 X S571.old hz) (fun _ q => nomatch q) (w109 hw) (w110 hw) (w111 hw) (w112 hw) (by decide) (hb hby at_222) (by rw [hml]; rfl) [(.int p1), (.int fi), (.int en)] (lenOf pd13 rfl) rfl rfl (Nat.le_of_ble_eq_true rfl) (Nat.le_of_ble_eq_true rfl) (Nat.le_of_ble_eq_true rfl) (Nat.le_of_ble_eq_true rfl) ?_
        intro v572 T572 V572 h572 S572 C572 q572
        obtain ⟨rfl, rfl⟩ := q572
        show Go p e below _ (T572.setTop (mkF m 225 #[.val (.int k_), .val (.int p0), .val (.int p1), .val (.int p2), .val (.int fi), .val (.int en), .val (.int (3 : Int32)), .val (.int (0 : Int32)), .val (.ref b551), .val (.ref b552), .val (.int (1 : Int32)), .val (.int p1)] [(.int (0 : Int32))]))
        refine s_ifY S572 (hb hby at_225) (by decide) (by decide) (pcT := 230) (by decide) ?_
        refine s_iconst S572 (hb hby at_230) (v := (1 : Int32)) rfl (pc' := 231) rfl ?_
        exact g_iretN S572 (hb hby at_231) hret (by simp) ⟨rfl, trivial⟩
      · skip
        show Go p e below _ (T567.setTop (mkF m 90 #[.val (.int k_), .val (.int p0), .val (.int p1), .val (.int p2), .val (.int fi), .val (.int en), .val (.int (3 : Int32)), .val (.int (0 : Int32)), .val (.ref b551), .val (.ref b552), .unset, .unset] [(.int (2 : Int32))]))
        refine s_istore S567 (hb hby at_90) (L' := #[.val (.int k_), .val (.int p0), .val (.int p1), .val (.int p2), .val (.int fi), .val (.int en), .val (.int (3 : Int32)), .val (.int (0 : Int32)), .val (.ref b551), .val (.ref b552), .val (.int (2 : Int32)), .unset]) rfl (pc' := 92) rfl ?_
        refine s_iload S567 (hb hby at_92) rfl (pc' := 94) rfl ?_
        refine s_iload S567 (hb hby at_94) rfl (pc' := 96) rfl ?_
        refine s_icmpN S567 (hb hby at_96) (by decide) (pc' := 99) rfl ?_
        refine s_iload S567 (hb hby at_99) rfl (pc' := 101) rfl ?_
        refine s_iload S567 (hb hby at_101) rfl (pc' := 103) rfl ?_
        refine s_iload S567 (hb hby at_103) rfl (pc' := 105) rfl ?_
        show Go p e below _ (T567.setTop (mkF m 105 #[.val (.int k_), .val (.int p0), .val (.int p1), .val (.int p2), .val (.int fi), .val (.int en), .val (.int (3 : Int32)), .val (.int (0 : Int32)), .val (.ref b551), .val (.ref b552), .val (.int (2 : Int32)), .unset] [(.int (3 : Int32)), (.int (0 : Int32)), (.int (2 : Int32))]))
        refine g_static S567 (rmMX X (z := (3 : Int32)) (by decide) S567.old) (fun _ q => nomatch q) (w42 hw) (w43 hw) (w44 hw) (w45 hw) (by decide) (hb hby at_105) (by rw [hml]; rfl) [(.int (0 : Int32)), (.int (3 : Int32))] (lenOf pd7 rfl) rfl rfl (Nat.le_of_ble_eq_true rfl) (Nat.le_of_ble_eq_true rfl) (Nat.le_of_ble_eq_true rfl) (Nat.le_of_ble_eq_true rfl) ?_
        intro v573 T573 V573 h573 S573 C573 q573
        obtain ⟨rfl, rfl⟩ := q573
        show Go p e below _ (T573.setTop (mkF m 108 #[.val (.int k_), .val (.int p0), .val (.int p1), .val (.int p2), .val (.int fi), .val (.int en), .val (.int (3 : Int32)), .val (.int (0 : Int32)), .val (.ref b551), .val (.ref b552), .val (.int (2 : Int32)), .unset] [(.int (3 : Int32)), (.int (2 : Int32))]))
        refine s_icmpY S573 (hb hby at_108) (by decide) (by decide) (pcT := 113) (by decide) ?_
        refine s_iload S573 (hb hby at_113) rfl (pc' := 115) rfl ?_
        refine s_ifN S573 (hb hby at_115) (by decide) (pc' := 118) rfl ?_
        refine s_iconst S573 (hb hby at_118) (v := (0 : Int32)) rfl (pc' := 119) rfl ?_
        refine s_iload S573 (hb hby at_119) rfl (pc' := 121) rfl ?_
        refine s_icmpN S573 (hb hby at_121) (by decide) (pc' := 124) rfl ?_
        refine s_iloadN S573 (hb hby at_124) rfl (pc' := 125) rfl ?_
        refine s_iload S573 (hb hby at_125) rfl (pc' := 127) rfl ?_
        refine s_iload S573 (hb hby at_127) rfl (pc' := 129) rfl ?_
        show Go p e below _ (T573.setTop (mkF m 129 #[.val (.int k_), .val (.int p0), .val (.int p1), .val (.int p2), .val (.int fi), .val (.int en), .val (.int (3 : Int32)), .val (.int (0 : Int32)), .val (.ref b551), .val (.ref b552), .val (.int (2 : Int32)), .unset] [(.int en), (.int fi), (.int p0)]))
        refine g_static S573 (rmI1 X S573.old a0 b0) (fun _ q => nomatch q) (w109 hw) (w110 hw) (w111 hw) (w112 hw) (by decide) (hb hby at_129) (by rw [hml]; rfl) [(.int p0), (.int fi), (.int en)] (lenOf pd13 rfl) rfl rfl (Nat.le_of_ble_eq_true rfl) (Nat.le_of_ble_eq_true rfl) (Nat.le_of_ble_eq_true rfl) (Nat.le_of_ble_eq_true rfl) ?_
        intro v574 T574 V574 h574 S574 C574 q574
        obtain ⟨rfl, rfl⟩ := q574
        show Go p e below _ (T574.setTop (mkF m 132 #[.val (.int k_), .val (.int p0), .val (.int p1), .val (.int p2), .val (.int fi), .val (.int en), .val (.int (3 : Int32)), .val (.int (0 : Int32)), .val (.ref b551), .val (.ref b552), .val (.int (2 : Int32)), .unset] [(.int (1 : Int32))]))
        refine s_ifY S574 (hb hby at_132) (by decide) (by decide) (pcT := 137) (by decide) ?_
        refine s_iload S574 (hb hby at_137) rfl (pc' := 139) rfl ?_
        refine s_iconst S574 (hb hby at_139) (v := (1 : Int32)) rfl (pc' := 140) rfl ?_
        refine s_icmpN S574 (hb hby at_140) (by decide) (pc' := 143) rfl ?_
        refine s_iconst S574 (hb hby at_143) (v := (1 : Int32)) rfl (pc' := 144) rfl ?_
        refine s_iload S574 (hb hby at_144) rfl (pc' := 146) rfl ?_
        refine s_icmpN S574 (hb hby at_146) (by decide) (pc' := 149) rfl ?_
        refine s_iloadN S574 (hb hby at_149) rfl (pc' := 150) rfl ?_
        refine s_iload S574 (hb hby at_150) rfl (pc' := 152) rfl ?_
        refine s_iload S574 (hb hby at_152) rfl (pc' := 154) rfl ?_
        show Go p e below _ (T574.setTop (mkF m 154 #[.val (.int k_), .val (.int p0), .val (.int p1), .val (.int p2), .val (.int fi), .val (.int en), .val (.int (3 : Int32)), .val (.int (0 : Int32)), .val (.ref b551), .val (.ref b552), .val (.int (2 : Int32)), .unset] [(.int en), (.int fi), (.int p1)]))
        refine g_static S574 (rmI1 X S574.old a1 b1) (fun _ q => nomatch q) (w109 hw) (w110 hw) (w111 hw) (w112 hw) (by decide) (hb hby at_154) (by rw [hml]; rfl) [(.int p1), (.int fi), (.int en)] (lenOf pd13 rfl) rfl rfl (Nat.le_of_ble_eq_true rfl) (Nat.le_of_ble_eq_true rfl) (Nat.le_of_ble_eq_true rfl) (Nat.le_of_ble_eq_true rfl) ?_
        intro v575 T575 V575 h575 S575 C575 q575
        obtain ⟨rfl, rfl⟩ := q575
        show Go p e below _ (T575.setTop (mkF m 157 #[.val (.int k_), .val (.int p0), .val (.int p1), .val (.int p2), .val (.int fi), .val (.int en), .val (.int (3 : Int32)), .val (.int (0 : Int32)), .val (.ref b551), .val (.ref b552), .val (.int (2 : Int32)), .unset] [(.int (1 : Int32))]))
        refine s_ifY S575 (hb hby at_157) (by decide) (by decide) (pcT := 162) (by decide) ?_
        refine s_iload S575 (hb hby at_162) rfl (pc' := 164) rfl ?_
        refine s_iconst S575 (hb hby at_164) (v := (2 : Int32)) rfl (pc' := 165) rfl ?_
        refine s_icmpN S575 (hb hby at_165) (by decide) (pc' := 168) rfl ?_
        refine s_iconst S575 (hb hby at_168) (v := (2 : Int32)) rfl (pc' := 169) rfl ?_
        refine s_iload S575 (hb hby at_169) rfl (pc' := 171) rfl ?_
        refine s_icmpY S575 (hb hby at_171) (by decide) (by decide) (pcT := 187) (by decide) ?_
        refine s_iload S575 (hb hby at_187) rfl (pc' := 189) rfl ?_
        refine s_iload S575 (hb hby at_189) rfl (pc' := 191) rfl ?_
        refine s_icmpN S575 (hb hby at_191) (by decide) (pc' := 194) rfl ?_
        refine s_iload S575 (hb hby at_194) rfl (pc' := 196) rfl ?_
        refine s_ifY S575 (hb hby at_196) (by decide) (by decide) (pcT := 203) (by decide) ?_
        refine s_iload S575 (hb hby at_203) rfl (pc' := 205) rfl ?_
        refine s_iconst S575 (hb hby at_205) (v := (1 : Int32)) rfl (pc' := 206) rfl ?_
        refine s_icmpY S575 (hb hby at_206) (by decide) (by decide) (pcT := 213) (by decide) ?_
        refine s_iloadN S575 (hb hby at_213) rfl (pc' := 214) rfl ?_
        refine s_istore S575 (hb hby at_214) (L' := #[.val (.int k_), .val (.int p0), .val (.int p1), .val (.int p2), .val (.int fi), .val (.int en), .val (.int (3 : Int32)), .val (.int (0 : Int32)), .val (.ref b551), .val (.ref b552), .val (.int (2 : Int32)), .val (.int p2)]) rfl (pc' := 216) rfl ?_
        refine s_iload S575 (hb hby at_216) rfl (pc' := 218) rfl ?_
        refine s_iload S575 (hb hby at_218) rfl (pc' := 220) rfl ?_
        refine s_iload S575 (hb hby at_220) rfl (pc' := 222) rfl ?_
        show Go p e below _ (T575.setTop (mkF m 222 #[.val (.int k_), .val (.int p0), .val (.int p1), .val (.int p2), .val (.int fi), .val (.int en), .val (.int (3 : Int32)), .val (.int (0 : Int32)), .val (.ref b551), .val (.ref b552), .val (.int (2 : Int32)), .val (.int p2)] [(.int en), (.int fi), (.int p2)]))
        refine g_static S575 (rmI0 X S575.old hz) (fun _ q => nomatch q) (w109 hw) (w110 hw) (w111 hw) (w112 hw) (by decide) (hb hby at_222) (by rw [hml]; rfl) [(.int p2), (.int fi), (.int en)] (lenOf pd13 rfl) rfl rfl (Nat.le_of_ble_eq_true rfl) (Nat.le_of_ble_eq_true rfl) (Nat.le_of_ble_eq_true rfl) (Nat.le_of_ble_eq_true rfl) ?_
        intro v576 T576 V576 h576 S576 C576 q576
        obtain ⟨rfl, rfl⟩ := q576
        show Go p e below _ (T576.setTop (mkF m 225 #[.val (.int k_), .val (.int p0), .val (.int p1), .val (.int p2), .val (.int fi), .val (.int en), .val (.int (3 : Int32)), .val (.int (0 : Int32)), .val (.ref b551), .val (.ref b552), .val (.int (2 : Int32)), .val (.int p2)] [(.int (0 : Int32))]))
        refine s_ifY S576 (hb hby at_225) (by decide) (by decide) (pcT := 230) (by decide) ?_
        refine s_iconst S576 (hb hby at_230) (v := (1 : Int32)) rfl (pc' := 231) rfl ?_
        exact g_iretN S576 (hb hby at_231) hret (by simp) ⟨rfl, trivial⟩
      · skip
        show Go p e below _ (T567.setTop (mkF m 90 #[.val (.int k_), .val (.int p0), .val (.int p1), .val (.int p2), .val (.int fi), .val (.int en), .val (.int (3 : Int32)), .val (.int (0 : Int32)), .val (.ref b551), .val (.ref b552), .unset, .unset] [(.int (3 : Int32))]))
        refine s_istore S567 (hb hby at_90) (L' := #[.val (.int k_), .val (.int p0), .val (.int p1), .val (.int p2), .val (.int fi), .val (.int en), .val (.int (3 : Int32)), .val (.int (0 : Int32)), .val (.ref b551), .val (.ref b552), .val (.int (3 : Int32)), .unset]) rfl (pc' := 92) rfl ?_
        refine s_iload S567 (hb hby at_92) rfl (pc' := 94) rfl ?_
        refine s_iload S567 (hb hby at_94) rfl (pc' := 96) rfl ?_
        refine s_icmpN S567 (hb hby at_96) (by decide) (pc' := 99) rfl ?_
        refine s_iload S567 (hb hby at_99) rfl (pc' := 101) rfl ?_
        refine s_iload S567 (hb hby at_101) rfl (pc' := 103) rfl ?_
        refine s_iload S567 (hb hby at_103) rfl (pc' := 105) rfl ?_
        show Go p e below _ (T567.setTop (mkF m 105 #[.val (.int k_), .val (.int p0), .val (.int p1), .val (.int p2), .val (.int fi), .val (.int en), .val (.int (3 : Int32)), .val (.int (0 : Int32)), .val (.ref b551), .val (.ref b552), .val (.int (3 : Int32)), .unset] [(.int (3 : Int32)), (.int (0 : Int32)), (.int (3 : Int32))]))
        refine g_static S567 (rmMX X (z := (3 : Int32)) (by decide) S567.old) (fun _ q => nomatch q) (w42 hw) (w43 hw) (w44 hw) (w45 hw) (by decide) (hb hby at_105) (by rw [hml]; rfl) [(.int (0 : Int32)), (.int (3 : Int32))] (lenOf pd7 rfl) rfl rfl (Nat.le_of_ble_eq_true rfl) (Nat.le_of_ble_eq_true rfl) (Nat.le_of_ble_eq_true rfl) (Nat.le_of_ble_eq_true rfl) ?_
        intro v577 T577 V577 h577 S577 C577 q577
        obtain ⟨rfl, rfl⟩ := q577
        show Go p e below _ (T577.setTop (mkF m 108 #[.val (.int k_), .val (.int p0), .val (.int p1), .val (.int p2), .val (.int fi), .val (.int en), .val (.int (3 : Int32)), .val (.int (0 : Int32)), .val (.ref b551), .val (.ref b552), .val (.int (3 : Int32)), .unset] [(.int (3 : Int32)), (.int (3 : Int32))]))
        refine s_icmpY S577 (hb hby at_108) (by decide) (by decide) (pcT := 113) (by decide) ?_
        refine s_iload S577 (hb hby at_113) rfl (pc' := 115) rfl ?_
        refine s_ifN S577 (hb hby at_115) (by decide) (pc' := 118) rfl ?_
        refine s_iconst S577 (hb hby at_118) (v := (0 : Int32)) rfl (pc' := 119) rfl ?_
        refine s_iload S577 (hb hby at_119) rfl (pc' := 121) rfl ?_
        refine s_icmpN S577 (hb hby at_121) (by decide) (pc' := 124) rfl ?_
        refine s_iloadN S577 (hb hby at_124) rfl (pc' := 125) rfl ?_
        refine s_iload S577 (hb hby at_125) rfl (pc' := 127) rfl ?_
        refine s_iload S577 (hb hby at_127) rfl (pc' := 129) rfl ?_
        show Go p e below _ (T577.setTop (mkF m 129 #[.val (.int k_), .val (.int p0), .val (.int p1), .val (.int p2), .val (.int fi), .val (.int en), .val (.int (3 : Int32)), .val (.int (0 : Int32)), .val (.ref b551), .val (.ref b552), .val (.int (3 : Int32)), .unset] [(.int en), (.int fi), (.int p0)]))
        refine g_static S577 (rmI1 X S577.old a0 b0) (fun _ q => nomatch q) (w109 hw) (w110 hw) (w111 hw) (w112 hw) (by decide) (hb hby at_129) (by rw [hml]; rfl) [(.int p0), (.int fi), (.int en)] (lenOf pd13 rfl) rfl rfl (Nat.le_of_ble_eq_true rfl) (Nat.le_of_ble_eq_true rfl) (Nat.le_of_ble_eq_true rfl) (Nat.le_of_ble_eq_true rfl) ?_
        intro v578 T578 V578 h578 S578 C578 q578
        obtain ⟨rfl, rfl⟩ := q578
        show Go p e below _ (T578.setTop (mkF m 132 #[.val (.int k_), .val (.int p0), .val (.int p1), .val (.int p2), .val (.int fi), .val (.int en), .val (.int (3 : Int32)), .val (.int (0 : Int32)), .val (.ref b551), .val (.ref b552), .val (.int (3 : Int32)), .unset] [(.int (1 : Int32))]))
        refine s_ifY S578 (hb hby at_132) (by decide) (by decide) (pcT := 137) (by decide) ?_
        refine s_iload S578 (hb hby at_137) rfl (pc' := 139) rfl ?_
        refine s_iconst S578 (hb hby at_139) (v := (1 : Int32)) rfl (pc' := 140) rfl ?_
        refine s_icmpN S578 (hb hby at_140) (by decide) (pc' := 143) rfl ?_
        refine s_iconst S578 (hb hby at_143) (v := (1 : Int32)) rfl (pc' := 144) rfl ?_
        refine s_iload S578 (hb hby at_144) rfl (pc' := 146) rfl ?_
        refine s_icmpN S578 (hb hby at_146) (by decide) (pc' := 149) rfl ?_
        refine s_iloadN S578 (hb hby at_149) rfl (pc' := 150) rfl ?_
        refine s_iload S578 (hb hby at_150) rfl (pc' := 152) rfl ?_
        refine s_iload S578 (hb hby at_152) rfl (pc' := 154) rfl ?_
        show Go p e below _ (T578.setTop (mkF m 154 #[.val (.int k_), .val (.int p0), .val (.int p1), .val (.int p2), .val (.int fi), .val (.int en), .val (.int (3 : Int32)), .val (.int (0 : Int32)), .val (.ref b551), .val (.ref b552), .val (.int (3 : Int32)), .unset] [(.int en), (.int fi), (.int p1)]))
        refine g_static S578 (rmI1 X S578.old a1 b1) (fun _ q => nomatch q) (w109 hw) (w110 hw) (w111 hw) (w112 hw) (by decide) (hb hby at_154) (by rw [hml]; rfl) [(.int p1), (.int fi), (.int en)] (lenOf pd13 rfl) rfl rfl (Nat.le_of_ble_eq_true rfl) (Nat.le_of_ble_eq_true rfl) (Nat.le_of_ble_eq_true rfl) (Nat.le_of_ble_eq_true rfl) ?_
        intro v579 T579 V579 h579 S579 C579 q579
        obtain ⟨rfl, rfl⟩ := q579
        show Go p e below _ (T579.setTop (mkF m 157 #[.val (.int k_), .val (.int p0), .val (.int p1), .val (.int p2), .val (.int fi), .val (.int en), .val (.int (3 : Int32)), .val (.int (0 : Int32)), .val (.ref b551), .val (.ref b552), .val (.int (3 : Int32)), .unset] [(.int (1 : Int32))]))
        refine s_ifY S579 (hb hby at_157) (by decide) (by decide) (pcT := 162) (by decide) ?_
        refine s_iload S579 (hb hby at_162) rfl (pc' := 164) rfl ?_
        refine s_iconst S579 (hb hby at_164) (v := (2 : Int32)) rfl (pc' := 165) rfl ?_
        refine s_icmpN S579 (hb hby at_165) (by decide) (pc' := 168) rfl ?_
        refine s_iconst S579 (hb hby at_168) (v := (2 : Int32)) rfl (pc' := 169) rfl ?_
        refine s_iload S579 (hb hby at_169) rfl (pc' := 171) rfl ?_
        refine s_icmpN S579 (hb hby at_171) (by decide) (pc' := 174) rfl ?_
        refine s_iloadN S579 (hb hby at_174) rfl (pc' := 175) rfl ?_
        refine s_iload S579 (hb hby at_175) rfl (pc' := 177) rfl ?_
        refine s_iload S579 (hb hby at_177) rfl (pc' := 179) rfl ?_
        show Go p e below _ (T579.setTop (mkF m 179 #[.val (.int k_), .val (.int p0), .val (.int p1), .val (.int p2), .val (.int fi), .val (.int en), .val (.int (3 : Int32)), .val (.int (0 : Int32)), .val (.ref b551), .val (.ref b552), .val (.int (3 : Int32)), .unset] [(.int en), (.int fi), (.int p2)]))
        refine g_static S579 (rmI1 X S579.old a2 b2) (fun _ q => nomatch q) (w109 hw) (w110 hw) (w111 hw) (w112 hw) (by decide) (hb hby at_179) (by rw [hml]; rfl) [(.int p2), (.int fi), (.int en)] (lenOf pd13 rfl) rfl rfl (Nat.le_of_ble_eq_true rfl) (Nat.le_of_ble_eq_true rfl) (Nat.le_of_ble_eq_true rfl) (Nat.le_of_ble_eq_true rfl) ?_
        intro v580 T580 V580 h580 S580 C580 q580
        obtain ⟨rfl, rfl⟩ := q580
        show Go p e below _ (T580.setTop (mkF m 182 #[.val (.int k_), .val (.int p0), .val (.int p1), .val (.int p2), .val (.int fi), .val (.int en), .val (.int (3 : Int32)), .val (.int (0 : Int32)), .val (.ref b551), .val (.ref b552), .val (.int (3 : Int32)), .unset] [(.int (1 : Int32))]))
        refine s_ifY S580 (hb hby at_182) (by decide) (by decide) (pcT := 187) (by decide) ?_
        refine s_iload S580 (hb hby at_187) rfl (pc' := 189) rfl ?_
        refine s_iload S580 (hb hby at_189) rfl (pc' := 191) rfl ?_
        refine s_icmpY S580 (hb hby at_191) (by decide) (by decide) (pcT := 230) (by decide) ?_
        refine s_iconst S580 (hb hby at_230) (v := (1 : Int32)) rfl (pc' := 231) rfl ?_
        exact g_iretN S580 (hb hby at_231) hret (by simp) ⟨rfl, trivial⟩
    · skip
      show Go p e below _ (T565.setTop (mkF m 79 #[.val (.int k_), .val (.int p0), .val (.int p1), .val (.int p2), .val (.int fi), .val (.int en), .val (.int (3 : Int32)), .val (.int (1 : Int32)), .val (.ref b551), .val (.ref b552), .unset, .unset] []))
      refine s_aload S565 (hb hby at_79) rfl rfl (pc' := 81) rfl ?_
      refine s_iload S565 (hb hby at_81) rfl (pc' := 83) rfl ?_
      refine s_iload S565 (hb hby at_83) rfl (pc' := 85) rfl ?_
      refine s_iload S565 (hb hby at_85) rfl (pc' := 87) rfl ?_
      show Go p e below _ (T565.setTop (mkF m 87 #[.val (.int k_), .val (.int p0), .val (.int p1), .val (.int p2), .val (.int fi), .val (.int en), .val (.int (3 : Int32)), .val (.int (1 : Int32)), .val (.ref b551), .val (.ref b552), .unset, .unset] [(.int en), (.int fi), (.int (1 : Int32)), (.ref b552)]))
      refine g_virtual S565 (rmAF31 X S565.old Ac564) (fun _ q => nomatch q) (w35 hw) (w36 hw) (w38 hw) (w37 hw) (w3 hw) (w39 hw) (by decide) (fun _ h => notFace_of_selects h) (hb hby at_87) (by rw [hml]; rfl) b552 Ac564.1 [(.int (1 : Int32)), (.int fi), (.int en)] (lenOf pd11 rfl) rfl rfl (Nat.le_of_ble_eq_true rfl) (Nat.le_of_ble_eq_true rfl) (Nat.le_of_ble_eq_true rfl) (Nat.le_of_ble_eq_true rfl) ?_
      intro v582 T582 V582 h582 S582 C582 q582
      obtain ⟨r581, rfl, hr581, rfl⟩ := q582
      rcases hr581 with ⟨rfl, hz, -⟩ | ⟨rfl, ⟨a1, b1⟩, hz, -⟩ | ⟨rfl, ⟨a1, b1⟩, ⟨a2, b2⟩, -⟩
      · skip
        show Go p e below _ (T582.setTop (mkF m 90 #[.val (.int k_), .val (.int p0), .val (.int p1), .val (.int p2), .val (.int fi), .val (.int en), .val (.int (3 : Int32)), .val (.int (1 : Int32)), .val (.ref b551), .val (.ref b552), .unset, .unset] [(.int (1 : Int32))]))
        refine s_istore S582 (hb hby at_90) (L' := #[.val (.int k_), .val (.int p0), .val (.int p1), .val (.int p2), .val (.int fi), .val (.int en), .val (.int (3 : Int32)), .val (.int (1 : Int32)), .val (.ref b551), .val (.ref b552), .val (.int (1 : Int32)), .unset]) rfl (pc' := 92) rfl ?_
        refine s_iload S582 (hb hby at_92) rfl (pc' := 94) rfl ?_
        refine s_iload S582 (hb hby at_94) rfl (pc' := 96) rfl ?_
        refine s_icmpN S582 (hb hby at_96) (by decide) (pc' := 99) rfl ?_
        refine s_iload S582 (hb hby at_99) rfl (pc' := 101) rfl ?_
        refine s_iload S582 (hb hby at_101) rfl (pc' := 103) rfl ?_
        refine s_iload S582 (hb hby at_103) rfl (pc' := 105) rfl ?_
        show Go p e below _ (T582.setTop (mkF m 105 #[.val (.int k_), .val (.int p0), .val (.int p1), .val (.int p2), .val (.int fi), .val (.int en), .val (.int (3 : Int32)), .val (.int (1 : Int32)), .val (.ref b551), .val (.ref b552), .val (.int (1 : Int32)), .unset] [(.int (3 : Int32)), (.int (1 : Int32)), (.int (1 : Int32))]))
        refine g_static S582 (rmMX X (z := (3 : Int32)) (by decide) S582.old) (fun _ q => nomatch q) (w42 hw) (w43 hw) (w44 hw) (w45 hw) (by decide) (hb hby at_105) (by rw [hml]; rfl) [(.int (1 : Int32)), (.int (3 : Int32))] (lenOf pd7 rfl) rfl rfl (Nat.le_of_ble_eq_true rfl) (Nat.le_of_ble_eq_true rfl) (Nat.le_of_ble_eq_true rfl) (Nat.le_of_ble_eq_true rfl) ?_
        intro v583 T583 V583 h583 S583 C583 q583
        obtain ⟨rfl, rfl⟩ := q583
        show Go p e below _ (T583.setTop (mkF m 108 #[.val (.int k_), .val (.int p0), .val (.int p1), .val (.int p2), .val (.int fi), .val (.int en), .val (.int (3 : Int32)), .val (.int (1 : Int32)), .val (.ref b551), .val (.ref b552), .val (.int (1 : Int32)), .unset] [(.int (3 : Int32)), (.int (1 : Int32))]))
        refine s_icmpY S583 (hb hby at_108) (by decide) (by decide) (pcT := 113) (by decide) ?_
        refine s_iload S583 (hb hby at_113) rfl (pc' := 115) rfl ?_
        refine s_ifY S583 (hb hby at_115) (by decide) (by decide) (pcT := 137) (by decide) ?_
        refine s_iload S583 (hb hby at_137) rfl (pc' := 139) rfl ?_
        refine s_iconst S583 (hb hby at_139) (v := (1 : Int32)) rfl (pc' := 140) rfl ?_
        refine s_icmpN S583 (hb hby at_140) (by decide) (pc' := 143) rfl ?_
        refine s_iconst S583 (hb hby at_143) (v := (1 : Int32)) rfl (pc' := 144) rfl ?_
        refine s_iload S583 (hb hby at_144) rfl (pc' := 146) rfl ?_
        refine s_icmpY S583 (hb hby at_146) (by decide) (by decide) (pcT := 162) (by decide) ?_
        refine s_iload S583 (hb hby at_162) rfl (pc' := 164) rfl ?_
        refine s_iconst S583 (hb hby at_164) (v := (2 : Int32)) rfl (pc' := 165) rfl ?_
        refine s_icmpN S583 (hb hby at_165) (by decide) (pc' := 168) rfl ?_
        refine s_iconst S583 (hb hby at_168) (v := (2 : Int32)) rfl (pc' := 169) rfl ?_
        refine s_iload S583 (hb hby at_169) rfl (pc' := 171) rfl ?_
        refine s_icmpY S583 (hb hby at_171) (by decide) (by decide) (pcT := 187) (by decide) ?_
        refine s_iload S583 (hb hby at_187) rfl (pc' := 189) rfl ?_
        refine s_iload S583 (hb hby at_189) rfl (pc' := 191) rfl ?_
        refine s_icmpN S583 (hb hby at_191) (by decide) (pc' := 194) rfl ?_
        refine s_iload S583 (hb hby at_194) rfl (pc' := 196) rfl ?_
        refine s_ifY S583 (hb hby at_196) (by decide) (by decide) (pcT := 203) (by decide) ?_
        refine s_iload S583 (hb hby at_203) rfl (pc' := 205) rfl ?_
        refine s_iconst S583 (hb hby at_205) (v := (1 : Int32)) rfl (pc' := 206) rfl ?_
        refine s_icmpN S583 (hb hby at_206) (by decide) (pc' := 209) rfl ?_
        refine s_iloadN S583 (hb hby at_209) rfl (pc' := 210) rfl ?_
        refine s_goto S583 (hb hby at_210) (by decide) (pcT := 214) (by decide) ?_
        refine s_istore S583 (hb hby at_214) (L' := #[.val (.int k_), .val (.int p0), .val (.int p1), .val (.int p2), .val (.int fi), .val (.int en), .val (.int (3 : Int32)), .val (.int (1 : Int32)), .val (.ref b551), .val (.ref b552), .val (.int (1 : Int32)), .val (.int p1)]) rfl (pc' := 216) rfl ?_
        refine s_iload S583 (hb hby at_216) rfl (pc' := 218) rfl ?_
        refine s_iload S583 (hb hby at_218) rfl (pc' := 220) rfl ?_
        refine s_iload S583 (hb hby at_220) rfl (pc' := 222) rfl ?_
        show Go p e below _ (T583.setTop (mkF m 222 #[.val (.int k_), .val (.int p0), .val (.int p1), .val (.int p2), .val (.int fi), .val (.int en), .val (.int (3 : Int32)), .val (.int (1 : Int32)), .val (.ref b551), .val (.ref b552), .val (.int (1 : Int32)), .val (.int p1)] [(.int en), (.int fi), (.int p1)]))
        refine g_static S583 (rmI0 X S583.old hz) (fun _ q => nomatch q) (w109 hw) (w110 hw) (w111 hw) (w112 hw) (by decide) (hb hby at_222) (by rw [hml]; rfl) [(.int p1), (.int fi), (.int en)] (lenOf pd13 rfl) rfl rfl (Nat.le_of_ble_eq_true rfl) (Nat.le_of_ble_eq_true rfl) (Nat.le_of_ble_eq_true rfl) (Nat.le_of_ble_eq_true rfl) ?_
        intro v584 T584 V584 h584 S584 C584 q584
        obtain ⟨rfl, rfl⟩ := q584
        show Go p e below _ (T584.setTop (mkF m 225 #[.val (.int k_), .val (.int p0), .val (.int p1), .val (.int p2), .val (.int fi), .val (.int en), .val (.int (3 : Int32)), .val (.int (1 : Int32)), .val (.ref b551), .val (.ref b552), .val (.int (1 : Int32)), .val (.int p1)] [(.int (0 : Int32))]))
        refine s_ifY S584 (hb hby at_225) (by decide) (by decide) (pcT := 230) (by decide) ?_
        refine s_iconst S584 (hb hby at_230) (v := (1 : Int32)) rfl (pc' := 231) rfl ?_
        exact g_iretN S584 (hb hby at_231) hret (by simp) ⟨rfl, trivial⟩
      · skip
        show Go p e below _ (T582.setTop (mkF m 90 #[.val (.int k_), .val (.int p0), .val (.int p1), .val (.int p2), .val (.int fi), .val (.int en), .val (.int (3 : Int32)), .val (.int (1 : Int32)), .val (.ref b551), .val (.ref b552), .unset, .unset] [(.int (2 : Int32))]))
        refine s_istore S582 (hb hby at_90) (L' := #[.val (.int k_), .val (.int p0), .val (.int p1), .val (.int p2), .val (.int fi), .val (.int en), .val (.int (3 : Int32)), .val (.int (1 : Int32)), .val (.ref b551), .val (.ref b552), .val (.int (2 : Int32)), .unset]) rfl (pc' := 92) rfl ?_
        refine s_iload S582 (hb hby at_92) rfl (pc' := 94) rfl ?_
        refine s_iload S582 (hb hby at_94) rfl (pc' := 96) rfl ?_
        refine s_icmpN S582 (hb hby at_96) (by decide) (pc' := 99) rfl ?_
        refine s_iload S582 (hb hby at_99) rfl (pc' := 101) rfl ?_
        refine s_iload S582 (hb hby at_101) rfl (pc' := 103) rfl ?_
        refine s_iload S582 (hb hby at_103) rfl (pc' := 105) rfl ?_
        show Go p e below _ (T582.setTop (mkF m 105 #[.val (.int k_), .val (.int p0), .val (.int p1), .val (.int p2), .val (.int fi), .val (.int en), .val (.int (3 : Int32)), .val (.int (1 : Int32)), .val (.ref b551), .val (.ref b552), .val (.int (2 : Int32)), .unset] [(.int (3 : Int32)), (.int (1 : Int32)), (.int (2 : Int32))]))
        refine g_static S582 (rmMX X (z := (3 : Int32)) (by decide) S582.old) (fun _ q => nomatch q) (w42 hw) (w43 hw) (w44 hw) (w45 hw) (by decide) (hb hby at_105) (by rw [hml]; rfl) [(.int (1 : Int32)), (.int (3 : Int32))] (lenOf pd7 rfl) rfl rfl (Nat.le_of_ble_eq_true rfl) (Nat.le_of_ble_eq_true rfl) (Nat.le_of_ble_eq_true rfl) (Nat.le_of_ble_eq_true rfl) ?_
        intro v585 T585 V585 h585 S585 C585 q585
        obtain ⟨rfl, rfl⟩ := q585
        show Go p e below _ (T585.setTop (mkF m 108 #[.val (.int k_), .val (.int p0), .val (.int p1), .val (.int p2), .val (.int fi), .val (.int en), .val (.int (3 : Int32)), .val (.int (1 : Int32)), .val (.ref b551), .val (.ref b552), .val (.int (2 : Int32)), .unset] [(.int (3 : Int32)), (.int (2 : Int32))]))
        refine s_icmpY S585 (hb hby at_108) (by decide) (by decide) (pcT := 113) (by decide) ?_
        refine s_iload S585 (hb hby at_113) rfl (pc' := 115) rfl ?_
        refine s_ifY S585 (hb hby at_115) (by decide) (by decide) (pcT := 137) (by decide) ?_
        refine s_iload S585 (hb hby at_137) rfl (pc' := 139) rfl ?_
        refine s_iconst S585 (hb hby at_139) (v := (1 : Int32)) rfl (pc' := 140) rfl ?_
        refine s_icmpN S585 (hb hby at_140) (by decide) (pc' := 143) rfl ?_
        refine s_iconst S585 (hb hby at_143) (v := (1 : Int32)) rfl (pc' := 144) rfl ?_
        refine s_iload S585 (hb hby at_144) rfl (pc' := 146) rfl ?_
        refine s_icmpN S585 (hb hby at_146) (by decide) (pc' := 149) rfl ?_
        refine s_iloadN S585 (hb hby at_149) rfl (pc' := 150) rfl ?_
        refine s_iload S585 (hb hby at_150) rfl (pc' := 152) rfl ?_
        refine s_iload S585 (hb hby at_152) rfl (pc' := 154) rfl ?_
        show Go p e below _ (T585.setTop (mkF m 154 #[.val (.int k_), .val (.int p0), .val (.int p1), .val (.int p2), .val (.int fi), .val (.int en), .val (.int (3 : Int32)), .val (.int (1 : Int32)), .val (.ref b551), .val (.ref b552), .val (.int (2 : Int32)), .unset] [(.int en), (.int fi), (.int p1)]))
        refine g_static S585 (rmI1 X S585.old a1 b1) (fun _ q => nomatch q) (w109 hw) (w110 hw) (w111 hw) (w112 hw) (by decide) (hb hby at_154) (by rw [hml]; rfl) [(.int p1), (.int fi), (.int en)] (lenOf pd13 rfl) rfl rfl (Nat.le_of_ble_eq_true rfl) (Nat.le_of_ble_eq_true rfl) (Nat.le_of_ble_eq_true rfl) (Nat.le_of_ble_eq_true rfl) ?_
        intro v586 T586 V586 h586 S586 C586 q586
        obtain ⟨rfl, rfl⟩ := q586
        show Go p e below _ (T586.setTop (mkF m 157 #[.val (.int k_), .val (.int p0), .val (.int p1), .val (.int p2), .val (.int fi), .val (.int en), .val (.int (3 : Int32)), .val (.int (1 : Int32)), .val (.ref b551), .val (.ref b552), .val (.int (2 : Int32)), .unset] [(.int (1 : Int32))]))
        refine s_ifY S586 (hb hby at_157) (by decide) (by decide) (pcT := 162) (by decide) ?_
        refine s_iload S586 (hb hby at_162) rfl (pc' := 164) rfl ?_
        refine s_iconst S586 (hb hby at_164) (v := (2 : Int32)) rfl (pc' := 165) rfl ?_
        refine s_icmpN S586 (hb hby at_165) (by decide) (pc' := 168) rfl ?_
        refine s_iconst S586 (hb hby at_168) (v := (2 : Int32)) rfl (pc' := 169) rfl ?_
        refine s_iload S586 (hb hby at_169) rfl (pc' := 171) rfl ?_
        refine s_icmpY S586 (hb hby at_171) (by decide) (by decide) (pcT := 187) (by decide) ?_
        refine s_iload S586 (hb hby at_187) rfl (pc' := 189) rfl ?_
        refine s_iload S586 (hb hby at_189) rfl (pc' := 191) rfl ?_
        refine s_icmpN S586 (hb hby at_191) (by decide) (pc' := 194) rfl ?_
        refine s_iload S586 (hb hby at_194) rfl (pc' := 196) rfl ?_
        refine s_ifY S586 (hb hby at_196) (by decide) (by decide) (pcT := 203) (by decide) ?_
        refine s_iload S586 (hb hby at_203) rfl (pc' := 205) rfl ?_
        refine s_iconst S586 (hb hby at_205) (v := (1 : Int32)) rfl (pc' := 206) rfl ?_
        refine s_icmpY S586 (hb hby at_206) (by decide) (by decide) (pcT := 213) (by decide) ?_
        refine s_iloadN S586 (hb hby at_213) rfl (pc' := 214) rfl ?_
        refine s_istore S586 (hb hby at_214) (L' := #[.val (.int k_), .val (.int p0), .val (.int p1), .val (.int p2), .val (.int fi), .val (.int en), .val (.int (3 : Int32)), .val (.int (1 : Int32)), .val (.ref b551), .val (.ref b552), .val (.int (2 : Int32)), .val (.int p2)]) rfl (pc' := 216) rfl ?_
        refine s_iload S586 (hb hby at_216) rfl (pc' := 218) rfl ?_
        refine s_iload S586 (hb hby at_218) rfl (pc' := 220) rfl ?_
        refine s_iload S586 (hb hby at_220) rfl (pc' := 222) rfl ?_
        show Go p e below _ (T586.setTop (mkF m 222 #[.val (.int k_), .val (.int p0), .val (.int p1), .val (.int p2), .val (.int fi), .val (.int en), .val (.int (3 : Int32)), .val (.int (1 : Int32)), .val (.ref b551), .val (.ref b552), .val (.int (2 : Int32)), .val (.int p2)] [(.int en), (.int fi), (.int p2)]))
        refine g_static S586 (rmI0 X S586.old hz) (fun _ q => nomatch q) (w109 hw) (w110 hw) (w111 hw) (w112 hw) (by decide) (hb hby at_222) (by rw [hml]; rfl) [(.int p2), (.int fi), (.int en)] (lenOf pd13 rfl) rfl rfl (Nat.le_of_ble_eq_true rfl) (Nat.le_of_ble_eq_true rfl) (Nat.le_of_ble_eq_true rfl) (Nat.le_of_ble_eq_true rfl) ?_
        intro v587 T587 V587 h587 S587 C587 q587
        obtain ⟨rfl, rfl⟩ := q587
        show Go p e below _ (T587.setTop (mkF m 225 #[.val (.int k_), .val (.int p0), .val (.int p1), .val (.int p2), .val (.int fi), .val (.int en), .val (.int (3 : Int32)), .val (.int (1 : Int32)), .val (.ref b551), .val (.ref b552), .val (.int (2 : Int32)), .val (.int p2)] [(.int (0 : Int32))]))
        refine s_ifY S587 (hb hby at_225) (by decide) (by decide) (pcT := 230) (by decide) ?_
        refine s_iconst S587 (hb hby at_230) (v := (1 : Int32)) rfl (pc' := 231) rfl ?_
        exact g_iretN S587 (hb hby at_231) hret (by simp) ⟨rfl, trivial⟩
      · skip
        show Go p e below _ (T582.setTop (mkF m 90 #[.val (.int k_), .val (.int p0), .val (.int p1), .val (.int p2), .val (.int fi), .val (.int en), .val (.int (3 : Int32)), .val (.int (1 : Int32)), .val (.ref b551), .val (.ref b552), .unset, .unset] [(.int (3 : Int32))]))
        refine s_istore S582 (hb hby at_90) (L' := #[.val (.int k_), .val (.int p0), .val (.int p1), .val (.int p2), .val (.int fi), .val (.int en), .val (.int (3 : Int32)), .val (.int (1 : Int32)), .val (.ref b551), .val (.ref b552), .val (.int (3 : Int32)), .unset]) rfl (pc' := 92) rfl ?_
        refine s_iload S582 (hb hby at_92) rfl (pc' := 94) rfl ?_
        refine s_iload S582 (hb hby at_94) rfl (pc' := 96) rfl ?_
        refine s_icmpN S582 (hb hby at_96) (by decide) (pc' := 99) rfl ?_
        refine s_iload S582 (hb hby at_99) rfl (pc' := 101) rfl ?_
        refine s_iload S582 (hb hby at_101) rfl (pc' := 103) rfl ?_
        refine s_iload S582 (hb hby at_103) rfl (pc' := 105) rfl ?_
        show Go p e below _ (T582.setTop (mkF m 105 #[.val (.int k_), .val (.int p0), .val (.int p1), .val (.int p2), .val (.int fi), .val (.int en), .val (.int (3 : Int32)), .val (.int (1 : Int32)), .val (.ref b551), .val (.ref b552), .val (.int (3 : Int32)), .unset] [(.int (3 : Int32)), (.int (1 : Int32)), (.int (3 : Int32))]))
        refine g_static S582 (rmMX X (z := (3 : Int32)) (by decide) S582.old) (fun _ q => nomatch q) (w42 hw) (w43 hw) (w44 hw) (w45 hw) (by decide) (hb hby at_105) (by rw [hml]; rfl) [(.int (1 : Int32)), (.int (3 : Int32))] (lenOf pd7 rfl) rfl rfl (Nat.le_of_ble_eq_true rfl) (Nat.le_of_ble_eq_true rfl) (Nat.le_of_ble_eq_true rfl) (Nat.le_of_ble_eq_true rfl) ?_
        intro v588 T588 V588 h588 S588 C588 q588
        obtain ⟨rfl, rfl⟩ := q588
        show Go p e below _ (T588.setTop (mkF m 108 #[.val (.int k_), .val (.int p0), .val (.int p1), .val (.int p2), .val (.int fi), .val (.int en), .val (.int (3 : Int32)), .val (.int (1 : Int32)), .val (.ref b551), .val (.ref b552), .val (.int (3 : Int32)), .unset] [(.int (3 : Int32)), (.int (3 : Int32))]))
        refine s_icmpY S588 (hb hby at_108) (by decide) (by decide) (pcT := 113) (by decide) ?_
        refine s_iload S588 (hb hby at_113) rfl (pc' := 115) rfl ?_
        refine s_ifY S588 (hb hby at_115) (by decide) (by decide) (pcT := 137) (by decide) ?_
        refine s_iload S588 (hb hby at_137) rfl (pc' := 139) rfl ?_
        refine s_iconst S588 (hb hby at_139) (v := (1 : Int32)) rfl (pc' := 140) rfl ?_
        refine s_icmpN S588 (hb hby at_140) (by decide) (pc' := 143) rfl ?_
        refine s_iconst S588 (hb hby at_143) (v := (1 : Int32)) rfl (pc' := 144) rfl ?_
        refine s_iload S588 (hb hby at_144) rfl (pc' := 146) rfl ?_
        refine s_icmpN S588 (hb hby at_146) (by decide) (pc' := 149) rfl ?_
        refine s_iloadN S588 (hb hby at_149) rfl (pc' := 150) rfl ?_
        refine s_iload S588 (hb hby at_150) rfl (pc' := 152) rfl ?_
        refine s_iload S588 (hb hby at_152) rfl (pc' := 154) rfl ?_
        show Go p e below _ (T588.setTop (mkF m 154 #[.val (.int k_), .val (.int p0), .val (.int p1), .val (.int p2), .val (.int fi), .val (.int en), .val (.int (3 : Int32)), .val (.int (1 : Int32)), .val (.ref b551), .val (.ref b552), .val (.int (3 : Int32)), .unset] [(.int en), (.int fi), (.int p1)]))
        refine g_static S588 (rmI1 X S588.old a1 b1) (fun _ q => nomatch q) (w109 hw) (w110 hw) (w111 hw) (w112 hw) (by decide) (hb hby at_154) (by rw [hml]; rfl) [(.int p1), (.int fi), (.int en)] (lenOf pd13 rfl) rfl rfl (Nat.le_of_ble_eq_true rfl) (Nat.le_of_ble_eq_true rfl) (Nat.le_of_ble_eq_true rfl) (Nat.le_of_ble_eq_true rfl) ?_
        intro v589 T589 V589 h589 S589 C589 q589
        obtain ⟨rfl, rfl⟩ := q589
        show Go p e below _ (T589.setTop (mkF m 157 #[.val (.int k_), .val (.int p0), .val (.int p1), .val (.int p2), .val (.int fi), .val (.int en), .val (.int (3 : Int32)), .val (.int (1 : Int32)), .val (.ref b551), .val (.ref b552), .val (.int (3 : Int32)), .unset] [(.int (1 : Int32))]))
        refine s_ifY S589 (hb hby at_157) (by decide) (by decide) (pcT := 162) (by decide) ?_
        refine s_iload S589 (hb hby at_162) rfl (pc' := 164) rfl ?_
        refine s_iconst S589 (hb hby at_164) (v := (2 : Int32)) rfl (pc' := 165) rfl ?_
        refine s_icmpN S589 (hb hby at_165) (by decide) (pc' := 168) rfl ?_
        refine s_iconst S589 (hb hby at_168) (v := (2 : Int32)) rfl (pc' := 169) rfl ?_
        refine s_iload S589 (hb hby at_169) rfl (pc' := 171) rfl ?_
        refine s_icmpN S589 (hb hby at_171) (by decide) (pc' := 174) rfl ?_
        refine s_iloadN S589 (hb hby at_174) rfl (pc' := 175) rfl ?_
        refine s_iload S589 (hb hby at_175) rfl (pc' := 177) rfl ?_
        refine s_iload S589 (hb hby at_177) rfl (pc' := 179) rfl ?_
        show Go p e below _ (T589.setTop (mkF m 179 #[.val (.int k_), .val (.int p0), .val (.int p1), .val (.int p2), .val (.int fi), .val (.int en), .val (.int (3 : Int32)), .val (.int (1 : Int32)), .val (.ref b551), .val (.ref b552), .val (.int (3 : Int32)), .unset] [(.int en), (.int fi), (.int p2)]))
        refine g_static S589 (rmI1 X S589.old a2 b2) (fun _ q => nomatch q) (w109 hw) (w110 hw) (w111 hw) (w112 hw) (by decide) (hb hby at_179) (by rw [hml]; rfl) [(.int p2), (.int fi), (.int en)] (lenOf pd13 rfl) rfl rfl (Nat.le_of_ble_eq_true rfl) (Nat.le_of_ble_eq_true rfl) (Nat.le_of_ble_eq_true rfl) (Nat.le_of_ble_eq_true rfl) ?_
        intro v590 T590 V590 h590 S590 C590 q590
        obtain ⟨rfl, rfl⟩ := q590
        show Go p e below _ (T590.setTop (mkF m 182 #[.val (.int k_), .val (.int p0), .val (.int p1), .val (.int p2), .val (.int fi), .val (.int en), .val (.int (3 : Int32)), .val (.int (1 : Int32)), .val (.ref b551), .val (.ref b552), .val (.int (3 : Int32)), .unset] [(.int (1 : Int32))]))
        refine s_ifY S590 (hb hby at_182) (by decide) (by decide) (pcT := 187) (by decide) ?_
        refine s_iload S590 (hb hby at_187) rfl (pc' := 189) rfl ?_
        refine s_iload S590 (hb hby at_189) rfl (pc' := 191) rfl ?_
        refine s_icmpY S590 (hb hby at_191) (by decide) (by decide) (pcT := 230) (by decide) ?_
        refine s_iconst S590 (hb hby at_230) (v := (1 : Int32)) rfl (pc' := 231) rfl ?_
        exact g_iretN S590 (hb hby at_231) hret (by simp) ⟨rfl, trivial⟩
    · skip
      show Go p e below _ (T565.setTop (mkF m 79 #[.val (.int k_), .val (.int p0), .val (.int p1), .val (.int p2), .val (.int fi), .val (.int en), .val (.int (3 : Int32)), .val (.int (2 : Int32)), .val (.ref b551), .val (.ref b552), .unset, .unset] []))
      refine s_aload S565 (hb hby at_79) rfl rfl (pc' := 81) rfl ?_
      refine s_iload S565 (hb hby at_81) rfl (pc' := 83) rfl ?_
      refine s_iload S565 (hb hby at_83) rfl (pc' := 85) rfl ?_
      refine s_iload S565 (hb hby at_85) rfl (pc' := 87) rfl ?_
      show Go p e below _ (T565.setTop (mkF m 87 #[.val (.int k_), .val (.int p0), .val (.int p1), .val (.int p2), .val (.int fi), .val (.int en), .val (.int (3 : Int32)), .val (.int (2 : Int32)), .val (.ref b551), .val (.ref b552), .unset, .unset] [(.int en), (.int fi), (.int (2 : Int32)), (.ref b552)]))
      refine g_virtual S565 (rmAF32 X S565.old Ac564) (fun _ q => nomatch q) (w35 hw) (w36 hw) (w38 hw) (w37 hw) (w3 hw) (w39 hw) (by decide) (fun _ h => notFace_of_selects h) (hb hby at_87) (by rw [hml]; rfl) b552 Ac564.1 [(.int (2 : Int32)), (.int fi), (.int en)] (lenOf pd11 rfl) rfl rfl (Nat.le_of_ble_eq_true rfl) (Nat.le_of_ble_eq_true rfl) (Nat.le_of_ble_eq_true rfl) (Nat.le_of_ble_eq_true rfl) ?_
      intro v592 T592 V592 h592 S592 C592 q592
      obtain ⟨r591, rfl, hr591, rfl⟩ := q592
      rcases hr591 with ⟨rfl, hz, -⟩ | ⟨rfl, ⟨a2, b2⟩, -⟩
      · skip
        show Go p e below _ (T592.setTop (mkF m 90 #[.val (.int k_), .val (.int p0), .val (.int p1), .val (.int p2), .val (.int fi), .val (.int en), .val (.int (3 : Int32)), .val (.int (2 : Int32)), .val (.ref b551), .val (.ref b552), .unset, .unset] [(.int (2 : Int32))]))
        refine s_istore S592 (hb hby at_90) (L' := #[.val (.int k_), .val (.int p0), .val (.int p1), .val (.int p2), .val (.int fi), .val (.int en), .val (.int (3 : Int32)), .val (.int (2 : Int32)), .val (.ref b551), .val (.ref b552), .val (.int (2 : Int32)), .unset]) rfl (pc' := 92) rfl ?_
        refine s_iload S592 (hb hby at_92) rfl (pc' := 94) rfl ?_
        refine s_iload S592 (hb hby at_94) rfl (pc' := 96) rfl ?_
        refine s_icmpN S592 (hb hby at_96) (by decide) (pc' := 99) rfl ?_
        refine s_iload S592 (hb hby at_99) rfl (pc' := 101) rfl ?_
        refine s_iload S592 (hb hby at_101) rfl (pc' := 103) rfl ?_
        refine s_iload S592 (hb hby at_103) rfl (pc' := 105) rfl ?_
        show Go p e below _ (T592.setTop (mkF m 105 #[.val (.int k_), .val (.int p0), .val (.int p1), .val (.int p2), .val (.int fi), .val (.int en), .val (.int (3 : Int32)), .val (.int (2 : Int32)), .val (.ref b551), .val (.ref b552), .val (.int (2 : Int32)), .unset] [(.int (3 : Int32)), (.int (2 : Int32)), (.int (2 : Int32))]))
        refine g_static S592 (rmMX X (z := (3 : Int32)) (by decide) S592.old) (fun _ q => nomatch q) (w42 hw) (w43 hw) (w44 hw) (w45 hw) (by decide) (hb hby at_105) (by rw [hml]; rfl) [(.int (2 : Int32)), (.int (3 : Int32))] (lenOf pd7 rfl) rfl rfl (Nat.le_of_ble_eq_true rfl) (Nat.le_of_ble_eq_true rfl) (Nat.le_of_ble_eq_true rfl) (Nat.le_of_ble_eq_true rfl) ?_
        intro v593 T593 V593 h593 S593 C593 q593
        obtain ⟨rfl, rfl⟩ := q593
        show Go p e below _ (T593.setTop (mkF m 108 #[.val (.int k_), .val (.int p0), .val (.int p1), .val (.int p2), .val (.int fi), .val (.int en), .val (.int (3 : Int32)), .val (.int (2 : Int32)), .val (.ref b551), .val (.ref b552), .val (.int (2 : Int32)), .unset] [(.int (3 : Int32)), (.int (2 : Int32))]))
        refine s_icmpY S593 (hb hby at_108) (by decide) (by decide) (pcT := 113) (by decide) ?_
        refine s_iload S593 (hb hby at_113) rfl (pc' := 115) rfl ?_
        refine s_ifY S593 (hb hby at_115) (by decide) (by decide) (pcT := 137) (by decide) ?_
        refine s_iload S593 (hb hby at_137) rfl (pc' := 139) rfl ?_
        refine s_iconst S593 (hb hby at_139) (v := (1 : Int32)) rfl (pc' := 140) rfl ?_
        refine s_icmpY S593 (hb hby at_140) (by decide) (by decide) (pcT := 162) (by decide) ?_
        refine s_iload S593 (hb hby at_162) rfl (pc' := 164) rfl ?_
        refine s_iconst S593 (hb hby at_164) (v := (2 : Int32)) rfl (pc' := 165) rfl ?_
        refine s_icmpN S593 (hb hby at_165) (by decide) (pc' := 168) rfl ?_
        refine s_iconst S593 (hb hby at_168) (v := (2 : Int32)) rfl (pc' := 169) rfl ?_
        refine s_iload S593 (hb hby at_169) rfl (pc' := 171) rfl ?_
        refine s_icmpY S593 (hb hby at_171) (by decide) (by decide) (pcT := 187) (by decide) ?_
        refine s_iload S593 (hb hby at_187) rfl (pc' := 189) rfl ?_
        refine s_iload S593 (hb hby at_189) rfl (pc' := 191) rfl ?_
        refine s_icmpN S593 (hb hby at_191) (by decide) (pc' := 194) rfl ?_
        refine s_iload S593 (hb hby at_194) rfl (pc' := 196) rfl ?_
        refine s_ifY S593 (hb hby at_196) (by decide) (by decide) (pcT := 203) (by decide) ?_
        refine s_iload S593 (hb hby at_203) rfl (pc' := 205) rfl ?_
        refine s_iconst S593 (hb hby at_205) (v := (1 : Int32)) rfl (pc' := 206) rfl ?_
        refine s_icmpY S593 (hb hby at_206) (by decide) (by decide) (pcT := 213) (by decide) ?_
        refine s_iloadN S593 (hb hby at_213) rfl (pc' := 214) rfl ?_
        refine s_istore S593 (hb hby at_214) (L' := #[.val (.int k_), .val (.int p0), .val (.int p1), .val (.int p2), .val (.int fi), .val (.int en), .val (.int (3 : Int32)), .val (.int (2 : Int32)), .val (.ref b551), .val (.ref b552), .val (.int (2 : Int32)), .val (.int p2)]) rfl (pc' := 216) rfl ?_
        refine s_iload S593 (hb hby at_216) rfl (pc' := 218) rfl ?_
        refine s_iload S593 (hb hby at_218) rfl (pc' := 220) rfl ?_
        refine s_iload S593 (hb hby at_220) rfl (pc' := 222) rfl ?_
        show Go p e below _ (T593.setTop (mkF m 222 #[.val (.int k_), .val (.int p0), .val (.int p1), .val (.int p2), .val (.int fi), .val (.int en), .val (.int (3 : Int32)), .val (.int (2 : Int32)), .val (.ref b551), .val (.ref b552), .val (.int (2 : Int32)), .val (.int p2)] [(.int en), (.int fi), (.int p2)]))
        refine g_static S593 (rmI0 X S593.old hz) (fun _ q => nomatch q) (w109 hw) (w110 hw) (w111 hw) (w112 hw) (by decide) (hb hby at_222) (by rw [hml]; rfl) [(.int p2), (.int fi), (.int en)] (lenOf pd13 rfl) rfl rfl (Nat.le_of_ble_eq_true rfl) (Nat.le_of_ble_eq_true rfl) (Nat.le_of_ble_eq_true rfl) (Nat.le_of_ble_eq_true rfl) ?_
        intro v594 T594 V594 h594 S594 C594 q594
        obtain ⟨rfl, rfl⟩ := q594
        show Go p e below _ (T594.setTop (mkF m 225 #[.val (.int k_), .val (.int p0), .val (.int p1), .val (.int p2), .val (.int fi), .val (.int en), .val (.int (3 : Int32)), .val (.int (2 : Int32)), .val (.ref b551), .val (.ref b552), .val (.int (2 : Int32)), .val (.int p2)] [(.int (0 : Int32))]))
        refine s_ifY S594 (hb hby at_225) (by decide) (by decide) (pcT := 230) (by decide) ?_
        refine s_iconst S594 (hb hby at_230) (v := (1 : Int32)) rfl (pc' := 231) rfl ?_
        exact g_iretN S594 (hb hby at_231) hret (by simp) ⟨rfl, trivial⟩
      · skip
        show Go p e below _ (T592.setTop (mkF m 90 #[.val (.int k_), .val (.int p0), .val (.int p1), .val (.int p2), .val (.int fi), .val (.int en), .val (.int (3 : Int32)), .val (.int (2 : Int32)), .val (.ref b551), .val (.ref b552), .unset, .unset] [(.int (3 : Int32))]))
        refine s_istore S592 (hb hby at_90) (L' := #[.val (.int k_), .val (.int p0), .val (.int p1), .val (.int p2), .val (.int fi), .val (.int en), .val (.int (3 : Int32)), .val (.int (2 : Int32)), .val (.ref b551), .val (.ref b552), .val (.int (3 : Int32)), .unset]) rfl (pc' := 92) rfl ?_
        refine s_iload S592 (hb hby at_92) rfl (pc' := 94) rfl ?_
        refine s_iload S592 (hb hby at_94) rfl (pc' := 96) rfl ?_
        refine s_icmpN S592 (hb hby at_96) (by decide) (pc' := 99) rfl ?_
        refine s_iload S592 (hb hby at_99) rfl (pc' := 101) rfl ?_
        refine s_iload S592 (hb hby at_101) rfl (pc' := 103) rfl ?_
        refine s_iload S592 (hb hby at_103) rfl (pc' := 105) rfl ?_
        show Go p e below _ (T592.setTop (mkF m 105 #[.val (.int k_), .val (.int p0), .val (.int p1), .val (.int p2), .val (.int fi), .val (.int en), .val (.int (3 : Int32)), .val (.int (2 : Int32)), .val (.ref b551), .val (.ref b552), .val (.int (3 : Int32)), .unset] [(.int (3 : Int32)), (.int (2 : Int32)), (.int (3 : Int32))]))
        refine g_static S592 (rmMX X (z := (3 : Int32)) (by decide) S592.old) (fun _ q => nomatch q) (w42 hw) (w43 hw) (w44 hw) (w45 hw) (by decide) (hb hby at_105) (by rw [hml]; rfl) [(.int (2 : Int32)), (.int (3 : Int32))] (lenOf pd7 rfl) rfl rfl (Nat.le_of_ble_eq_true rfl) (Nat.le_of_ble_eq_true rfl) (Nat.le_of_ble_eq_true rfl) (Nat.le_of_ble_eq_true rfl) ?_
        intro v595 T595 V595 h595 S595 C595 q595
        obtain ⟨rfl, rfl⟩ := q595
        show Go p e below _ (T595.setTop (mkF m 108 #[.val (.int k_), .val (.int p0), .val (.int p1), .val (.int p2), .val (.int fi), .val (.int en), .val (.int (3 : Int32)), .val (.int (2 : Int32)), .val (.ref b551), .val (.ref b552), .val (.int (3 : Int32)), .unset] [(.int (3 : Int32)), (.int (3 : Int32))]))
        refine s_icmpY S595 (hb hby at_108) (by decide) (by decide) (pcT := 113) (by decide) ?_
        refine s_iload S595 (hb hby at_113) rfl (pc' := 115) rfl ?_
        refine s_ifY S595 (hb hby at_115) (by decide) (by decide) (pcT := 137) (by decide) ?_
        refine s_iload S595 (hb hby at_137) rfl (pc' := 139) rfl ?_
        refine s_iconst S595 (hb hby at_139) (v := (1 : Int32)) rfl (pc' := 140) rfl ?_
        refine s_icmpY S595 (hb hby at_140) (by decide) (by decide) (pcT := 162) (by decide) ?_
        refine s_iload S595 (hb hby at_162) rfl (pc' := 164) rfl ?_
        refine s_iconst S595 (hb hby at_164) (v := (2 : Int32)) rfl (pc' := 165) rfl ?_
        refine s_icmpN S595 (hb hby at_165) (by decide) (pc' := 168) rfl ?_
        refine s_iconst S595 (hb hby at_168) (v := (2 : Int32)) rfl (pc' := 169) rfl ?_
        refine s_iload S595 (hb hby at_169) rfl (pc' := 171) rfl ?_
        refine s_icmpN S595 (hb hby at_171) (by decide) (pc' := 174) rfl ?_
        refine s_iloadN S595 (hb hby at_174) rfl (pc' := 175) rfl ?_
        refine s_iload S595 (hb hby at_175) rfl (pc' := 177) rfl ?_
        refine s_iload S595 (hb hby at_177) rfl (pc' := 179) rfl ?_
        show Go p e below _ (T595.setTop (mkF m 179 #[.val (.int k_), .val (.int p0), .val (.int p1), .val (.int p2), .val (.int fi), .val (.int en), .val (.int (3 : Int32)), .val (.int (2 : Int32)), .val (.ref b551), .val (.ref b552), .val (.int (3 : Int32)), .unset] [(.int en), (.int fi), (.int p2)]))
        refine g_static S595 (rmI1 X S595.old a2 b2) (fun _ q => nomatch q) (w109 hw) (w110 hw) (w111 hw) (w112 hw) (by decide) (hb hby at_179) (by rw [hml]; rfl) [(.int p2), (.int fi), (.int en)] (lenOf pd13 rfl) rfl rfl (Nat.le_of_ble_eq_true rfl) (Nat.le_of_ble_eq_true rfl) (Nat.le_of_ble_eq_true rfl) (Nat.le_of_ble_eq_true rfl) ?_
        intro v596 T596 V596 h596 S596 C596 q596
        obtain ⟨rfl, rfl⟩ := q596
        show Go p e below _ (T596.setTop (mkF m 182 #[.val (.int k_), .val (.int p0), .val (.int p1), .val (.int p2), .val (.int fi), .val (.int en), .val (.int (3 : Int32)), .val (.int (2 : Int32)), .val (.ref b551), .val (.ref b552), .val (.int (3 : Int32)), .unset] [(.int (1 : Int32))]))
        refine s_ifY S596 (hb hby at_182) (by decide) (by decide) (pcT := 187) (by decide) ?_
        refine s_iload S596 (hb hby at_187) rfl (pc' := 189) rfl ?_
        refine s_iload S596 (hb hby at_189) rfl (pc' := 191) rfl ?_
        refine s_icmpY S596 (hb hby at_191) (by decide) (by decide) (pcT := 230) (by decide) ?_
        refine s_iconst S596 (hb hby at_230) (v := (1 : Int32)) rfl (pc' := 231) rfl ?_
        exact g_iretN S596 (hb hby at_231) hret (by simp) ⟨rfl, trivial⟩
    · skip
      show Go p e below _ (T565.setTop (mkF m 79 #[.val (.int k_), .val (.int p0), .val (.int p1), .val (.int p2), .val (.int fi), .val (.int en), .val (.int (3 : Int32)), .val (.int (3 : Int32)), .val (.ref b551), .val (.ref b552), .unset, .unset] []))
      refine s_aload S565 (hb hby at_79) rfl rfl (pc' := 81) rfl ?_
      refine s_iload S565 (hb hby at_81) rfl (pc' := 83) rfl ?_
      refine s_iload S565 (hb hby at_83) rfl (pc' := 85) rfl ?_
      refine s_iload S565 (hb hby at_85) rfl (pc' := 87) rfl ?_
      show Go p e below _ (T565.setTop (mkF m 87 #[.val (.int k_), .val (.int p0), .val (.int p1), .val (.int p2), .val (.int fi), .val (.int en), .val (.int (3 : Int32)), .val (.int (3 : Int32)), .val (.ref b551), .val (.ref b552), .unset, .unset] [(.int en), (.int fi), (.int (3 : Int32)), (.ref b552)]))
      refine g_virtual S565 (rmAF33 X S565.old Ac564) (fun _ q => nomatch q) (w35 hw) (w36 hw) (w38 hw) (w37 hw) (w3 hw) (w39 hw) (by decide) (fun _ h => notFace_of_selects h) (hb hby at_87) (by rw [hml]; rfl) b552 Ac564.1 [(.int (3 : Int32)), (.int fi), (.int en)] (lenOf pd11 rfl) rfl rfl (Nat.le_of_ble_eq_true rfl) (Nat.le_of_ble_eq_true rfl) (Nat.le_of_ble_eq_true rfl) (Nat.le_of_ble_eq_true rfl) ?_
      intro v598 T598 V598 h598 S598 C598 q598
      obtain ⟨r597, rfl, hr597, rfl⟩ := q598
      rcases hr597 with ⟨rfl, -⟩
      · skip
        show Go p e below _ (T598.setTop (mkF m 90 #[.val (.int k_), .val (.int p0), .val (.int p1), .val (.int p2), .val (.int fi), .val (.int en), .val (.int (3 : Int32)), .val (.int (3 : Int32)), .val (.ref b551), .val (.ref b552), .unset, .unset] [(.int (3 : Int32))]))
        refine s_istore S598 (hb hby at_90) (L' := #[.val (.int k_), .val (.int p0), .val (.int p1), .val (.int p2), .val (.int fi), .val (.int en), .val (.int (3 : Int32)), .val (.int (3 : Int32)), .val (.ref b551), .val (.ref b552), .val (.int (3 : Int32)), .unset]) rfl (pc' := 92) rfl ?_
        refine s_iload S598 (hb hby at_92) rfl (pc' := 94) rfl ?_
        refine s_iload S598 (hb hby at_94) rfl (pc' := 96) rfl ?_
        refine s_icmpN S598 (hb hby at_96) (by decide) (pc' := 99) rfl ?_
        refine s_iload S598 (hb hby at_99) rfl (pc' := 101) rfl ?_
        refine s_iload S598 (hb hby at_101) rfl (pc' := 103) rfl ?_
        refine s_iload S598 (hb hby at_103) rfl (pc' := 105) rfl ?_
        show Go p e below _ (T598.setTop (mkF m 105 #[.val (.int k_), .val (.int p0), .val (.int p1), .val (.int p2), .val (.int fi), .val (.int en), .val (.int (3 : Int32)), .val (.int (3 : Int32)), .val (.ref b551), .val (.ref b552), .val (.int (3 : Int32)), .unset] [(.int (3 : Int32)), (.int (3 : Int32)), (.int (3 : Int32))]))
        refine g_static S598 (rmMX X (z := (3 : Int32)) (by decide) S598.old) (fun _ q => nomatch q) (w42 hw) (w43 hw) (w44 hw) (w45 hw) (by decide) (hb hby at_105) (by rw [hml]; rfl) [(.int (3 : Int32)), (.int (3 : Int32))] (lenOf pd7 rfl) rfl rfl (Nat.le_of_ble_eq_true rfl) (Nat.le_of_ble_eq_true rfl) (Nat.le_of_ble_eq_true rfl) (Nat.le_of_ble_eq_true rfl) ?_
        intro v599 T599 V599 h599 S599 C599 q599
        obtain ⟨rfl, rfl⟩ := q599
        show Go p e below _ (T599.setTop (mkF m 108 #[.val (.int k_), .val (.int p0), .val (.int p1), .val (.int p2), .val (.int fi), .val (.int en), .val (.int (3 : Int32)), .val (.int (3 : Int32)), .val (.ref b551), .val (.ref b552), .val (.int (3 : Int32)), .unset] [(.int (3 : Int32)), (.int (3 : Int32))]))
        refine s_icmpY S599 (hb hby at_108) (by decide) (by decide) (pcT := 113) (by decide) ?_
        refine s_iload S599 (hb hby at_113) rfl (pc' := 115) rfl ?_
        refine s_ifY S599 (hb hby at_115) (by decide) (by decide) (pcT := 137) (by decide) ?_
        refine s_iload S599 (hb hby at_137) rfl (pc' := 139) rfl ?_
        refine s_iconst S599 (hb hby at_139) (v := (1 : Int32)) rfl (pc' := 140) rfl ?_
        refine s_icmpY S599 (hb hby at_140) (by decide) (by decide) (pcT := 162) (by decide) ?_
        refine s_iload S599 (hb hby at_162) rfl (pc' := 164) rfl ?_
        refine s_iconst S599 (hb hby at_164) (v := (2 : Int32)) rfl (pc' := 165) rfl ?_
        refine s_icmpY S599 (hb hby at_165) (by decide) (by decide) (pcT := 187) (by decide) ?_
        refine s_iload S599 (hb hby at_187) rfl (pc' := 189) rfl ?_
        refine s_iload S599 (hb hby at_189) rfl (pc' := 191) rfl ?_
        refine s_icmpY S599 (hb hby at_191) (by decide) (by decide) (pcT := 230) (by decide) ?_
        refine s_iconst S599 (hb hby at_230) (v := (1 : Int32)) rfl (pc' := 231) rfl ?_
        exact g_iretN S599 (hb hby at_231) hret (by simp) ⟨rfl, trivial⟩
    · skip
      show Go p e below _ (T565.setTop (mkF m 79 #[.val (.int k_), .val (.int p0), .val (.int p1), .val (.int p2), .val (.int fi), .val (.int en), .val (.int (3 : Int32)), .val (.int (4 : Int32)), .val (.ref b551), .val (.ref b552), .unset, .unset] []))
      refine s_aload S565 (hb hby at_79) rfl rfl (pc' := 81) rfl ?_
      refine s_iload S565 (hb hby at_81) rfl (pc' := 83) rfl ?_
      refine s_iload S565 (hb hby at_83) rfl (pc' := 85) rfl ?_
      refine s_iload S565 (hb hby at_85) rfl (pc' := 87) rfl ?_
      show Go p e below _ (T565.setTop (mkF m 87 #[.val (.int k_), .val (.int p0), .val (.int p1), .val (.int p2), .val (.int fi), .val (.int en), .val (.int (3 : Int32)), .val (.int (4 : Int32)), .val (.ref b551), .val (.ref b552), .unset, .unset] [(.int en), (.int fi), (.int (4 : Int32)), (.ref b552)]))
      refine g_virtual S565 (rmAF34 X S565.old Ac564) (fun _ q => nomatch q) (w35 hw) (w36 hw) (w38 hw) (w37 hw) (w3 hw) (w39 hw) (by decide) (fun _ h => notFace_of_selects h) (hb hby at_87) (by rw [hml]; rfl) b552 Ac564.1 [(.int (4 : Int32)), (.int fi), (.int en)] (lenOf pd11 rfl) rfl rfl (Nat.le_of_ble_eq_true rfl) (Nat.le_of_ble_eq_true rfl) (Nat.le_of_ble_eq_true rfl) (Nat.le_of_ble_eq_true rfl) ?_
      intro v601 T601 V601 h601 S601 C601 q601
      obtain ⟨r600, rfl, hr600, rfl⟩ := q601
      rcases hr600 with ⟨rfl, -⟩
      · skip
        show Go p e below _ (T601.setTop (mkF m 90 #[.val (.int k_), .val (.int p0), .val (.int p1), .val (.int p2), .val (.int fi), .val (.int en), .val (.int (3 : Int32)), .val (.int (4 : Int32)), .val (.ref b551), .val (.ref b552), .unset, .unset] [(.int (4 : Int32))]))
        refine s_istore S601 (hb hby at_90) (L' := #[.val (.int k_), .val (.int p0), .val (.int p1), .val (.int p2), .val (.int fi), .val (.int en), .val (.int (3 : Int32)), .val (.int (4 : Int32)), .val (.ref b551), .val (.ref b552), .val (.int (4 : Int32)), .unset]) rfl (pc' := 92) rfl ?_
        refine s_iload S601 (hb hby at_92) rfl (pc' := 94) rfl ?_
        refine s_iload S601 (hb hby at_94) rfl (pc' := 96) rfl ?_
        refine s_icmpN S601 (hb hby at_96) (by decide) (pc' := 99) rfl ?_
        refine s_iload S601 (hb hby at_99) rfl (pc' := 101) rfl ?_
        refine s_iload S601 (hb hby at_101) rfl (pc' := 103) rfl ?_
        refine s_iload S601 (hb hby at_103) rfl (pc' := 105) rfl ?_
        show Go p e below _ (T601.setTop (mkF m 105 #[.val (.int k_), .val (.int p0), .val (.int p1), .val (.int p2), .val (.int fi), .val (.int en), .val (.int (3 : Int32)), .val (.int (4 : Int32)), .val (.ref b551), .val (.ref b552), .val (.int (4 : Int32)), .unset] [(.int (3 : Int32)), (.int (4 : Int32)), (.int (4 : Int32))]))
        refine g_static S601 (rmMX X (z := (4 : Int32)) (by decide) S601.old) (fun _ q => nomatch q) (w42 hw) (w43 hw) (w44 hw) (w45 hw) (by decide) (hb hby at_105) (by rw [hml]; rfl) [(.int (4 : Int32)), (.int (3 : Int32))] (lenOf pd7 rfl) rfl rfl (Nat.le_of_ble_eq_true rfl) (Nat.le_of_ble_eq_true rfl) (Nat.le_of_ble_eq_true rfl) (Nat.le_of_ble_eq_true rfl) ?_
        intro v602 T602 V602 h602 S602 C602 q602
        obtain ⟨rfl, rfl⟩ := q602
        show Go p e below _ (T602.setTop (mkF m 108 #[.val (.int k_), .val (.int p0), .val (.int p1), .val (.int p2), .val (.int fi), .val (.int en), .val (.int (3 : Int32)), .val (.int (4 : Int32)), .val (.ref b551), .val (.ref b552), .val (.int (4 : Int32)), .unset] [(.int (4 : Int32)), (.int (4 : Int32))]))
        refine s_icmpY S602 (hb hby at_108) (by decide) (by decide) (pcT := 113) (by decide) ?_
        refine s_iload S602 (hb hby at_113) rfl (pc' := 115) rfl ?_
        refine s_ifY S602 (hb hby at_115) (by decide) (by decide) (pcT := 137) (by decide) ?_
        refine s_iload S602 (hb hby at_137) rfl (pc' := 139) rfl ?_
        refine s_iconst S602 (hb hby at_139) (v := (1 : Int32)) rfl (pc' := 140) rfl ?_
        refine s_icmpY S602 (hb hby at_140) (by decide) (by decide) (pcT := 162) (by decide) ?_
        refine s_iload S602 (hb hby at_162) rfl (pc' := 164) rfl ?_
        refine s_iconst S602 (hb hby at_164) (v := (2 : Int32)) rfl (pc' := 165) rfl ?_
        refine s_icmpY S602 (hb hby at_165) (by decide) (by decide) (pcT := 187) (by decide) ?_
        refine s_iload S602 (hb hby at_187) rfl (pc' := 189) rfl ?_
        refine s_iload S602 (hb hby at_189) rfl (pc' := 191) rfl ?_
        refine s_icmpY S602 (hb hby at_191) (by decide) (by decide) (pcT := 230) (by decide) ?_
        refine s_iconst S602 (hb hby at_230) (v := (1 : Int32)) rfl (pc' := 231) rfl ?_
        exact g_iretN S602 (hb hby at_231) hret (by simp) ⟨rfl, trivial⟩
set_option maxRecDepth 65536 in
set_option maxHeartbeats 40000000 in
theorem comes_1 {Post : Tables → Env → Array Value → State → Outcome → State → Prop} (hpost : ∀ tb e args s v u, (limb_1_1.after args s (.returned v) u = true ∧ limb_1_2.after args s (.returned v) u = true) → Framed s (.returned v) u (Jvm.fieldLocs frame_1_writes args s ++ Jvm.arrayLocs frame_1_arrays args s ++ Jvm.staticLocs frame_1_statics s) 24 320 → Post tb e args s (.returned v) u) :
    ArmFor flags0 classFile x code maxLocals ret World_1 tables_1 room_1 Calls_1 rest_1 Pre_1 Post := by
  intro l hfl _ _ p e ha hc hk s m args below hf hA hF happ hP
  obtain ⟨hcalls, hrest, hpre⟩ := hP
  obtain ⟨-, -, -, hnamed, -, -, -, hat⟩ := (Spec.applies_iff hf).mp happ
  obtain ⟨hg, hn⟩ := and_e (Cond.before_iff.mp (show (Jvm.Cond.and given_1 narrow_1).before args s = true from hpre))
  obtain ⟨hcount, hgiven⟩ := and_e hg
  obtain ⟨hg0, hr0⟩ := and_e hgiven
  obtain ⟨hg1, hr1⟩ := and_e hr0
  obtain ⟨hg2, hr2⟩ := and_e hr1
  obtain ⟨hg3, hr3⟩ := and_e hr2
  obtain ⟨hg4, hr4⟩ := and_e hr3
  obtain ⟨wa, wb, wc, wd, we, wf, rfl⟩ : ∃ wa wb wc wd we wf : Value, args = #[wa, wb, wc, wd, we, wf] := by
    have hs : args.size = 6 := by simpa [Cond.value, given_1] using hcount
    obtain ⟨L⟩ := args
    match L, hs with
    | [wa, wb, wc, wd, we, wf], _ => exact ⟨wa, wb, wc, wd, we, wf, rfl⟩
  have hw : HW _ s := fun d (hd : d ∈ tables_1) => atoms_spec (ws := Jvm.Cond.code x code maxLocals ret :: tables_1) hat d (List.mem_cons_of_mem _ hd)
  obtain ⟨hsets, hown0⟩ := atoms_of _ (rest_1_c_eq ▸ (show rest_1_c.before _ s = true from hrest))
  obtain ⟨i0, ei0⟩ := is_v hg0
  obtain rfl : wa = (.int i0) := Option.some.inj ei0
  obtain ⟨i1, ei1⟩ := is_v hg1
  obtain rfl : wb = (.int i1) := Option.some.inj ei1
  obtain ⟨i2, ei2⟩ := is_v hg2
  obtain rfl : wc = (.int i2) := Option.some.inj ei2
  obtain ⟨i3, ei3⟩ := is_v hg3
  obtain rfl : wd = (.int i3) := Option.some.inj ei3
  obtain ⟨i4, ei4⟩ := is_v hg4
  obtain rfl : we = (.int i4) := Option.some.inj ei4
  obtain ⟨i5, ei5⟩ := is_v hr4
  obtain rfl : wf = (.int i5) := Option.some.inj ei5
  obtain ⟨z1, ez1⟩ := is_v (Cond.before_iff.mp (hsets _ (List.mem_of_getElem? (i := 1) rfl)))
  have Sz1 : Sta s s.heap "java/lang/String" "COMPACT_STRINGS" "Z" (.int z1) := Sta.start ez1 (Or.inl (hsets _ (List.mem_of_getElem? (i := 0) rfl)))
  obtain ⟨v2, ev2, rv2⟩ := isR_v (Cond.before_iff.mp (hsets _ (List.mem_of_getElem? (i := 8) rfl)))
  have Sv2 : Sta s s.heap "jdk/internal/util/Preconditions" "SIOOBE_FORMATTER" "Ljava/util/function/BiFunction;" v2 := Sta.start ev2 (Or.inl (hsets _ (List.mem_of_getElem? (i := 7) rfl)))
  have cz1 : ¬ (z1 = (0 : Int32)) := gotF (Cond.eq_ints ez1 (Term.int_eval (0))) (not_v (Cond.before_iff.mp (hsets _ (List.mem_of_getElem? (i := 2) rfl))))
  have hEW : EW s #[(.int i0), (.int i1), (.int i2), (.int i3), (.int i4), (.int i5)] EL1 := EW.nil
  have hCH : CHv s EL1 s.vm s.heap := fun _ q => nomatch q
  have hfit : Fit s := fun {y c} hc i hi => by
    obtain ⟨ha, rfl⟩ := Array.getElem?_eq_some_iff.mp hc
    have q := List.all_eq_true.mp ((Array.all_eq_true_iff_forall_mem.mp hF) _ (Array.getElem_mem ha)) i (List.mem_range.mpr hi)
    simpa [Array.getElem?_eq_getElem hi] using q
  obtain ⟨v3, ev3, rv3⟩ := static_fit hfit (w63 hw) (ty := .object "java/util/function/BiFunction") (by decide)
  have Sv3 : Sta s s.heap "jdk/internal/util/Preconditions" "IOOBE_FORMATTER" "Ljava/util/function/BiFunction;" v3 := Sta.start ev3 (Or.inr ⟨(w62 hw), w63 hw⟩)
  have X : Ctx s _ := ⟨hw, hEW, ⟨z1, Sz1, cz1⟩, v3, Sv3, fit_R rv3 rfl⟩
  obtain ⟨n, o, h1, h2, h3, v, L, rfl, ⟨⟨rfl, -⟩, N, -⟩, ⟨-, -, hVW⟩, hq⟩ := rmL (l := l) X i0 i1 i2 i3 i4 i5 (Old.start s) tables_1 p e ha hc hk s m _ below hf ((Spec.applies_iff_loose hf).mp happ).1 ⟨rfl, State.Warmed39.refl s, rfl, hCH, fun _ q => nomatch q⟩ trivial
  refine ⟨n, _, h1, h2, h3, hpost _ _ _ _ _ _ ⟨Cond.after_iff.mpr rfl, Cond.after_iff.mpr (eq_i res_at (Term.int_eval (1)) rfl)⟩ ⟨hq.1, hVW s rfl, (hq.2.2.2.sift fun y hy => Or.inr (N y hy)).mono (by decide) (by decide)⟩⟩
theorem main_1_1 : Claimed_1_1 := comes_1 fun _ _ _ _ _ _ h hF => ⟨h.1, hF⟩
theorem main_1_2 : Claimed_1_2 := comes_1 fun _ _ _ _ _ _ h hF => ⟨h.2, hF⟩
end Jvm.Pilot.@@N@@
namespace Jvm.Pilot.@@N@@
open Jvm Jvm.ClassFile Sem Op Lib Jvm.Free Jvm.Stand Jvm.Pilot.@@N@@.Jvm.D
/-! MADE BY PROGRAM (witnessworld.py) out of the Statement's table words and the real class files: 25 classes; the members and pool entries that the words name. The judged class is class 1, her method 1. -/
namespace start1
open Jvm.ClassFile
def u (s : String) : CpInfo := .utf8 (stringToUtf16 s)
/-- a pool by its gaps: so many unusable entries, then the entry; so many at the end -/
def gap : Nat → List CpInfo → List CpInfo
  | 0, r => r
  | n + 1, r => .unusable :: gap n r
def poolList (es : List (Nat × CpInfo)) (last : Nat) : List CpInfo := es.foldr (fun e r => gap e.1 (e.2 :: r)) (gap last [])
def pool (es : List (Nat × CpInfo)) (last : Nat) : Array CpInfo := ⟨poolList es last⟩
def fileOf (pool : Array CpInfo) (this : Nat) (attrs : Array Attribute := #[]) (ms : Array MethodInfo := #[]) (fl : Nat := 33) (sup : Nat := 0) (ifs : Array Nat := #[]) (fds : Array FieldInfo := #[]) : ClassFile where
  minorVersion := 0
  majorVersion := 65
  constantPool := pool
  accessFlags := fl
  thisClass := this
  superClass := sup
  interfaces := ifs
  fields := fds
  methods := ms
  attributes := attrs
def plain (name : String) (sup : Option ClassId) : Class where
  name := name
  kind := .ordinary
  loader := none
  accessFlags := 33
  super := sup
  interfaces := #[]
  cf := none
  fields := #[]
  methods := #[]
  instanceTypes := #[]
  staticTypes := #[]
  resolved := #[]
  callSites := []
  init := .initialized
  statics := none
  mirror := none

def pool0 : Array CpInfo := pool [(5, u "<init>"), (0, u "()V"), (1, .class_ 10), (1, u "java/lang/Object")] 113

def k0c0 : Code := { maxStack := 0, maxLocals := 1, code := object_method_1_code, exceptionTable := #[], attributes := #[] }
def k0m0 : Method := { name := "<init>", desc := "()V", sig := { parameters := [], returnType := none }, accessFlags := 1, code := some k0c0 }
/-- java/lang/Object -/
def k0 : Class := { plain "java/lang/Object" none with
  accessFlags := 33
  interfaces := #[]
  cf := some (fileOf pool0 8 #[] #[{ accessFlags := 1, nameIndex := 5, descriptorIndex := 6, attributes := #[] }] 33 0 #[] #[])
  fields := #[]
  methods := #[k0m0]
  instanceTypes := #[]
  staticTypes := #[]
  resolved := Array.replicate 124 none
  statics := none }

def pool1 : Array CpInfo := pool [(2, .class_ 4), (0, .nameAndType 5 6), (0, u "java/lang/Object"), (0, u "<init>"), (0, u "()V"), (0, .class_ 8), (0, u "com/example/nodewarden/nodewarden/core/Asides"), (0, .methodref 7 3), (0, .methodref 7 11), (0, .nameAndType 12 13), (0, u "addComment"), (0, u "(III[CII)V"), (0, .methodref 7 15), (0, .nameAndType 16 17), (0, u "after"), (0, u "(III)I"), (0, .methodref 19 20), (0, .class_ 21), (0, .nameAndType 22 23), (0, u "java/lang/Math"), (0, u "max"), (0, u "(II)I"), (0, .methodref 25 26), (0, .class_ 27), (0, .nameAndType 28 29), (0, u "com/example/nodewarden/nodewarden/core/AsidesAfterPinLaw"), (0, u "in"), (0, u "(III)Z"), (2, u "law"), (0, u "(IIIIII)Z")] 5

def k1m0 : Method := { name := "<init>", desc := "()V", sig := { parameters := [], returnType := none }, accessFlags := 1, code := none }
def k1c1 : Code := { maxStack := 7, maxLocals := 12, code := code, exceptionTable := #[], attributes := #[] }
def k1m1 : Method := { name := "law", desc := "(IIIIII)Z", sig := { parameters := [.int, .int, .int, .int, .int, .int], returnType := some .boolean }, accessFlags := 9, code := some k1c1 }
def k1c2 : Code := { maxStack := 2, maxLocals := 3, code := method_3_code, exceptionTable := #[], attributes := #[] }
def k1m2 : Method := { name := "in", desc := "(III)Z", sig := { parameters := [.int, .int, .int], returnType := some .boolean }, accessFlags := 10, code := some k1c2 }
/-- com/example/nodewarden/nodewarden/core/AsidesAfterPinLaw -/
def k1 : Class := { plain "com/example/nodewarden/nodewarden/core/AsidesAfterPinLaw" (some 0) with
  accessFlags := 49
  interfaces := #[]
  cf := some (fileOf pool1 25 #[] #[{ accessFlags := 1, nameIndex := 5, descriptorIndex := 6, attributes := #[] }, { accessFlags := 9, nameIndex := 32, descriptorIndex := 33, attributes := #[] }, { accessFlags := 10, nameIndex := 28, descriptorIndex := 29, attributes := #[] }] 49 2 #[] #[])
  fields := #[]
  methods := #[k1m0, k1m1, k1m2]
  instanceTypes := #[]
  staticTypes := #[]
  resolved := Array.replicate 39 none
  statics := none }

def pool2 : Array CpInfo := pool [(1, .methodref 2 3), (0, .class_ 4), (0, .nameAndType 5 6), (0, u "java/lang/Object"), (0, u "<init>"), (0, u "()V"), (0, .class_ 8), (0, u "java/lang/StringBuilder"), (0, .methodref 7 3), (0, .fieldref 11 12), (0, .class_ 13), (0, .nameAndType 14 15), (0, u "com/example/nodewarden/nodewarden/core/Asides"), (0, u "text"), (0, u "Ljava/lang/StringBuilder;"), (0, .fieldref 11 17), (0, .nameAndType 18 19), (0, u "table"), (0, u "[I"), (0, .methodref 7 21), (0, .nameAndType 22 23), (0, u "append"), (0, u "([CII)Ljava/lang/StringBuilder;"), (0, .methodref 11 25), (0, .nameAndType 26 27), (0, u "add"), (0, u "(IIII)V"), (3, .methodref 7 32), (0, .nameAndType 33 34), (0, u "length"), (0, u "()I"), (3, .fieldref 11 39), (0, .nameAndType 40 41), (0, u "count"), (0, u "I"), (0, .methodref 43 44), (0, .class_ 45), (0, .nameAndType 46 47), (0, u "java/util/Arrays"), (0, u "copyOf"), (0, u "([II)[I"), (8, .methodref 57 58), (0, .class_ 59), (0, .nameAndType 60 61), (0, u "java/lang/Math"), (0, u "max"), (0, u "(II)I"), (3, u "NONE"), (0, u "Lcom/example/nodewarden/nodewarden/core/Asides;"), (0, u "DOCUMENT"), (2, u "BEFORE_DOCTYPE"), (1, u "BEFORE_ROOT"), (1, u "AFTER_ROOT"), (1, u "FIELDS"), (1, u "PARENT"), (0, u "PIECE"), (0, u "OFFSET"), (0, u "DATA"), (1, u "END"), (3, u "addComment"), (0, u "(III[CII)V"), (6, u "after"), (0, u "(III)I")] 10

def k2c0 : Code := { maxStack := 3, maxLocals := 1, code := prog_3_method_1_code, exceptionTable := #[], attributes := #[] }
def k2m0 : Method := { name := "<init>", desc := "()V", sig := { parameters := [], returnType := none }, accessFlags := 0, code := some k2c0 }
def k2c1 : Code := { maxStack := 5, maxLocals := 7, code := prog_3_method_2_code, exceptionTable := #[], attributes := #[] }
def k2m1 : Method := { name := "addComment", desc := "(III[CII)V", sig := { parameters := [.int, .int, .int, (.array .char), .int, .int], returnType := none }, accessFlags := 0, code := some k2c1 }
def k2c2 : Code := { maxStack := 3, maxLocals := 5, code := prog_3_method_6_code, exceptionTable := #[], attributes := #[] }
def k2m2 : Method := { name := "after", desc := "(III)I", sig := { parameters := [.int, .int, .int], returnType := some .int }, accessFlags := 0, code := some k2c2 }
def k2c3 : Code := { maxStack := 5, maxLocals := 6, code := prog_3_method_13_code, exceptionTable := #[], attributes := #[] }
def k2m3 : Method := { name := "add", desc := "(IIII)V", sig := { parameters := [.int, .int, .int, .int], returnType := none }, accessFlags := 2, code := some k2c3 }
/-- com/example/nodewarden/nodewarden/core/Asides -/
def k2 : Class := { plain "com/example/nodewarden/nodewarden/core/Asides" (some 0) with
  accessFlags := 32
  interfaces := #[]
  cf := some (fileOf pool2 11 #[] #[{ accessFlags := 0, nameIndex := 5, descriptorIndex := 6, attributes := #[] }, { accessFlags := 0, nameIndex := 87, descriptorIndex := 88, attributes := #[] }, { accessFlags := 0, nameIndex := 95, descriptorIndex := 96, attributes := #[] }, { accessFlags := 2, nameIndex := 26, descriptorIndex := 27, attributes := #[] }] 32 2 #[] #[{ accessFlags := 24, nameIndex := 67, descriptorIndex := 41, attributes := #[] }, { accessFlags := 24, nameIndex := 70, descriptorIndex := 41, attributes := #[] }, { accessFlags := 24, nameIndex := 72, descriptorIndex := 41, attributes := #[] }, { accessFlags := 24, nameIndex := 74, descriptorIndex := 41, attributes := #[] }, { accessFlags := 24, nameIndex := 65, descriptorIndex := 66, attributes := #[] }, { accessFlags := 26, nameIndex := 76, descriptorIndex := 41, attributes := #[] }, { accessFlags := 26, nameIndex := 78, descriptorIndex := 41, attributes := #[] }, { accessFlags := 26, nameIndex := 79, descriptorIndex := 41, attributes := #[] }, { accessFlags := 26, nameIndex := 80, descriptorIndex := 41, attributes := #[] }, { accessFlags := 26, nameIndex := 81, descriptorIndex := 41, attributes := #[] }, { accessFlags := 26, nameIndex := 83, descriptorIndex := 41, attributes := #[] }, { accessFlags := 18, nameIndex := 14, descriptorIndex := 15, attributes := #[] }, { accessFlags := 2, nameIndex := 18, descriptorIndex := 19, attributes := #[] }, { accessFlags := 2, nameIndex := 40, descriptorIndex := 41, attributes := #[] }])
  fields := #[{ name := "DOCUMENT", type := .int, accessFlags := 24, slot := 0, constantValue := 0 }, { name := "BEFORE_DOCTYPE", type := .int, accessFlags := 24, slot := 1, constantValue := 0 }, { name := "BEFORE_ROOT", type := .int, accessFlags := 24, slot := 2, constantValue := 0 }, { name := "AFTER_ROOT", type := .int, accessFlags := 24, slot := 3, constantValue := 0 }, { name := "NONE", type := (.object "com/example/nodewarden/nodewarden/core/Asides"), accessFlags := 24, slot := 4, constantValue := 0 }, { name := "FIELDS", type := .int, accessFlags := 26, slot := 5, constantValue := 0 }, { name := "PARENT", type := .int, accessFlags := 26, slot := 6, constantValue := 0 }, { name := "PIECE", type := .int, accessFlags := 26, slot := 7, constantValue := 0 }, { name := "OFFSET", type := .int, accessFlags := 26, slot := 8, constantValue := 0 }, { name := "DATA", type := .int, accessFlags := 26, slot := 9, constantValue := 0 }, { name := "END", type := .int, accessFlags := 26, slot := 10, constantValue := 0 }, { name := "text", type := (.object "java/lang/StringBuilder"), accessFlags := 18, slot := 0, constantValue := 0 }, { name := "table", type := (.array .int), accessFlags := 2, slot := 1, constantValue := 0 }, { name := "count", type := .int, accessFlags := 2, slot := 2, constantValue := 0 }]
  methods := #[k2m0, k2m1, k2m2, k2m3]
  instanceTypes := #[(.object "java/lang/StringBuilder"), (.array .int), .int]
  staticTypes := #[.int, .int, .int, .int, (.object "com/example/nodewarden/nodewarden/core/Asides"), .int, .int, .int, .int, .int, .int]
  resolved := Array.replicate 107 none
  statics := none }

def pool3 : Array CpInfo := pool [(1, .class_ 2), (0, u "java/lang/Appendable"), (0, .class_ 4), (0, u "java/lang/Object")] 9

/-- java/lang/Appendable -/
def k3 : Class := { plain "java/lang/Appendable" (some 0) with
  accessFlags := 1537
  interfaces := #[]
  cf := some (fileOf pool3 1 #[] #[] 1537 3 #[] #[])
  fields := #[]
  methods := #[]
  instanceTypes := #[]
  staticTypes := #[]
  resolved := Array.replicate 14 none
  statics := none }

def pool4 : Array CpInfo := pool [(2, .class_ 4), (1, u "java/lang/CharSequence"), (42, .class_ 48), (0, u "java/lang/CharSequence$1CodePointIterator"), (10, .class_ 60), (0, u "java/lang/CharSequence$1CharIterator"), (5, .class_ 67), (0, u "java/lang/Object")] 63

/-- java/lang/CharSequence -/
def k4 : Class := { plain "java/lang/CharSequence" (some 0) with
  accessFlags := 1537
  interfaces := #[]
  cf := some (fileOf pool4 2 #[.nestMembers #[47, 59]] #[] 1537 66 #[] #[])
  fields := #[]
  methods := #[]
  instanceTypes := #[]
  staticTypes := #[]
  resolved := Array.replicate 131 none
  statics := none }

def pool5 : Array CpInfo := pool [(1, .class_ 2), (0, u "java/lang/String"), (0, .methodref 4 5), (0, .class_ 6), (0, .nameAndType 7 8), (0, u "java/lang/Object"), (0, u "<init>"), (0, u "()V"), (1, .class_ 12), (1, u "java/lang/AbstractStringBuilder"), (0, u "EMPTYVALUE"), (0, u "[B"), (0, .fieldref 10 16), (0, .nameAndType 17 14), (0, u "value"), (0, .fieldref 1 19), (0, .nameAndType 20 21), (0, u "COMPACT_STRINGS"), (0, u "Z"), (0, .fieldref 10 23), (0, .nameAndType 24 25), (0, u "coder"), (0, u "B"), (8, u "length"), (0, u "()I"), (9, u "append"), (2, .class_ 49), (0, u "java/lang/CharSequence"), (25, u "maybeLatin1"), (3, .fieldref 10 80), (0, .nameAndType 81 82), (0, u "count"), (0, u "I"), (0, .methodref 10 84), (0, .nameAndType 85 86), (0, u "isLatin1"), (0, u "()Z"), (13, .methodref 10 101), (0, .nameAndType 102 103), (0, u "ensureCapacityInternal"), (0, u "(I)V"), (57, .methodref 162 163), (0, .class_ 164), (0, .nameAndType 165 166), (0, u "jdk/internal/util/Preconditions"), (0, u "checkFromToIndex"), (0, u "(IIILjava/util/function/BiFunction;)I"), (15, u "Ljava/util/function/BiFunction;"), (0, .fieldref 162 184), (0, .nameAndType 185 182), (0, u "IOOBE_FORMATTER"), (48, u "appendChars"), (4, .methodref 10 240), (0, .nameAndType 234 241), (0, u "([CII)V"), (202, .class_ 445), (0, u "java/lang/Appendable"), (60, u "([CII)Ljava/lang/AbstractStringBuilder;")] 102

def k5m0 : Method := { name := "<init>", desc := "()V", sig := { parameters := [], returnType := none }, accessFlags := 0, code := none }
def k5c1 : Code := { maxStack := 2, maxLocals := 2, code := jdk_68_method_2_code, exceptionTable := #[], attributes := #[] }
def k5m1 : Method := { name := "<init>", desc := "(I)V", sig := { parameters := [.int], returnType := none }, accessFlags := 0, code := some k5c1 }
def k5c2 : Code := { maxStack := 1, maxLocals := 1, code := jdk_68_method_6_code, exceptionTable := #[], attributes := #[] }
def k5m2 : Method := { name := "length", desc := "()I", sig := { parameters := [], returnType := some .int }, accessFlags := 1, code := some k5c2 }
def k5c3 : Code := { maxStack := 4, maxLocals := 3, code := jdk_68_method_9_code, exceptionTable := #[], attributes := #[] }
def k5m3 : Method := { name := "ensureCapacityInternal", desc := "(I)V", sig := { parameters := [.int], returnType := none }, accessFlags := 2, code := some k5c3 }
def k5c4 : Code := { maxStack := 4, maxLocals := 5, code := jdk_68_method_29_code, exceptionTable := #[], attributes := #[] }
def k5m4 : Method := { name := "append", desc := "([CII)Ljava/lang/AbstractStringBuilder;", sig := { parameters := [(.array .char), .int, .int], returnType := some (.object "java/lang/AbstractStringBuilder") }, accessFlags := 1, code := some k5c4 }
def k5c5 : Code := { maxStack := 1, maxLocals := 1, code := jdk_68_method_68_code, exceptionTable := #[], attributes := #[] }
def k5m5 : Method := { name := "isLatin1", desc := "()Z", sig := { parameters := [], returnType := some .boolean }, accessFlags := 16, code := some k5c5 }
def k5c6 : Code := { maxStack := 5, maxLocals := 9, code := jdk_68_method_74_code, exceptionTable := #[], attributes := #[] }
def k5m6 : Method := { name := "appendChars", desc := "([CII)V", sig := { parameters := [(.array .char), .int, .int], returnType := none }, accessFlags := 18, code := some k5c6 }
/-- java/lang/AbstractStringBuilder -/
def k5 : Class := { plain "java/lang/AbstractStringBuilder" (some 0) with
  accessFlags := 1056
  interfaces := #[3, 4]
  cf := some (fileOf pool5 10 #[] #[{ accessFlags := 0, nameIndex := 7, descriptorIndex := 8, attributes := #[] }, { accessFlags := 0, nameIndex := 7, descriptorIndex := 103, attributes := #[] }, { accessFlags := 1, nameIndex := 34, descriptorIndex := 35, attributes := #[] }, { accessFlags := 2, nameIndex := 102, descriptorIndex := 103, attributes := #[] }, { accessFlags := 1, nameIndex := 45, descriptorIndex := 506, attributes := #[] }, { accessFlags := 16, nameIndex := 85, descriptorIndex := 86, attributes := #[] }, { accessFlags := 18, nameIndex := 234, descriptorIndex := 241, attributes := #[] }] 1056 4 #[444, 48] #[{ accessFlags := 0, nameIndex := 17, descriptorIndex := 14, attributes := #[] }, { accessFlags := 0, nameIndex := 24, descriptorIndex := 25, attributes := #[] }, { accessFlags := 0, nameIndex := 75, descriptorIndex := 21, attributes := #[] }, { accessFlags := 0, nameIndex := 81, descriptorIndex := 82, attributes := #[] }, { accessFlags := 26, nameIndex := 13, descriptorIndex := 14, attributes := #[] }])
  fields := #[{ name := "value", type := (.array .byte), accessFlags := 0, slot := 0, constantValue := 0 }, { name := "coder", type := .byte, accessFlags := 0, slot := 1, constantValue := 0 }, { name := "maybeLatin1", type := .boolean, accessFlags := 0, slot := 2, constantValue := 0 }, { name := "count", type := .int, accessFlags := 0, slot := 3, constantValue := 0 }, { name := "EMPTYVALUE", type := (.array .byte), accessFlags := 26, slot := 0, constantValue := 0 }]
  methods := #[k5m0, k5m1, k5m2, k5m3, k5m4, k5m5, k5m6]
  instanceTypes := #[(.array .byte), .byte, .boolean, .int]
  staticTypes := #[(.array .byte)]
  resolved := Array.replicate 609 none
  statics := none }

def pool6 : Array CpInfo := pool [(1, .class_ 2), (0, u "java/io/Serializable"), (0, .class_ 4), (0, u "java/lang/Object")] 2

/-- java/io/Serializable -/
def k6 : Class := { plain "java/io/Serializable" (some 0) with
  accessFlags := 1537
  interfaces := #[]
  cf := some (fileOf pool6 1 #[] #[] 1537 3 #[] #[])
  fields := #[]
  methods := #[]
  instanceTypes := #[]
  staticTypes := #[]
  resolved := Array.replicate 7 none
  statics := none }

def pool7 : Array CpInfo := pool [(1, .class_ 2), (0, u "java/lang/Comparable"), (0, .class_ 4), (0, u "java/lang/Object")] 7

/-- java/lang/Comparable -/
def k7 : Class := { plain "java/lang/Comparable" (some 0) with
  accessFlags := 1537
  interfaces := #[]
  cf := some (fileOf pool7 1 #[] #[] 1537 3 #[] #[])
  fields := #[]
  methods := #[]
  instanceTypes := #[]
  staticTypes := #[]
  resolved := Array.replicate 12 none
  statics := none }

def pool8 : Array CpInfo := pool [(1, .methodref 2 3), (0, .class_ 4), (0, .nameAndType 5 6), (0, u "java/lang/AbstractStringBuilder"), (0, u "<init>"), (0, u "(I)V"), (17, .class_ 26), (1, u "java/lang/StringBuilder"), (0, u "append"), (16, .methodref 2 45), (0, .nameAndType 27 46), (0, u "([CII)Ljava/lang/AbstractStringBuilder;"), (98, u "()V"), (10, u "()I"), (135, u "([CII)Ljava/lang/StringBuilder;"), (50, .methodref 2 344), (0, .nameAndType 345 156), (0, u "length"), (3, .class_ 350), (0, u "java/lang/Appendable"), (0, .class_ 352), (0, u "java/io/Serializable"), (0, .class_ 354), (0, u "java/lang/Comparable"), (0, .class_ 356), (0, u "java/lang/CharSequence"), (0, u "serialVersionUID"), (0, u "J")] 63

def k8c0 : Code := { maxStack := 2, maxLocals := 1, code := jdk_67_method_1_code, exceptionTable := #[], attributes := #[] }
def k8m0 : Method := { name := "<init>", desc := "()V", sig := { parameters := [], returnType := none }, accessFlags := 1, code := some k8c0 }
def k8c1 : Code := { maxStack := 4, maxLocals := 4, code := jdk_67_method_12_code, exceptionTable := #[], attributes := #[] }
def k8m1 : Method := { name := "append", desc := "([CII)Ljava/lang/StringBuilder;", sig := { parameters := [(.array .char), .int, .int], returnType := some (.object "java/lang/StringBuilder") }, accessFlags := 1, code := some k8c1 }
def k8c2 : Code := { maxStack := 1, maxLocals := 1, code := jdk_67_method_93_code, exceptionTable := #[], attributes := #[] }
def k8m2 : Method := { name := "length", desc := "()I", sig := { parameters := [], returnType := some .int }, accessFlags := 4161, code := some k8c2 }
/-- java/lang/StringBuilder -/
def k8 : Class := { plain "java/lang/StringBuilder" (some 5) with
  accessFlags := 49
  interfaces := #[3, 6, 7, 4]
  cf := some (fileOf pool8 24 #[] #[{ accessFlags := 1, nameIndex := 5, descriptorIndex := 145, attributes := #[] }, { accessFlags := 1, nameIndex := 27, descriptorIndex := 292, attributes := #[] }, { accessFlags := 4161, nameIndex := 345, descriptorIndex := 156, attributes := #[] }] 49 2 #[349, 351, 353, 355] #[{ accessFlags := 24, nameIndex := 357, descriptorIndex := 358, attributes := #[] }])
  fields := #[{ name := "serialVersionUID", type := .long, accessFlags := 24, slot := 0, constantValue := 0 }]
  methods := #[k8m0, k8m1, k8m2]
  instanceTypes := #[(.array .byte), .byte, .boolean, .int]
  staticTypes := #[.long]
  resolved := Array.replicate 422 none
  statics := none }

def pool9 : Array CpInfo := pool [(1, .class_ 2), (0, u "java/lang/constant/Constable"), (0, .class_ 4), (0, u "java/lang/Object")] 6

/-- java/lang/constant/Constable -/
def k9 : Class := { plain "java/lang/constant/Constable" (some 0) with
  accessFlags := 1537
  interfaces := #[]
  cf := some (fileOf pool9 1 #[] #[] 1537 3 #[] #[])
  fields := #[]
  methods := #[]
  instanceTypes := #[]
  staticTypes := #[]
  resolved := Array.replicate 11 none
  statics := none }

def pool10 : Array CpInfo := pool [(1, .class_ 2), (0, u "java/lang/constant/ConstantDesc"), (0, .class_ 4), (0, u "java/lang/Object")] 32

/-- java/lang/constant/ConstantDesc -/
def k10 : Class := { plain "java/lang/constant/ConstantDesc" (some 0) with
  accessFlags := 1537
  interfaces := #[]
  cf := some (fileOf pool10 1 #[] #[] 1537 3 #[] #[])
  fields := #[]
  methods := #[]
  instanceTypes := #[]
  staticTypes := #[]
  resolved := Array.replicate 37 none
  statics := none }

def pool11 : Array CpInfo := pool [(2, .class_ 4), (1, u "java/lang/Object"), (0, u "<init>"), (0, u "()V"), (3, .class_ 12), (1, u "java/lang/String"), (0, u "value"), (0, u "[B"), (2, u "coder"), (0, u "B"), (2, u "hash"), (0, u "I"), (2, u "hashIsZero"), (0, u "Z"), (13, u "COMPACT_STRINGS"), (534, .class_ 576), (0, u "java/lang/CharSequence"), (22, u "CASE_INSENSITIVE_ORDER"), (0, u "Ljava/util/Comparator;"), (500, u "serialPersistentFields"), (0, u "[Ljava/io/ObjectStreamField;"), (0, .class_ 1104), (0, u "java/lang/String$CaseInsensitiveComparator"), (1, .class_ 1107), (0, u "java/io/Serializable"), (0, .class_ 1109), (0, u "java/lang/Comparable"), (0, .class_ 1111), (0, u "java/lang/constant/Constable"), (0, .class_ 1113), (0, u "java/lang/constant/ConstantDesc"), (2, u "serialVersionUID"), (0, u "J"), (3, u "REPL"), (0, u "C"), (2, u "LATIN1"), (1, u "UTF16")] 323

def k11m0 : Method := { name := "<init>", desc := "()V", sig := { parameters := [], returnType := none }, accessFlags := 1, code := none }
/-- java/lang/String -/
def k11 : Class := { plain "java/lang/String" (some 0) with
  accessFlags := 49
  interfaces := #[6, 7, 4, 9, 10]
  cf := some (fileOf pool11 10 #[.nestMembers #[1103]] #[{ accessFlags := 1, nameIndex := 5, descriptorIndex := 6, attributes := #[] }] 49 2 #[1106, 1108, 575, 1110, 1112] #[{ accessFlags := 18, nameIndex := 13, descriptorIndex := 14, attributes := #[] }, { accessFlags := 18, nameIndex := 17, descriptorIndex := 18, attributes := #[] }, { accessFlags := 2, nameIndex := 21, descriptorIndex := 22, attributes := #[] }, { accessFlags := 2, nameIndex := 25, descriptorIndex := 26, attributes := #[] }, { accessFlags := 26, nameIndex := 1116, descriptorIndex := 1117, attributes := #[] }, { accessFlags := 24, nameIndex := 40, descriptorIndex := 26, attributes := #[] }, { accessFlags := 26, nameIndex := 1101, descriptorIndex := 1102, attributes := #[] }, { accessFlags := 26, nameIndex := 1121, descriptorIndex := 1122, attributes := #[] }, { accessFlags := 25, nameIndex := 599, descriptorIndex := 600, attributes := #[] }, { accessFlags := 24, nameIndex := 1125, descriptorIndex := 18, attributes := #[] }, { accessFlags := 24, nameIndex := 1127, descriptorIndex := 18, attributes := #[] }])
  fields := #[{ name := "value", type := (.array .byte), accessFlags := 18, slot := 0, constantValue := 0 }, { name := "coder", type := .byte, accessFlags := 18, slot := 1, constantValue := 0 }, { name := "hash", type := .int, accessFlags := 2, slot := 2, constantValue := 0 }, { name := "hashIsZero", type := .boolean, accessFlags := 2, slot := 3, constantValue := 0 }, { name := "serialVersionUID", type := .long, accessFlags := 26, slot := 0, constantValue := 0 }, { name := "COMPACT_STRINGS", type := .boolean, accessFlags := 24, slot := 1, constantValue := 0 }, { name := "serialPersistentFields", type := (.array (.object "java/io/ObjectStreamField")), accessFlags := 26, slot := 2, constantValue := 0 }, { name := "REPL", type := .char, accessFlags := 26, slot := 3, constantValue := 0 }, { name := "CASE_INSENSITIVE_ORDER", type := (.object "java/util/Comparator"), accessFlags := 25, slot := 4, constantValue := 0 }, { name := "LATIN1", type := .byte, accessFlags := 24, slot := 5, constantValue := 0 }, { name := "UTF16", type := .byte, accessFlags := 24, slot := 6, constantValue := 0 }]
  methods := #[k11m0]
  instanceTypes := #[(.array .byte), .byte, .int, .boolean]
  staticTypes := #[.long, .boolean, (.array (.object "java/io/ObjectStreamField")), .char, (.object "java/util/Comparator"), .byte, .byte]
  resolved := Array.replicate 1451 none
  statics := some 0 }

def pool12 : Array CpInfo := pool [(1, .class_ 2), (0, u "java/lang/Math"), (1, .class_ 6), (1, u "java/lang/Object"), (0, u "<init>"), (0, u "()V"), (89, .class_ 100), (1, u "java/lang/Math$RandomNumberGeneratorHolder"), (71, u "negativeZeroFloatBits"), (0, u "J"), (2, u "negativeZeroDoubleBits"), (21, u "max"), (2, u "min"), (43, u "$assertionsDisabled"), (0, u "Z"), (88, u "(II)I"), (2, u "twoToTheDoubleScaleDown"), (0, u "D"), (4, u "twoToTheDoubleScaleUp"), (9, u "E"), (3, u "PI"), (2, u "TAU"), (2, u "DEGREES_TO_RADIANS"), (0, u "RADIANS_TO_DEGREES")] 94

def k12m0 : Method := { name := "<init>", desc := "()V", sig := { parameters := [], returnType := none }, accessFlags := 2, code := none }
def k12c1 : Code := { maxStack := 2, maxLocals := 2, code := jdk_29_method_65_code, exceptionTable := #[], attributes := #[] }
def k12m1 : Method := { name := "max", desc := "(II)I", sig := { parameters := [.int, .int], returnType := some .int }, accessFlags := 9, code := some k12c1 }
def k12c2 : Code := { maxStack := 2, maxLocals := 2, code := jdk_29_method_69_code, exceptionTable := #[], attributes := #[] }
def k12m2 : Method := { name := "min", desc := "(II)I", sig := { parameters := [.int, .int], returnType := some .int }, accessFlags := 9, code := some k12c2 }
/-- java/lang/Math -/
def k12 : Class := { plain "java/lang/Math" (some 0) with
  accessFlags := 49
  interfaces := #[]
  cf := some (fileOf pool12 1 #[.nestMembers #[98]] #[{ accessFlags := 2, nameIndex := 7, descriptorIndex := 8, attributes := #[] }, { accessFlags := 9, nameIndex := 198, descriptorIndex := 335, attributes := #[] }, { accessFlags := 9, nameIndex := 201, descriptorIndex := 335, attributes := #[] }] 49 4 #[] #[{ accessFlags := 25, nameIndex := 354, descriptorIndex := 339, attributes := #[] }, { accessFlags := 25, nameIndex := 358, descriptorIndex := 339, attributes := #[] }, { accessFlags := 25, nameIndex := 361, descriptorIndex := 339, attributes := #[] }, { accessFlags := 26, nameIndex := 364, descriptorIndex := 339, attributes := #[] }, { accessFlags := 26, nameIndex := 365, descriptorIndex := 339, attributes := #[] }, { accessFlags := 26, nameIndex := 172, descriptorIndex := 173, attributes := #[] }, { accessFlags := 26, nameIndex := 176, descriptorIndex := 173, attributes := #[] }, { accessFlags := 8, nameIndex := 344, descriptorIndex := 339, attributes := #[] }, { accessFlags := 8, nameIndex := 338, descriptorIndex := 339, attributes := #[] }, { accessFlags := 4120, nameIndex := 245, descriptorIndex := 246, attributes := #[] }])
  fields := #[{ name := "E", type := .double, accessFlags := 25, slot := 0, constantValue := 0 }, { name := "PI", type := .double, accessFlags := 25, slot := 1, constantValue := 0 }, { name := "TAU", type := .double, accessFlags := 25, slot := 2, constantValue := 0 }, { name := "DEGREES_TO_RADIANS", type := .double, accessFlags := 26, slot := 3, constantValue := 0 }, { name := "RADIANS_TO_DEGREES", type := .double, accessFlags := 26, slot := 4, constantValue := 0 }, { name := "negativeZeroFloatBits", type := .long, accessFlags := 26, slot := 5, constantValue := 0 }, { name := "negativeZeroDoubleBits", type := .long, accessFlags := 26, slot := 6, constantValue := 0 }, { name := "twoToTheDoubleScaleUp", type := .double, accessFlags := 8, slot := 7, constantValue := 0 }, { name := "twoToTheDoubleScaleDown", type := .double, accessFlags := 8, slot := 8, constantValue := 0 }, { name := "$assertionsDisabled", type := .boolean, accessFlags := 4120, slot := 9, constantValue := 0 }]
  methods := #[k12m0, k12m1, k12m2]
  instanceTypes := #[]
  staticTypes := #[.double, .double, .double, .double, .double, .long, .long, .double, .double, .boolean]
  resolved := Array.replicate 460 none
  statics := none }

def pool13 : Array CpInfo := pool [(2, .class_ 4), (1, u "java/lang/Object"), (0, u "<init>"), (0, u "()V"), (17, .class_ 26), (1, u "jdk/internal/util/Preconditions"), (20, u "checkFromToIndex"), (7, .class_ 56), (0, u "jdk/internal/util/Preconditions$4"), (57, .class_ 115), (0, u "jdk/internal/util/Preconditions$1"), (7, u "SIOOBE_FORMATTER"), (0, u "Ljava/util/function/BiFunction;"), (0, .class_ 126), (0, u "jdk/internal/util/Preconditions$2"), (3, u "AIOOBE_FORMATTER"), (0, .class_ 132), (0, u "jdk/internal/util/Preconditions$3"), (3, u "IOOBE_FORMATTER"), (46, u "(IIILjava/util/function/BiFunction;)I")] 10

def k13m0 : Method := { name := "<init>", desc := "()V", sig := { parameters := [], returnType := none }, accessFlags := 1, code := none }
def k13c1 : Code := { maxStack := 4, maxLocals := 4, code := jdk_41_method_12_code, exceptionTable := #[], attributes := #[] }
def k13m1 : Method := { name := "checkFromToIndex", desc := "(IIILjava/util/function/BiFunction;)I", sig := { parameters := [.int, .int, .int, (.object "java/util/function/BiFunction")], returnType := some .int }, accessFlags := 9, code := some k13c1 }
/-- jdk/internal/util/Preconditions -/
def k13 : Class := { plain "jdk/internal/util/Preconditions" (some 0) with
  accessFlags := 33
  interfaces := #[]
  cf := some (fileOf pool13 24 #[.nestMembers #[55, 131, 125, 114]] #[{ accessFlags := 1, nameIndex := 5, descriptorIndex := 6, attributes := #[] }, { accessFlags := 9, nameIndex := 47, descriptorIndex := 183, attributes := #[] }] 33 2 #[] #[{ accessFlags := 25, nameIndex := 123, descriptorIndex := 124, attributes := #[] }, { accessFlags := 25, nameIndex := 130, descriptorIndex := 124, attributes := #[] }, { accessFlags := 25, nameIndex := 136, descriptorIndex := 124, attributes := #[] }])
  fields := #[{ name := "SIOOBE_FORMATTER", type := (.object "java/util/function/BiFunction"), accessFlags := 25, slot := 0, constantValue := 0 }, { name := "AIOOBE_FORMATTER", type := (.object "java/util/function/BiFunction"), accessFlags := 25, slot := 1, constantValue := 0 }, { name := "IOOBE_FORMATTER", type := (.object "java/util/function/BiFunction"), accessFlags := 25, slot := 2, constantValue := 0 }]
  methods := #[k13m0, k13m1]
  instanceTypes := #[]
  staticTypes := #[(.object "java/util/function/BiFunction"), (.object "java/util/function/BiFunction"), (.object "java/util/function/BiFunction")]
  resolved := Array.replicate 194 none
  statics := some 1 }

def pool14 : Array CpInfo := pool [(2, .class_ 4), (1, u "java/lang/Object"), (0, u "<init>"), (0, u "()V"), (7, .class_ 16), (1, u "java/util/Arrays"), (57, .class_ 76), (1, u "java/util/Arrays$NaturalOrder"), (36, .class_ 115), (1, u "java/util/Arrays$LegacyMergeSort"), (1, u "Z"), (32, .methodref 151 152), (0, .class_ 153), (0, .nameAndType 154 155), (0, u "java/lang/System"), (0, u "arraycopy"), (0, u "(Ljava/lang/Object;ILjava/lang/Object;II)V"), (146, u "copyOf"), (1, .methodref 305 306), (0, .class_ 307), (0, .nameAndType 308 309), (0, u "java/lang/Math"), (0, u "min"), (0, u "(II)I"), (65, .class_ 376), (0, u "java/util/Arrays$ArrayList"), (68, u "$assertionsDisabled"), (269, u "MIN_ARRAY_SORT_GRAN"), (0, u "I"), (2, u "INSERTIONSORT_THRESHOLD"), (151, u "([II)[I"), (103, .class_ 976), (0, u "java/util/Arrays$ArrayItr")] 52

def k14m0 : Method := { name := "<init>", desc := "()V", sig := { parameters := [], returnType := none }, accessFlags := 2, code := none }
def k14c1 : Code := { maxStack := 6, maxLocals := 3, code := jdk_65_method_123_code, exceptionTable := #[], attributes := #[] }
def k14m1 : Method := { name := "copyOf", desc := "([II)[I", sig := { parameters := [(.array .int), .int], returnType := some (.array .int) }, accessFlags := 9, code := some k14c1 }
/-- java/util/Arrays -/
def k14 : Class := { plain "java/util/Arrays" (some 0) with
  accessFlags := 49
  interfaces := #[]
  cf := some (fileOf pool14 14 #[.nestMembers #[975, 375, 113, 74]] #[{ accessFlags := 2, nameIndex := 5, descriptorIndex := 6, attributes := #[] }, { accessFlags := 9, nameIndex := 302, descriptorIndex := 871, attributes := #[] }] 49 2 #[] #[{ accessFlags := 26, nameIndex := 715, descriptorIndex := 716, attributes := #[] }, { accessFlags := 26, nameIndex := 719, descriptorIndex := 716, attributes := #[] }, { accessFlags := 4120, nameIndex := 445, descriptorIndex := 117, attributes := #[] }])
  fields := #[{ name := "MIN_ARRAY_SORT_GRAN", type := .int, accessFlags := 26, slot := 0, constantValue := 0 }, { name := "INSERTIONSORT_THRESHOLD", type := .int, accessFlags := 26, slot := 1, constantValue := 0 }, { name := "$assertionsDisabled", type := .boolean, accessFlags := 4120, slot := 2, constantValue := 0 }]
  methods := #[k14m0, k14m1]
  instanceTypes := #[]
  staticTypes := #[.int, .int, .boolean]
  resolved := Array.replicate 1029 none
  statics := none }

def pool15 : Array CpInfo := pool [(2, .class_ 4), (1, u "java/lang/Object"), (0, u "<init>"), (0, u "()V"), (1, .class_ 10), (1, u "java/lang/System"), (0, u "allowSecurityManager"), (0, u "I"), (16, u "cons"), (0, u "Ljava/io/Console;"), (77, .class_ 110), (1, u "java/lang/System$CallersHolder"), (43, u "initialErrStream"), (0, u "Ljava/io/PrintStream;"), (19, u "security"), (0, u "Ljava/lang/SecurityManager;"), (31, .class_ 209), (0, u "java/lang/System$1"), (7, u "props"), (0, u "Ljava/util/Properties;"), (2, u "lineSeparator"), (0, u "Ljava/lang/String;"), (96, .class_ 321), (1, u "java/lang/System$LoggerFinder"), (5, .class_ 328), (0, u "java/lang/System$Logger"), (67, u "err"), (2, u "out"), (91, u "notSupportedJnuEncoding"), (15, u "in"), (17, u "initialIn"), (0, u "Ljava/io/InputStream;"), (35, u "bootLayer"), (0, u "Ljava/lang/ModuleLayer;"), (99, .class_ 664), (0, u "java/lang/System$2"), (9, u "NEVER"), (2, u "MAYBE"), (49, u "arraycopy"), (0, u "(Ljava/lang/Object;ILjava/lang/Object;II)V"), (72, .class_ 802), (0, u "java/lang/System$Logger$Level")] 31

def k15m0 : Method := { name := "<init>", desc := "()V", sig := { parameters := [], returnType := none }, accessFlags := 2, code := none }
def k15m1 : Method := { name := "arraycopy", desc := "(Ljava/lang/Object;ILjava/lang/Object;II)V", sig := { parameters := [(.object "java/lang/Object"), .int, (.object "java/lang/Object"), .int, .int], returnType := none }, accessFlags := 265, code := none }
/-- java/lang/System -/
def k15 : Class := { plain "java/lang/System" (some 0) with
  accessFlags := 49
  interfaces := #[]
  cf := some (fileOf pool15 8 #[.nestMembers #[319, 327, 801, 108, 663, 208]] #[{ accessFlags := 2, nameIndex := 5, descriptorIndex := 6, attributes := #[] }, { accessFlags := 265, nameIndex := 727, descriptorIndex := 728, attributes := #[] }] 49 2 #[] #[{ accessFlags := 25, nameIndex := 507, descriptorIndex := 526, attributes := #[] }, { accessFlags := 25, nameIndex := 399, descriptorIndex := 155, attributes := #[] }, { accessFlags := 25, nameIndex := 396, descriptorIndex := 155, attributes := #[] }, { accessFlags := 10, nameIndex := 525, descriptorIndex := 526, attributes := #[] }, { accessFlags := 26, nameIndex := 674, descriptorIndex := 12, attributes := #[] }, { accessFlags := 26, nameIndex := 677, descriptorIndex := 12, attributes := #[] }, { accessFlags := 10, nameIndex := 11, descriptorIndex := 12, attributes := #[] }, { accessFlags := 74, nameIndex := 175, descriptorIndex := 176, attributes := #[] }, { accessFlags := 10, nameIndex := 491, descriptorIndex := 222, attributes := #[] }, { accessFlags := 74, nameIndex := 29, descriptorIndex := 30, attributes := #[] }, { accessFlags := 74, nameIndex := 154, descriptorIndex := 155, attributes := #[] }, { accessFlags := 10, nameIndex := 217, descriptorIndex := 218, attributes := #[] }, { accessFlags := 10, nameIndex := 221, descriptorIndex := 222, attributes := #[] }, { accessFlags := 8, nameIndex := 562, descriptorIndex := 563, attributes := #[] }])
  fields := #[{ name := "in", type := (.object "java/io/InputStream"), accessFlags := 25, slot := 0, constantValue := 0 }, { name := "out", type := (.object "java/io/PrintStream"), accessFlags := 25, slot := 1, constantValue := 0 }, { name := "err", type := (.object "java/io/PrintStream"), accessFlags := 25, slot := 2, constantValue := 0 }, { name := "initialIn", type := (.object "java/io/InputStream"), accessFlags := 10, slot := 3, constantValue := 0 }, { name := "NEVER", type := .int, accessFlags := 26, slot := 4, constantValue := 0 }, { name := "MAYBE", type := .int, accessFlags := 26, slot := 5, constantValue := 0 }, { name := "allowSecurityManager", type := .int, accessFlags := 10, slot := 6, constantValue := 0 }, { name := "security", type := (.object "java/lang/SecurityManager"), accessFlags := 74, slot := 7, constantValue := 0 }, { name := "notSupportedJnuEncoding", type := (.object "java/lang/String"), accessFlags := 10, slot := 8, constantValue := 0 }, { name := "cons", type := (.object "java/io/Console"), accessFlags := 74, slot := 9, constantValue := 0 }, { name := "initialErrStream", type := (.object "java/io/PrintStream"), accessFlags := 74, slot := 10, constantValue := 0 }, { name := "props", type := (.object "java/util/Properties"), accessFlags := 10, slot := 11, constantValue := 0 }, { name := "lineSeparator", type := (.object "java/lang/String"), accessFlags := 10, slot := 12, constantValue := 0 }, { name := "bootLayer", type := (.object "java/lang/ModuleLayer"), accessFlags := 8, slot := 13, constantValue := 0 }]
  methods := #[k15m0, k15m1]
  instanceTypes := #[]
  staticTypes := #[(.object "java/io/InputStream"), (.object "java/io/PrintStream"), (.object "java/io/PrintStream"), (.object "java/io/InputStream"), .int, .int, .int, (.object "java/lang/SecurityManager"), (.object "java/lang/String"), (.object "java/io/Console"), (.object "java/io/PrintStream"), (.object "java/util/Properties"), (.object "java/lang/String"), (.object "java/lang/ModuleLayer")]
  resolved := Array.replicate 834 none
  statics := none }

def pool16 : Array CpInfo := pool [(4, .class_ 6), (1, u "java/lang/Object"), (0, u "<init>"), (0, u "()V"), (5, .class_ 16), (1, u "java/lang/StringLatin1"), (104, u "$assertionsDisabled"), (0, u "Z"), (98, .class_ 223), (1, u "java/lang/StringLatin1$LinesSpliterator"), (166, .class_ 391), (0, u "java/lang/StringLatin1$CharsSpliterator")] 3

def k16m0 : Method := { name := "<init>", desc := "()V", sig := { parameters := [], returnType := none }, accessFlags := 0, code := none }
/-- java/lang/StringLatin1 -/
def k16 : Class := { plain "java/lang/StringLatin1" (some 0) with
  accessFlags := 48
  interfaces := #[]
  cf := some (fileOf pool16 14 #[.nestMembers #[390, 221]] #[{ accessFlags := 0, nameIndex := 7, descriptorIndex := 8, attributes := #[] }] 48 4 #[] #[{ accessFlags := 4120, nameIndex := 121, descriptorIndex := 122, attributes := #[] }])
  fields := #[{ name := "$assertionsDisabled", type := .boolean, accessFlags := 4120, slot := 0, constantValue := 0 }]
  methods := #[k16m0]
  instanceTypes := #[]
  staticTypes := #[.boolean]
  resolved := Array.replicate 395 none
  statics := none }

def pool17 : Array CpInfo := pool [(9, u "<init>"), (6, .class_ 18), (1, u "java/lang/Object"), (0, u "()V"), (1, .class_ 23), (1, u "jdk/internal/util/ArraysSupport"), (0, u "LOG2_ARRAY_LONG_INDEX_SCALE"), (0, u "I"), (2, u "U"), (0, u "Ljdk/internal/misc/Unsafe;"), (8, u "BIG_ENDIAN"), (0, u "Z"), (8, u "LOG2_BYTE_BIT_SIZE"), (4, u "LOG2_ARRAY_INT_INDEX_SCALE"), (54, u "JLA"), (0, u "Ljdk/internal/access/JavaLangAccess;"), (11, u "LOG2_ARRAY_BOOLEAN_INDEX_SCALE"), (9, u "LOG2_ARRAY_BYTE_INDEX_SCALE"), (5, u "LOG2_ARRAY_CHAR_INDEX_SCALE"), (5, u "LOG2_ARRAY_SHORT_INDEX_SCALE"), (18, u "LOG2_ARRAY_FLOAT_INDEX_SCALE"), (24, u "LOG2_ARRAY_DOUBLE_INDEX_SCALE"), (89, u "T_BOOLEAN"), (2, u "T_CHAR"), (1, u "T_FLOAT"), (1, u "T_DOUBLE"), (1, u "T_BYTE"), (1, u "T_SHORT"), (1, u "T_INT"), (1, u "T_LONG"), (1, u "SOFT_MAX_ARRAY_LENGTH")] 83

def k17m0 : Method := { name := "<init>", desc := "()V", sig := { parameters := [], returnType := none }, accessFlags := 2, code := none }
/-- jdk/internal/util/ArraysSupport -/
def k17 : Class := { plain "jdk/internal/util/ArraysSupport" (some 0) with
  accessFlags := 33
  interfaces := #[]
  cf := some (fileOf pool17 21 #[] #[{ accessFlags := 2, nameIndex := 9, descriptorIndex := 19, attributes := #[] }] 33 16 #[] #[{ accessFlags := 24, nameIndex := 28, descriptorIndex := 29, attributes := #[] }, { accessFlags := 26, nameIndex := 38, descriptorIndex := 39, attributes := #[] }, { accessFlags := 25, nameIndex := 121, descriptorIndex := 25, attributes := #[] }, { accessFlags := 25, nameIndex := 131, descriptorIndex := 25, attributes := #[] }, { accessFlags := 25, nameIndex := 137, descriptorIndex := 25, attributes := #[] }, { accessFlags := 25, nameIndex := 143, descriptorIndex := 25, attributes := #[] }, { accessFlags := 25, nameIndex := 53, descriptorIndex := 25, attributes := #[] }, { accessFlags := 25, nameIndex := 24, descriptorIndex := 25, attributes := #[] }, { accessFlags := 25, nameIndex := 162, descriptorIndex := 25, attributes := #[] }, { accessFlags := 25, nameIndex := 187, descriptorIndex := 25, attributes := #[] }, { accessFlags := 26, nameIndex := 48, descriptorIndex := 25, attributes := #[] }, { accessFlags := 25, nameIndex := 277, descriptorIndex := 25, attributes := #[] }, { accessFlags := 25, nameIndex := 280, descriptorIndex := 25, attributes := #[] }, { accessFlags := 25, nameIndex := 282, descriptorIndex := 25, attributes := #[] }, { accessFlags := 25, nameIndex := 284, descriptorIndex := 25, attributes := #[] }, { accessFlags := 25, nameIndex := 286, descriptorIndex := 25, attributes := #[] }, { accessFlags := 25, nameIndex := 288, descriptorIndex := 25, attributes := #[] }, { accessFlags := 25, nameIndex := 290, descriptorIndex := 25, attributes := #[] }, { accessFlags := 25, nameIndex := 292, descriptorIndex := 25, attributes := #[] }, { accessFlags := 26, nameIndex := 108, descriptorIndex := 109, attributes := #[] }, { accessFlags := 25, nameIndex := 294, descriptorIndex := 25, attributes := #[] }])
  fields := #[{ name := "U", type := (.object "jdk/internal/misc/Unsafe"), accessFlags := 24, slot := 0, constantValue := 0 }, { name := "BIG_ENDIAN", type := .boolean, accessFlags := 26, slot := 1, constantValue := 0 }, { name := "LOG2_ARRAY_BOOLEAN_INDEX_SCALE", type := .int, accessFlags := 25, slot := 2, constantValue := 0 }, { name := "LOG2_ARRAY_BYTE_INDEX_SCALE", type := .int, accessFlags := 25, slot := 3, constantValue := 0 }, { name := "LOG2_ARRAY_CHAR_INDEX_SCALE", type := .int, accessFlags := 25, slot := 4, constantValue := 0 }, { name := "LOG2_ARRAY_SHORT_INDEX_SCALE", type := .int, accessFlags := 25, slot := 5, constantValue := 0 }, { name := "LOG2_ARRAY_INT_INDEX_SCALE", type := .int, accessFlags := 25, slot := 6, constantValue := 0 }, { name := "LOG2_ARRAY_LONG_INDEX_SCALE", type := .int, accessFlags := 25, slot := 7, constantValue := 0 }, { name := "LOG2_ARRAY_FLOAT_INDEX_SCALE", type := .int, accessFlags := 25, slot := 8, constantValue := 0 }, { name := "LOG2_ARRAY_DOUBLE_INDEX_SCALE", type := .int, accessFlags := 25, slot := 9, constantValue := 0 }, { name := "LOG2_BYTE_BIT_SIZE", type := .int, accessFlags := 26, slot := 10, constantValue := 0 }, { name := "T_BOOLEAN", type := .int, accessFlags := 25, slot := 11, constantValue := 0 }, { name := "T_CHAR", type := .int, accessFlags := 25, slot := 12, constantValue := 0 }, { name := "T_FLOAT", type := .int, accessFlags := 25, slot := 13, constantValue := 0 }, { name := "T_DOUBLE", type := .int, accessFlags := 25, slot := 14, constantValue := 0 }, { name := "T_BYTE", type := .int, accessFlags := 25, slot := 15, constantValue := 0 }, { name := "T_SHORT", type := .int, accessFlags := 25, slot := 16, constantValue := 0 }, { name := "T_INT", type := .int, accessFlags := 25, slot := 17, constantValue := 0 }, { name := "T_LONG", type := .int, accessFlags := 25, slot := 18, constantValue := 0 }, { name := "JLA", type := (.object "jdk/internal/access/JavaLangAccess"), accessFlags := 26, slot := 19, constantValue := 0 }, { name := "SOFT_MAX_ARRAY_LENGTH", type := .int, accessFlags := 25, slot := 20, constantValue := 0 }]
  methods := #[k17m0]
  instanceTypes := #[]
  staticTypes := #[(.object "jdk/internal/misc/Unsafe"), .boolean, .int, .int, .int, .int, .int, .int, .int, .int, .int, .int, .int, .int, .int, .int, .int, .int, .int, (.object "jdk/internal/access/JavaLangAccess"), .int]
  resolved := Array.replicate 378 none
  statics := none }

def pool18 : Array CpInfo := pool [(1, u "java/lang/Cloneable"), (0, .class_ 1), (0, u "java/lang/Object"), (0, .class_ 3)] 3

/-- java/lang/Cloneable -/
def k18 : Class := { plain "java/lang/Cloneable" (some 0) with
  accessFlags := 1537
  interfaces := #[]
  cf := some (fileOf pool18 2 #[] #[] 1537 4 #[] #[])
  fields := #[]
  methods := #[]
  instanceTypes := #[]
  staticTypes := #[]
  resolved := Array.replicate 8 none
  statics := none }

/-- the primitive byte -/
def k19 : Class := { plain "byte" none with kind := .primitive 'B', accessFlags := 0x411 }
/-- [B -/
def k20 : Class := { plain "[B" (some 0) with kind := .array 19 .byte, interfaces := #[18, 6], accessFlags := 1041 }

/-- the primitive char -/
def k21 : Class := { plain "char" none with kind := .primitive 'C', accessFlags := 0x411 }
/-- [C -/
def k22 : Class := { plain "[C" (some 0) with kind := .array 21 .char, interfaces := #[18, 6], accessFlags := 1041 }

/-- the primitive int -/
def k23 : Class := { plain "int" none with kind := .primitive 'I', accessFlags := 0x411 }
/-- [I -/
def k24 : Class := { plain "[I" (some 0) with kind := .array 23 .int, interfaces := #[18, 6], accessFlags := 1041 }

def heap : Heap := #[{ cls := 11, slots := #[.long 0, .int 1, .null, .int 0, .null, .int 0, .int 0], vm := .statics 11 },
  { cls := 13, slots := #[.null, .null, .null], vm := .statics 13 }]
def classes : Array Class := #[k0, k1, k2, k3, k4, k5, k6, k7, k8, k9, k10, k11, k12, k13, k14, k15, k16, k17, k18, k19, k20, k21, k22, k23, k24]
def interned : List (Array UInt16 × Addr) := []
def slotsUsed : Nat := 10
def theMethod : MethodId := ⟨1, 1⟩
def args0 : Array Value := #[.int 0, .int 0, .int 0, .int 0, .int 0, .int 0]
def aboutOver (below : List Frame) : State where
  vm := { classes := classes, interned := interned.toArray }
  heap := heap
  slotsUsed := slotsUsed
  threads := #[{ frames := .invoking theMethod args0 :: below }]
def below0 : List Frame := [.native { method := ⟨0, 0⟩, args := #[] }]
def about1 : State := aboutOver below0
def p0 : Program := .bare "" "" ""
def e0 : Env := launch0.env 0 0 0
theorem w_frames : about1.frames = Frame.invoking theMethod args0 :: below0 := rfl
set_option maxRecDepth 65536 in
theorem w_args : argsFit about1.vm theMethod args0 = true := by decide +kernel
set_option maxRecDepth 65536 in
theorem w_heap : heapFits about1 = true := by decide +kernel
set_option maxRecDepth 65536 in
theorem w_runnable : about1.curStatus? = some .runnable := by decide +kernel
set_option maxRecDepth 65536 in
theorem w_alone : about1.alone = true := by decide +kernel
set_option maxRecDepth 65536 in
theorem w_named : about1.methodNamed? x = some theMethod := by decide +kernel
set_option maxRecDepth 65536 in
theorem w_hears : about1.hears theMethod below0 = true := by decide +kernel
set_option maxRecDepth 65536 in
theorem w_ripe : about1.ripe theMethod args0 below0 = true := by decide +kernel
theorem w_running : about1.status = .running := rfl
set_option maxRecDepth 65536 in
theorem w_room : about1.hasRoom e0.platform room_1 = true :=
  launch0.hasRoom_least _ room_1 (by decide +kernel) (by decide +kernel) (by decide +kernel) (by decide +kernel) (by decide +kernel) (by decide +kernel)
theorem allAtoms_all (ts : List Jvm.Cond) (a : Array Jvm.Value) (st : Jvm.State) : (allAtoms ts).before a st = ts.all (fun c => c.before a st) := by
  induction ts with
  | nil => rfl
  | cons c t ih =>
    show (Jvm.Cond.and c (allAtoms t)).before a st = _
    rw [Jvm.Cond.before_and, ih, List.all_cons]
def words1 : List Jvm.Cond := Jvm.Cond.code x code maxLocals ret :: tables_1
/-- a 'code' word, met by the world's own term for the bytes: nothing is compared byte by byte -/
theorem code_word {y : MethodName} {bytes : ByteArray} {mx : Nat} {rt : Option FieldType} {a : Array Value} {s : State} {m : MethodId} {meth : Method} {c : Code} (h1 : s.methodNamed? y = some m) (h2 : s.vm.method? m = some meth) (h3 : meth.code = some c) (h4 : c.code = bytes)
    (h5 : (c.maxLocals == mx && c.exceptionTable.isEmpty && decide (c.maxStack ≤ mostOperands) && decide (meth.sig.returnType = rt) && !meth.locks && decide (parseMethodDescriptor y.desc = some meth.sig)) = true) : (Jvm.Cond.code y bytes mx rt).before a s = true := by
  simp only [Bool.and_eq_true, beq_iff_eq, Bool.not_eq_true', decide_eq_true_eq] at h5
  obtain ⟨⟨⟨⟨⟨g1, g2⟩, g3⟩, g4⟩, g5⟩, g6⟩ := h5
  simp [Cond.before, Cond.holds, Cond.value, h1, h2, h3, h4, g1, g2, g3, g4, g5, g6]
def isCode : Jvm.Cond → Bool
  | .code _ _ _ _ => true
  | _ => false
theorem all_split {L : List Jvm.Cond} {P : Jvm.Cond → Bool} (h1 : L.all (fun c => isCode c || P c) = true) (h2 : ∀ c ∈ L.filter isCode, P c = true) : L.all P = true := by
  refine List.all_eq_true.mpr fun c hc => ?_
  have h := List.all_eq_true.mp h1 c hc
  rcases Bool.eq_false_or_eq_true (isCode c) with hi | hi
  · exact h2 c (List.mem_filter.mpr ⟨hc, hi⟩)
  · simpa [hi] using h
set_option maxRecDepth 65536 in
theorem w_c0 : (Jvm.Cond.code x code maxLocals ret).before args0 about1 = true := code_word (m := ⟨1, 1⟩) (meth := k1m1) (c := k1c1) (by decide +kernel) rfl rfl rfl (by decide +kernel)
set_option maxRecDepth 65536 in
theorem w_c1 : (Jvm.Cond.code ({ cls := "com/example/nodewarden/nodewarden/core/Asides", name := "<init>", desc := "()V" } : Jvm.MethodName) prog_3_method_1_code (1 : Nat) (Option.none : Option Jvm.ClassFile.FieldType)).before args0 about1 = true := code_word (m := ⟨2, 0⟩) (meth := k2m0) (c := k2c0) (by decide +kernel) rfl rfl rfl (by decide +kernel)
set_option maxRecDepth 65536 in
theorem w_c2 : (Jvm.Cond.code ({ cls := "java/lang/Object", name := "<init>", desc := "()V" } : Jvm.MethodName) object_method_1_code (1 : Nat) (Option.none : Option Jvm.ClassFile.FieldType)).before args0 about1 = true := code_word (m := ⟨0, 0⟩) (meth := k0m0) (c := k0c0) (by decide +kernel) rfl rfl rfl (by decide +kernel)
set_option maxRecDepth 65536 in
theorem w_c3 : (Jvm.Cond.code ({ cls := "java/lang/StringBuilder", name := "<init>", desc := "()V" } : Jvm.MethodName) jdk_67_method_1_code (1 : Nat) (Option.none : Option Jvm.ClassFile.FieldType)).before args0 about1 = true := code_word (m := ⟨8, 0⟩) (meth := k8m0) (c := k8c0) (by decide +kernel) rfl rfl rfl (by decide +kernel)
set_option maxRecDepth 65536 in
theorem w_c4 : (Jvm.Cond.code ({ cls := "java/lang/AbstractStringBuilder", name := "<init>", desc := "(I)V" } : Jvm.MethodName) jdk_68_method_2_code (2 : Nat) (Option.none : Option Jvm.ClassFile.FieldType)).before args0 about1 = true := code_word (m := ⟨5, 1⟩) (meth := k5m1) (c := k5c1) (by decide +kernel) rfl rfl rfl (by decide +kernel)
set_option maxRecDepth 65536 in
theorem w_c5 : (Jvm.Cond.code ({ cls := "com/example/nodewarden/nodewarden/core/Asides", name := "after", desc := "(III)I" } : Jvm.MethodName) prog_3_method_6_code (5 : Nat) (Option.some Jvm.ClassFile.FieldType.int)).before args0 about1 = true := code_word (m := ⟨2, 2⟩) (meth := k2m2) (c := k2c2) (by decide +kernel) rfl rfl rfl (by decide +kernel)
set_option maxRecDepth 65536 in
theorem w_c6 : (Jvm.Cond.code ({ cls := "java/lang/Math", name := "max", desc := "(II)I" } : Jvm.MethodName) jdk_29_method_65_code (2 : Nat) (Option.some Jvm.ClassFile.FieldType.int)).before args0 about1 = true := code_word (m := ⟨12, 1⟩) (meth := k12m1) (c := k12c1) (by decide +kernel) rfl rfl rfl (by decide +kernel)
set_option maxRecDepth 65536 in
theorem w_c7 : (Jvm.Cond.code ({ cls := "com/example/nodewarden/nodewarden/core/Asides", name := "addComment", desc := "(III[CII)V" } : Jvm.MethodName) prog_3_method_2_code (7 : Nat) (Option.none : Option Jvm.ClassFile.FieldType)).before args0 about1 = true := code_word (m := ⟨2, 1⟩) (meth := k2m1) (c := k2c1) (by decide +kernel) rfl rfl rfl (by decide +kernel)
set_option maxRecDepth 65536 in
theorem w_c8 : (Jvm.Cond.code ({ cls := "java/lang/StringBuilder", name := "append", desc := "([CII)Ljava/lang/StringBuilder;" } : Jvm.MethodName) jdk_67_method_12_code (4 : Nat) (Option.some (Jvm.ClassFile.FieldType.object "java/lang/StringBuilder"))).before args0 about1 = true := code_word (m := ⟨8, 1⟩) (meth := k8m1) (c := k8c1) (by decide +kernel) rfl rfl rfl (by decide +kernel)
set_option maxRecDepth 65536 in
theorem w_c9 : (Jvm.Cond.code ({ cls := "java/lang/AbstractStringBuilder", name := "append", desc := "([CII)Ljava/lang/AbstractStringBuilder;" } : Jvm.MethodName) jdk_68_method_29_code (5 : Nat) (Option.some (Jvm.ClassFile.FieldType.object "java/lang/AbstractStringBuilder"))).before args0 about1 = true := code_word (m := ⟨5, 4⟩) (meth := k5m4) (c := k5c4) (by decide +kernel) rfl rfl rfl (by decide +kernel)
set_option maxRecDepth 65536 in
theorem w_c10 : (Jvm.Cond.code ({ cls := "jdk/internal/util/Preconditions", name := "checkFromToIndex", desc := "(IIILjava/util/function/BiFunction;)I" } : Jvm.MethodName) jdk_41_method_12_code (4 : Nat) (Option.some Jvm.ClassFile.FieldType.int)).before args0 about1 = true := code_word (m := ⟨13, 1⟩) (meth := k13m1) (c := k13c1) (by decide +kernel) rfl rfl rfl (by decide +kernel)
set_option maxRecDepth 65536 in
theorem w_c11 : (Jvm.Cond.code ({ cls := "java/lang/AbstractStringBuilder", name := "ensureCapacityInternal", desc := "(I)V" } : Jvm.MethodName) jdk_68_method_9_code (3 : Nat) (Option.none : Option Jvm.ClassFile.FieldType)).before args0 about1 = true := code_word (m := ⟨5, 3⟩) (meth := k5m3) (c := k5c3) (by decide +kernel) rfl rfl rfl (by decide +kernel)
set_option maxRecDepth 65536 in
theorem w_c12 : (Jvm.Cond.code ({ cls := "java/lang/AbstractStringBuilder", name := "appendChars", desc := "([CII)V" } : Jvm.MethodName) jdk_68_method_74_code (9 : Nat) (Option.none : Option Jvm.ClassFile.FieldType)).before args0 about1 = true := code_word (m := ⟨5, 6⟩) (meth := k5m6) (c := k5c6) (by decide +kernel) rfl rfl rfl (by decide +kernel)
set_option maxRecDepth 65536 in
theorem w_c13 : (Jvm.Cond.code ({ cls := "java/lang/AbstractStringBuilder", name := "isLatin1", desc := "()Z" } : Jvm.MethodName) jdk_68_method_68_code (1 : Nat) (Option.some Jvm.ClassFile.FieldType.boolean)).before args0 about1 = true := code_word (m := ⟨5, 5⟩) (meth := k5m5) (c := k5c5) (by decide +kernel) rfl rfl rfl (by decide +kernel)
set_option maxRecDepth 65536 in
theorem w_c14 : (Jvm.Cond.code ({ cls := "com/example/nodewarden/nodewarden/core/Asides", name := "add", desc := "(IIII)V" } : Jvm.MethodName) prog_3_method_13_code (6 : Nat) (Option.none : Option Jvm.ClassFile.FieldType)).before args0 about1 = true := code_word (m := ⟨2, 3⟩) (meth := k2m3) (c := k2c3) (by decide +kernel) rfl rfl rfl (by decide +kernel)
set_option maxRecDepth 65536 in
theorem w_c15 : (Jvm.Cond.code ({ cls := "java/util/Arrays", name := "copyOf", desc := "([II)[I" } : Jvm.MethodName) jdk_65_method_123_code (3 : Nat) (Option.some (Jvm.ClassFile.FieldType.array Jvm.ClassFile.FieldType.int))).before args0 about1 = true := code_word (m := ⟨14, 1⟩) (meth := k14m1) (c := k14c1) (by decide +kernel) rfl rfl rfl (by decide +kernel)
set_option maxRecDepth 65536 in
theorem w_c16 : (Jvm.Cond.code ({ cls := "java/lang/Math", name := "min", desc := "(II)I" } : Jvm.MethodName) jdk_29_method_69_code (2 : Nat) (Option.some Jvm.ClassFile.FieldType.int)).before args0 about1 = true := code_word (m := ⟨12, 2⟩) (meth := k12m2) (c := k12c2) (by decide +kernel) rfl rfl rfl (by decide +kernel)
set_option maxRecDepth 65536 in
theorem w_c17 : (Jvm.Cond.code ({ cls := "java/lang/StringBuilder", name := "length", desc := "()I" } : Jvm.MethodName) jdk_67_method_93_code (1 : Nat) (Option.some Jvm.ClassFile.FieldType.int)).before args0 about1 = true := code_word (m := ⟨8, 2⟩) (meth := k8m2) (c := k8c2) (by decide +kernel) rfl rfl rfl (by decide +kernel)
set_option maxRecDepth 65536 in
theorem w_c18 : (Jvm.Cond.code ({ cls := "java/lang/AbstractStringBuilder", name := "length", desc := "()I" } : Jvm.MethodName) jdk_68_method_6_code (1 : Nat) (Option.some Jvm.ClassFile.FieldType.int)).before args0 about1 = true := code_word (m := ⟨5, 2⟩) (meth := k5m2) (c := k5c2) (by decide +kernel) rfl rfl rfl (by decide +kernel)
set_option maxRecDepth 65536 in
theorem w_c19 : (Jvm.Cond.code ({ cls := "com/example/nodewarden/nodewarden/core/AsidesAfterPinLaw", name := "in", desc := "(III)Z" } : Jvm.MethodName) method_3_code (3 : Nat) (Option.some Jvm.ClassFile.FieldType.boolean)).before args0 about1 = true := code_word (m := ⟨1, 2⟩) (meth := k1m2) (c := k1c2) (by decide +kernel) rfl rfl rfl (by decide +kernel)
def codes1 : List Jvm.Cond := [Jvm.Cond.code x code maxLocals ret, Jvm.Cond.code ({ cls := "com/example/nodewarden/nodewarden/core/Asides", name := "<init>", desc := "()V" } : Jvm.MethodName) prog_3_method_1_code (1 : Nat) (Option.none : Option Jvm.ClassFile.FieldType), Jvm.Cond.code ({ cls := "java/lang/Object", name := "<init>", desc := "()V" } : Jvm.MethodName) object_method_1_code (1 : Nat) (Option.none : Option Jvm.ClassFile.FieldType), Jvm.Cond.code ({ cls := "java/lang/StringBuilder", name := "<init>", desc := "()V" } : Jvm.MethodName) jdk_67_method_1_code (1 : Nat) (Option.none : Option Jvm.ClassFile.FieldType), Jvm.Cond.code ({ cls := "java/lang/AbstractStringBuilder", name := "<init>", desc := "(I)V" } : Jvm.MethodName) jdk_68_method_2_code (2 : Nat) (Option.none : Option Jvm.ClassFile.FieldType), Jvm.Cond.code ({ cls := "com/example/nodewarden/nodewarden/core/Asides", name := "after", desc := "(III)I" } : Jvm.MethodName) prog_3_method_6_code (5 : Nat) (Option.some Jvm.ClassFile.FieldType.int), Jvm.Cond.code ({ cls := "java/lang/Math", name := "max", desc := "(II)I" } : Jvm.MethodName) jdk_29_method_65_code (2 : Nat) (Option.some Jvm.ClassFile.FieldType.int), Jvm.Cond.code ({ cls := "com/example/nodewarden/nodewarden/core/Asides", name := "addComment", desc := "(III[CII)V" } : Jvm.MethodName) prog_3_method_2_code (7 : Nat) (Option.none : Option Jvm.ClassFile.FieldType), Jvm.Cond.code ({ cls := "java/lang/StringBuilder", name := "append", desc := "([CII)Ljava/lang/StringBuilder;" } : Jvm.MethodName) jdk_67_method_12_code (4 : Nat) (Option.some (Jvm.ClassFile.FieldType.object "java/lang/StringBuilder")), Jvm.Cond.code ({ cls := "java/lang/AbstractStringBuilder", name := "append", desc := "([CII)Ljava/lang/AbstractStringBuilder;" } : Jvm.MethodName) jdk_68_method_29_code (5 : Nat) (Option.some (Jvm.ClassFile.FieldType.object "java/lang/AbstractStringBuilder")), Jvm.Cond.code ({ cls := "jdk/internal/util/Preconditions", name := "checkFromToIndex", desc := "(IIILjava/util/function/BiFunction;)I" } : Jvm.MethodName) jdk_41_method_12_code (4 : Nat) (Option.some Jvm.ClassFile.FieldType.int), Jvm.Cond.code ({ cls := "java/lang/AbstractStringBuilder", name := "ensureCapacityInternal", desc := "(I)V" } : Jvm.MethodName) jdk_68_method_9_code (3 : Nat) (Option.none : Option Jvm.ClassFile.FieldType), Jvm.Cond.code ({ cls := "java/lang/AbstractStringBuilder", name := "appendChars", desc := "([CII)V" } : Jvm.MethodName) jdk_68_method_74_code (9 : Nat) (Option.none : Option Jvm.ClassFile.FieldType), Jvm.Cond.code ({ cls := "java/lang/AbstractStringBuilder", name := "isLatin1", desc := "()Z" } : Jvm.MethodName) jdk_68_method_68_code (1 : Nat) (Option.some Jvm.ClassFile.FieldType.boolean), Jvm.Cond.code ({ cls := "com/example/nodewarden/nodewarden/core/Asides", name := "add", desc := "(IIII)V" } : Jvm.MethodName) prog_3_method_13_code (6 : Nat) (Option.none : Option Jvm.ClassFile.FieldType), Jvm.Cond.code ({ cls := "java/util/Arrays", name := "copyOf", desc := "([II)[I" } : Jvm.MethodName) jdk_65_method_123_code (3 : Nat) (Option.some (Jvm.ClassFile.FieldType.array Jvm.ClassFile.FieldType.int)), Jvm.Cond.code ({ cls := "java/lang/Math", name := "min", desc := "(II)I" } : Jvm.MethodName) jdk_29_method_69_code (2 : Nat) (Option.some Jvm.ClassFile.FieldType.int), Jvm.Cond.code ({ cls := "java/lang/StringBuilder", name := "length", desc := "()I" } : Jvm.MethodName) jdk_67_method_93_code (1 : Nat) (Option.some Jvm.ClassFile.FieldType.int), Jvm.Cond.code ({ cls := "java/lang/AbstractStringBuilder", name := "length", desc := "()I" } : Jvm.MethodName) jdk_68_method_6_code (1 : Nat) (Option.some Jvm.ClassFile.FieldType.int), Jvm.Cond.code ({ cls := "com/example/nodewarden/nodewarden/core/AsidesAfterPinLaw", name := "in", desc := "(III)Z" } : Jvm.MethodName) method_3_code (3 : Nat) (Option.some Jvm.ClassFile.FieldType.boolean)]
set_option maxRecDepth 65536 in
theorem codes_eq : words1.filter isCode = codes1 := rfl
theorem w_codes : ∀ c ∈ words1.filter isCode, c.before args0 about1 = true := by
  rw [codes_eq]
  intro c hc
  simp only [codes1, List.mem_cons, List.not_mem_nil, or_false] at hc
  rcases hc with rfl | rfl | rfl | rfl | rfl | rfl | rfl | rfl | rfl | rfl | rfl | rfl | rfl | rfl | rfl | rfl | rfl | rfl | rfl | rfl
  · exact w_c0
  · exact w_c1
  · exact w_c2
  · exact w_c3
  · exact w_c4
  · exact w_c5
  · exact w_c6
  · exact w_c7
  · exact w_c8
  · exact w_c9
  · exact w_c10
  · exact w_c11
  · exact w_c12
  · exact w_c13
  · exact w_c14
  · exact w_c15
  · exact w_c16
  · exact w_c17
  · exact w_c18
  · exact w_c19
set_option maxRecDepth 65536 in
theorem w_t1 : (words1.take 24).all (fun c => isCode c || c.before args0 about1) = true := by decide +kernel
set_option maxRecDepth 65536 in
theorem w_t2 : ((words1.drop 24).take 24).all (fun c => isCode c || c.before args0 about1) = true := by decide +kernel
set_option maxRecDepth 65536 in
theorem w_t3 : (((words1.drop 24).drop 24).take 24).all (fun c => isCode c || c.before args0 about1) = true := by decide +kernel
set_option maxRecDepth 65536 in
theorem w_t4 : ((((words1.drop 24).drop 24).drop 24).take 24).all (fun c => isCode c || c.before args0 about1) = true := by decide +kernel
set_option maxRecDepth 65536 in
theorem w_t5 : ((((words1.drop 24).drop 24).drop 24).drop 24).all (fun c => isCode c || c.before args0 about1) = true := by decide +kernel
theorem w_tables : (allAtoms (Jvm.Cond.code x code maxLocals ret :: tables_1)).before args0 about1 = true := by
  rw [allAtoms_all]
  show words1.all (fun c => c.before args0 about1) = true
  refine all_split ?_ w_codes
  rw [← List.take_append_drop 24 words1, List.all_append, w_t1, ← List.take_append_drop 24 (words1.drop 24), List.all_append, w_t2, ← List.take_append_drop 24 ((words1.drop 24).drop 24), List.all_append, w_t3, ← List.take_append_drop 24 (((words1.drop 24).drop 24).drop 24), List.all_append, w_t4, w_t5]
  rfl
set_option maxRecDepth 65536 in
theorem w_rest : rest_1_c.before args0 about1 = true := by decide +kernel
set_option maxRecDepth 65536 in
theorem w_case : (Jvm.Cond.and given_1 narrow_1).before args0 about1 = true := by decide +kernel
theorem w_applies : (headSpec (Jvm.Cond.code x code maxLocals ret :: tables_1) room_1).applies x e0.platform about1 = true :=
  (Spec.applies_iff w_frames).mpr ⟨w_running, w_runnable, w_alone, w_named, w_hears, w_ripe, w_room, w_tables⟩
theorem atStart : AtStart classFile x code maxLocals ret World_1 tables_1 room_1 Calls_1 rest_1 Pre_1 launch0 p0 e0 about1 theMethod args0 below0 :=
  ⟨lists_1, trivial, launch0.admits_env _ _ _, launch0.least_env, fairChoices_fair.cas, fairChoices_fair.clock, w_frames, w_args, w_heap, w_applies, trivial, w_rest, w_case⟩
end start1
theorem witness_1 : WitnessClaimed_1 := ⟨start1.p0, start1.e0, start1.about1, start1.theMethod, start1.args0, start1.below0, start1.atStart⟩
end Jvm.Pilot.@@N@@
