import JvmDerived
import JvmDerived.Pilot.@@N@@Statement
import JvmDerived.Pilot.@@N@@Code
set_option linter.unusedVariables false
set_option linter.unusedSimpArgs false
namespace Jvm.OwnKit
open Jvm Sem ClassFile Op Lib Jvm.Stand Jvm.Free Jvm.LawKit Jvm.RoadKit Bundle
/-- the rest of the walk comes to an end that Q allows -/
def Go (p : Program) (e : Env) (below : List Frame) (Q : Outcome → State → Prop) (t : State) : Prop :=
  ∃ s₂ o, Steps p.tables e below t s₂ ∧ s₂.status = .running ∧ Ended s₂ below o ∧ Q o s₂
theorem Go.of {p : Program} {e : Env} {below : List Frame} {Q : Outcome → State → Prop} {t t' : State} (h : ∀ target, Steps p.tables e below t' target → Steps p.tables e below t target) (g : Go p e below Q t') : Go p e below Q t := by
  obtain ⟨s₂, o, h1, r⟩ := g
  exact ⟨s₂, o, h _ h1, r⟩
/-- where the walk stands: T the state, V the tables on which it leans, h the heap, k cells and n slots booked -/
def St (p : Program) (l : Launch) (e : Env) (R : Room) (s : State) (m : MethodId) (args : Array Value) (below : List Frame) (meth : Method) (c : Code) (Z : State) (a0 : Array Value) (EL : List (String × Nat)) (n0 : Nat) (own : String) (T : State) (V : Vm) (h : Heap) (k n : Nat) : Prop :=
  p.tables.exec = Jvm.exec ∧ T.heap = h ∧ Z.Warmed39 V ∧ V.findClass own = some m.cls ∧ Old Z n0 h ∧ EW Z a0 EL ∧ CHr Z EL s.vm s.heap V h ∧ meth.locks = false ∧
  ∃ locs k0, Stand p l e R (s.setVm V) m args below meth c T locs k n ∧ s.Since V k0 ∧ k0 ≤ h.size ∧ Fr n0 locs
/-- the end of a walk -/
def Fini (Z : State) (EL : List (String × Nat)) (n0 : Nat) (s : State) (rm : Room) (Q : Option Value → Heap → Prop) (o : Outcome) (U : State) : Prop :=
  ∃ v L, o = .returned v ∧ (Q v U.heap ∧ Fr n0 L ∧ Old Z n0 U.heap) ∧ CHr Z EL s.vm s.heap U.vm U.heap ∧ ReturnedEndW s o U L rm.cells rm.slots
/-- a callee's contract: handed as' at the heap h it returns v at a heap h' with Q v h' -/
def Ctr (l : Launch) (Z : State) (EL : List (String × Nat)) (n0 : Nat) (y : MethodName) (bytes : ByteArray) (maxL : Nat) (ret : Option FieldType) (rm : Room) (as' : Array Value) (h : Heap) (sfs : List Addr) (Q : Option Value → Heap → Prop) : Prop :=
  ∀ ws : List Cond, MetFree l y (head1 (Cond.code y bytes maxL ret :: ws) rm) (fun a U => a = as' ∧ Z.Warmed39 U.vm ∧ U.heap = h ∧ CHv Z EL U.vm h ∧ ∀ x ∈ sfs, Safe Z EL U.vm h x) (fun _ _ _ _ _ => True) (fun _ U o U' => Fini Z EL n0 U rm Q o U')
theorem ext_refl (h : Heap) : Ext h h := ⟨Nat.le_refl _, fun _ _ q => q⟩
theorem ext_trans {h h' h2 : Heap} (E : Ext h h') (F : Ext h' h2) : Ext h h2 := ⟨Nat.le_trans E.1 F.1, fun a c q => F.2 a c (E.2 a c q)⟩
theorem ext_keep {h h' h2 : Heap} {ws : List Addr} (E : Ext h h') (K : Keep h' h2 ws) (q : ∀ x ∈ ws, h.size ≤ x) : Ext h h2 := ⟨Nat.le_trans E.1 K.1, fun a c r => K.2.1 a c (E.2 a c r) fun z => absurd (Array.getElem?_eq_some_iff.mp r).1 (Nat.not_lt.mpr (q a z))⟩
theorem ext_keep1 {h h' h2 : Heap} {a : Addr} (E : Ext h h') (K : Keep h' h2 [a]) (q : h.size ≤ a) : Ext h h2 := ext_keep E K (allS q all0)
theorem faS {P : Int32 → Prop} {y : Int32} {L : List Int32} (q : P y) (r : ∀ x ∈ L, P x) : ∀ x ∈ y :: L, P x := fun x z => (List.mem_cons.mp z).elim (fun u => u ▸ q) (r x)
theorem fa0 {P : Int32 → Prop} : ∀ x ∈ ([] : List Int32), P x := fun _ q => nomatch q
theorem sf1 {Z : State} {EL : List (String × Nat)} {V : Vm} {h : Heap} {x : Addr} (q : x < h.size) (r : Safe Z EL V h x) : ∀ y ∈ [x], y < h.size ∧ Safe Z EL V h y := fun y z => by cases List.mem_singleton.mp z; exact ⟨q, r⟩
theorem narC {x : Int32} (h : ¬ x < 0 ∧ ¬ (65535 : Int32) < x) : nar .char x = x := by
  obtain ⟨h1, h2⟩ := h
  have q := c_i2c x
  rw [Int32.lt_iff_toInt_lt] at h1 h2
  have e1 : (65535 : Int32).toInt = 65535 := rfl
  have e2 : (0 : Int32).toInt = 0 := rfl
  show x.toUInt32.toUInt16.toUInt32.toInt32 = x
  apply Int32.toInt_inj.mp
  omega
theorem narC8 {x : Int32} (h : ¬ x < 0 ∧ ¬ (255 : Int32) < x) : nar .char x = x := narC ⟨h.1, fun q => h.2 (by rw [Int32.lt_iff_toInt_lt] at q ⊢; have e1 : (65535 : Int32).toInt = 65535 := rfl; have e2 : (255 : Int32).toInt = 255 := rfl; omega)⟩
/-- x & 255 -/
theorem and255 (x : Int32) : ¬ (x &&& 255) < 0 ∧ ¬ (255 : Int32) < (x &&& 255) := by
  have q := c_mask x 255 8 (by decide) (by decide)
  have e1 : (255 : Int32).toInt = 255 := rfl
  have e2 : (0 : Int32).toInt = 0 := rfl
  rw [Int32.lt_iff_toInt_lt, Int32.lt_iff_toInt_lt]
  omega
theorem and255L (x : Int64) : ¬ (x &&& 255).toInt32 < 0 ∧ ¬ (255 : Int32) < (x &&& 255).toInt32 := by
  have q := c_maskL x 255 8 (by decide) (by decide)
  have r := c_l2i (x &&& 255)
  have s := rng32 (x &&& 255).toInt32
  have e1 : (255 : Int32).toInt = 255 := rfl
  have e2 : (0 : Int32).toInt = 0 := rfl
  rw [Int32.lt_iff_toInt_lt, Int32.lt_iff_toInt_lt]
  omega
/-- an object of a class right under the root is none of another class -/
theorem noSub1 {Z : State} {a0 : Array Value} {C O K : String} {n : Nat} (w : (Cond.superclass C O).before a0 Z = true) (wo : (Cond.noSuperclass O).before a0 Z = true) (wi : (Cond.instantiable K n).before a0 Z = true) (h1 : C ≠ K) (h2 : O ≠ K) : ∃ c t, Z.vm.findClass C = some c ∧ Z.vm.findClass K = some t ∧ Z.vm.assignable c t = false := by
  obtain ⟨t, kt, g1, g2, g3, g4, -⟩ := Cond.instantiable_spec wi
  obtain ⟨co, ko, o1, o2, o3, -, -⟩ := Cond.noSuperclass_spec wo
  have g5 : kt.isInterface = false := (Bool.or_eq_false_iff.mp g4).1
  have nO : NS Z O K := ⟨co, t, o1, g1, fun fuel => by
    cases fuel with
    | zero => rfl
    | succ f => simp [Vm.isSubclassAux, ids_ne o1 g1 h2, o2, o3]⟩
  obtain ⟨c, t', h0, g0, n3⟩ := NS.step w nO h1
  cases g1.symm.trans g0
  obtain ⟨p, k, kp, q1, q2, q3, q4, q5, -, q7⟩ := Cond.superclass_spec h0 w
  refine ⟨c, t, h0, g1, ?_⟩
  show Z.vm.assignableAux (255 + 1) c t = false
  simp [Vm.assignableAux, ids_ne h0 g1 h1, q2, g2, q5, g3, g5, Vm.isSubclass, n3]
section Steps
variable {p : Program} {l : Launch} {e : Env} {R : Room} {s : State} {m : MethodId} {args : Array Value} {below : List Frame} {meth : Method} {c : Code} {Z : State} {a0 : Array Value} {EL : List (String × Nat)} {n0 : Nat} {own : String} {T : State} {V : Vm} {h : Heap} {k n : Nat} {Q : Outcome → State → Prop} {pc : Nat} {Ls : Array Slot} {rest : List Value}
theorem St.hx (S : St p l e R s m args below meth c Z a0 EL n0 own T V h k n) : p.tables.exec = Jvm.exec := S.1
theorem St.here (S : St p l e R s m args below meth c Z a0 EL n0 own T V h k n) : At T m c below := by
  obtain ⟨-, -, -, -, -, -, -, -, locs, k0, X, -⟩ := S; exact X.here
theorem St.old (S : St p l e R s m args below meth c Z a0 EL n0 own T V h k n) : Old Z n0 h := S.2.2.2.2.1
theorem St.chv (S : St p l e R s m args below meth c Z a0 EL n0 own T V h k n) : CHv Z EL V h := S.2.2.2.2.2.2.1.1
theorem St.warm (S : St p l e R s m args below meth c Z a0 EL n0 own T V h k n) : Z.Warmed39 V := S.2.2.1
theorem St.ew (S : St p l e R s m args below meth c Z a0 EL n0 own T V h k n) : EW Z a0 EL := S.2.2.2.2.2.1
theorem St.le (S : St p l e R s m args below meth c Z a0 EL n0 own T V h k n) : n0 ≤ h.size := S.old.1 ▸ S.old.2.1
/-- a callee is entered -/
theorem Ctr.intro {y : MethodName} {bytes : ByteArray} {maxL : Nat} {ret : Option FieldType} {rm : Room} {as' : Array Value} {sfs : List Addr} {QQ : Option Value → Heap → Prop} (hp : plainFor y = true) (hO : Old Z n0 h) (hE : EW Z a0 EL)
    (body : ∀ (p : Program) (e : Env) (s : State) (m : MethodId) (below : List Frame) (meth : Method) (c : Code) (T : State) (V : Vm), St p l e rm s m as' below meth c Z a0 EL n0 y.cls T V h 0 0 → c.code = bytes → c.maxLocals = maxL → meth.sig.returnType = ret → meth.name = y.name → (∀ x ∈ sfs, Safe Z EL V h x) →
      Go p e below (Fini Z EL n0 s rm QQ) (T.setTop (entryFrame m as' maxL))) :
    Ctr l Z EL n0 y bytes maxL ret rm as' h sfs QQ := by
  intro ws
  refine MetFree.of_bodySF hp hisR ?_
  intro p e s m args below meth c s₁ Bd hml0 hP hK
  obtain ⟨rfl, hZ, hh, hC, hsf⟩ := hP
  have X0 : Stand p l e rm s m args below meth c s₁ [] 0 0 := Stand.of_body Bd
  have e0 : s₁.heap = h := by rw [← hh, Bd.state]; rfl
  have hC0 : CHr Z EL s.vm s.heap s.vm h := by rw [hh]; exact CHr.refl hC
  exact body p e s m below meth c s₁ s.vm ⟨Bd.exec, e0, hZ, findClass_of_methodNamed Bd.named, hO, hE, hC0, Bd.notSynchronized, [], h.size, X0, (State.WarmedH.refl s).since _, Nat.le_refl _, Fr.nil n0⟩ Bd.bytes hml0 Bd.returns (name_of_methodNamed Bd.named Bd.method).1 hsf
theorem St.end_ {QQ : Option Value → Heap → Prop} (S : St p l e R s m args below meth c Z a0 EL n0 own T V h k n) {v : Option Value} (hv : meth.sig.returnType = none → v = none) (q : QQ v h) (hc : k ≤ R.cells) (hl : n ≤ R.slots) {t : State}
    (st : ∀ fs, (∀ (f : JFrame) (acts : List Action), f.method = m → f.locked = none → f.entered = [] → (doReturn e (T.setTop f) acts v).1 = T.setFrames fs) → Steps p.tables e below t (T.setFrames fs)) : Go p e below (Fini Z EL n0 s R QQ) t := by
  obtain ⟨hx, eT, hZ, hown, hO, hE, hC, hlk, locs, k0, X, hS, hk, hF⟩ := S
  subst eT
  obtain ⟨fs, hr, hrun, hend, hw⟩ := X.leaveW hS hk hv hlk
  refine ⟨_, _, st fs hr, hrun, hend, v, locs, rfl, ⟨q, hF, hO⟩, (show CHr Z EL s.vm s.heap T.vm T.heap from hC.trans (CHv.at X hZ hE hC.1)), ?_⟩
  obtain ⟨w1, w2, w3, w4⟩ := hw
  exact ⟨w1, w2, w3, w4.mono hc hl⟩
theorem g_ret {QQ : Option Value → Heap → Prop} (S : St p l e R s m args below meth c Z a0 EL n0 own T V h k n) (hd : decode c.code pc = .ok (.return_, 1)) (hret : meth.sig.returnType = none) (q : QQ none h) (hc : k ≤ R.cells := by exact Nat.le_of_ble_eq_true rfl) (hl : n ≤ R.slots := by exact Nat.le_of_ble_eq_true rfl) : Go p e below (Fini Z EL n0 s R QQ) (T.setTop (mkF m pc Ls [])) := by
  refine S.end_ (v := none) (fun _ => rfl) q hc hl fun fs hr => ?_
  obtain ⟨hx, eT, hZ, hown, hO, hE, hC, hlk, locs, k0, X, hS, hk, hF⟩ := S
  exact X.returnOut hx hret hd hr
theorem g_iretN {QQ : Option Value → Heap → Prop} {z : Int32} (S : St p l e R s m args below meth c Z a0 EL n0 own T V h k n) (hd : decode c.code pc = .ok (.ireturn, 1)) {t : FieldType} (hret : meth.sig.returnType = some t) (ht : t = .boolean ∨ t = .byte ∨ t = .char ∨ t = .short) (q : QQ (some (.int (nar t z))) h) (hc : k ≤ R.cells := by exact Nat.le_of_ble_eq_true rfl) (hl : n ≤ R.slots := by exact Nat.le_of_ble_eq_true rfl) : Go p e below (Fini Z EL n0 s R QQ) (T.setTop (mkF m pc Ls (.int z :: rest))) := by
  refine S.end_ (v := some (.int (nar t z))) (fun h => by rw [hret] at h; cases h) q hc hl fun fs hr => ?_
  obtain ⟨hx, eT, hZ, hown, hO, hE, hC, hlk, locs, k0, X, hS, hk, hF⟩ := S
  exact retN X hx hret ht hd hr
theorem g_iret {QQ : Option Value → Heap → Prop} {z : Int32} (S : St p l e R s m args below meth c Z a0 EL n0 own T V h k n) (hd : decode c.code pc = .ok (.ireturn, 1)) (hret : meth.sig.returnType = some .int) (q : QQ (some (.int z)) h) (hc : k ≤ R.cells := by exact Nat.le_of_ble_eq_true rfl) (hl : n ≤ R.slots := by exact Nat.le_of_ble_eq_true rfl) : Go p e below (Fini Z EL n0 s R QQ) (T.setTop (mkF m pc Ls (.int z :: rest))) := by
  refine S.end_ (v := some (.int z)) (fun h => by rw [hret] at h; cases h) q hc hl fun fs hr => ?_
  obtain ⟨hx, eT, hZ, hown, hO, hE, hC, hlk, locs, k0, X, hS, hk, hF⟩ := S
  exact retOut X hx hret rfl (Or.inl ⟨rfl, Or.inl rfl, z, rfl⟩) hd hr
theorem g_lret {QQ : Option Value → Heap → Prop} {z : Int64} (S : St p l e R s m args below meth c Z a0 EL n0 own T V h k n) (hd : decode c.code pc = .ok (.lreturn, 1)) (hret : meth.sig.returnType = some .long) (q : QQ (some (.long z)) h) (hc : k ≤ R.cells := by exact Nat.le_of_ble_eq_true rfl) (hl : n ≤ R.slots := by exact Nat.le_of_ble_eq_true rfl) : Go p e below (Fini Z EL n0 s R QQ) (T.setTop (mkF m pc Ls (.long z :: rest))) := by
  refine S.end_ (v := some (.long z)) (fun h => by rw [hret] at h; cases h) q hc hl fun fs hr => ?_
  obtain ⟨hx, eT, hZ, hown, hO, hE, hC, hlk, locs, k0, X, hS, hk, hF⟩ := S
  exact retOut X hx hret rfl (Or.inr (Or.inl ⟨rfl, rfl, z, rfl⟩)) hd hr
theorem g_aret {QQ : Option Value → Heap → Prop} {v : Value} (S : St p l e R s m args below meth c Z a0 EL n0 own T V h k n) (hd : decode c.code pc = .ok (.areturn, 1)) {t : FieldType} (hret : meth.sig.returnType = some t) (ht : t.isReference = true) (hn : narrow t v = v) (hv : v.isRef = true) (q : QQ (some v) h) (hc : k ≤ R.cells := by exact Nat.le_of_ble_eq_true rfl) (hl : n ≤ R.slots := by exact Nat.le_of_ble_eq_true rfl) : Go p e below (Fini Z EL n0 s R QQ) (T.setTop (mkF m pc Ls (v :: rest))) := by
  refine S.end_ (v := some v) (fun h => by rw [hret] at h; cases h) q hc hl fun fs hr => ?_
  obtain ⟨hx, eT, hZ, hown, hO, hE, hC, hlk, locs, k0, X, hS, hk, hF⟩ := S
  exact retOut X hx hret hn (Or.inr (Or.inr (Or.inr (Or.inr ⟨rfl, ht, hv⟩)))) hd hr
theorem g_getF (S : St p l e R s m args below meth c Z a0 EL n0 own T V h k n) {R0 O nm d : String} {index : Nat} (w : (Cond.fieldLink own index R0 nm d).before a0 Z = true) (via : Via Z R0 O nm d) {a : Addr} {v : Value} (F : Fld Z h a O nm d v) (hd : decode c.code pc = .ok (.getfield index, 3))
    (go : ∀ T', St p l e R s m args below meth c Z a0 EL n0 own T' V h k n → Go p e below Q (T'.setTop (mkF m (pc + 3) Ls (v :: rest)))) : Go p e below Q (T.setTop (mkF m pc Ls (.ref a :: rest))) := by
  obtain ⟨hx, eT, hZ, hown, hO, hE, hC, hlk, locs, k0, X, hS, hk, hF⟩ := S
  obtain ⟨T', X', e', st⟩ := getF X hx hZ hown (host := "") (Or.inl w) via eT F (g := mkF m pc Ls (.ref a :: rest)) rfl rfl hd
  exact Go.of st (go T' ⟨hx, e', hZ, hown, hO, hE, hC, hlk, locs, k0, X', hS, hk, hF⟩)
theorem g_getS (S : St p l e R s m args below meth c Z a0 EL n0 own T V h k n) {R0 O nm d : String} {index : Nat} (w : (Cond.fieldLink own index R0 nm d).before a0 Z = true) (via : Via Z R0 O nm d) {v : Value} (F : Sta Z h O nm d v) (hd : decode c.code pc = .ok (.getstatic index, 3))
    (go : ∀ T', St p l e R s m args below meth c Z a0 EL n0 own T' V h k n → Go p e below Q (T'.setTop (mkF m (pc + 3) Ls (v :: rest)))) : Go p e below Q (T.setTop (mkF m pc Ls rest)) := by
  obtain ⟨hx, eT, hZ, hown, hO, hE, hC, hlk, locs, k0, X, hS, hk, hF⟩ := S
  obtain ⟨T', X', e', st⟩ := getS X hx hZ hown (host := "") w via eT F (g := mkF m pc Ls rest) rfl hd
  exact Go.of st (go T' ⟨hx, e', hZ, hown, hO, hE, hC, hlk, locs, k0, X', hS, hk, hF⟩)
theorem g_cast (S : St p l e R s m args below meth c Z a0 EL n0 own T V h k n) {K : String} {index : Nat} (w : (Cond.classLink own index K).before a0 Z = true) {a : Addr} (F : Ins Z h a K true) (hd : decode c.code pc = .ok (.checkcast index, 3))
    (go : ∀ T', St p l e R s m args below meth c Z a0 EL n0 own T' V h k n → Go p e below Q (T'.setTop (mkF m (pc + 3) Ls (.ref a :: rest)))) : Go p e below Q (T.setTop (mkF m pc Ls (.ref a :: rest))) := by
  obtain ⟨hx, eT, hZ, hown, hO, hE, hC, hlk, locs, k0, X, hS, hk, hF⟩ := S
  obtain ⟨T', X', e', st⟩ := castY X hx hZ hown w eT F (g := mkF m pc Ls (.ref a :: rest)) rfl rfl hd
  exact Go.of st (go T' ⟨hx, e', hZ, hown, hO, hE, hC, hlk, locs, k0, X', hS, hk, hF⟩)
theorem g_inst (S : St p l e R s m args below meth c Z a0 EL n0 own T V h k n) {K : String} {index : Nat} (w : (Cond.classLink own index K).before a0 Z = true) {a : Addr} (F : Ins Z h a K true) (hd : decode c.code pc = .ok (.instanceof index, 3))
    (go : ∀ T', St p l e R s m args below meth c Z a0 EL n0 own T' V h k n → Go p e below Q (T'.setTop (mkF m (pc + 3) Ls (.int 1 :: rest)))) : Go p e below Q (T.setTop (mkF m pc Ls (.ref a :: rest))) := by
  obtain ⟨hx, eT, hZ, hown, hO, hE, hC, hlk, locs, k0, X, hS, hk, hF⟩ := S
  obtain ⟨T', X', e', st⟩ := instY X hx hZ hown w eT F (g := mkF m pc Ls (.ref a :: rest)) rfl rfl hd
  exact Go.of st (go T' ⟨hx, e', hZ, hown, hO, hE, hC, hlk, locs, k0, X', hS, hk, hF⟩)
theorem g_new (S : St p l e R s m args below meth c Z a0 EL n0 own T V h k n) {C : String} {index sz : Nat} (w : (Cond.classLink own index C).before a0 Z = true) (wi : (Cond.instantiable C sz).before a0 Z = true) (wz : (Cond.initialized C).before a0 Z = true) (hd : decode c.code pc = .ok (.new index, 3)) (hc : k + 1 ≤ R.cells) (hl : n + sz ≤ R.slots)
    (go : ∀ T' h' a, St p l e R s m args below meth c Z a0 EL n0 own T' V h' (k + 1) (n + sz) → Ext h h' → h.size ≤ a → a < h'.size → n0 ≤ a → Safe Z EL V h' a → Exa Z h' a C → (∀ {O nm d : String} {ty : FieldType}, Laid Z a0 C O nm d → parseFieldDescriptor d = some ty → Fld Z h' a O nm d (defaultValue ty)) →
      Go p e below Q (T'.setTop (mkF m (pc + 3) Ls (.ref a :: rest)))) : Go p e below Q (T.setTop (mkF m pc Ls rest)) := by
  have hle := S.le
  obtain ⟨hx, eT, hZ, hown, hO, hE, hC, hlk, locs, k0, X, hS, hk, hF⟩ := S
  obtain ⟨T', h', X', e', E, A, D, -, st⟩ := newO X hx hZ hown w wi wz eT (g := mkF m pc Ls rest) rfl hd hc hl
  exact Go.of st (go T' h' h.size ⟨hx, e', hZ, hown, hO.ext E, hE, hC.trans (CHr.ext E hC.1), hlk, locs, k0, X', hS, Nat.le_trans hk E.1, hF⟩ E (Nat.le_refl _) A.lt hle ((Safe.new (Nat.le_refl _)).ext E hC.1) A D)
theorem g_newarr (S : St p l e R s m args below meth c Z a0 EL n0 own T V h k n) {aty : ArrayType} (w : (Cond.arrayClass (newarray.typeOf aty)).before a0 Z = true) (hd : decode c.code pc = .ok (.newarray aty, 2)) {z : Int32} (hz : ¬ z < 0) {cap : Nat} (hcap : z.toNatClampNeg ≤ cap) (hb : cap * 8 ≤ 536870912) (hc : k + 1 ≤ R.cells) (hl : n + cap ≤ R.slots)
    (go : ∀ T' h' a kc, St p l e R s m args below meth c Z a0 EL n0 own T' V h' (k + 1) (n + cap) → Ext h h' → h.size ≤ a → a < h'.size → n0 ≤ a → Safe Z EL V h' a → (∀ j, Arv Z h' a kc (newarray.typeOf aty) z (List.replicate j (defaultValue (newarray.typeOf aty))) (defaultValue (newarray.typeOf aty))) →
      Go p e below Q (T'.setTop (mkF m (pc + 2) Ls (.ref a :: rest)))) : Go p e below Q (T.setTop (mkF m pc Ls (.int z :: rest))) := by
  have hle := S.le
  obtain ⟨hx, eT, hZ, hown, hO, hE, hC, hlk, locs, k0, X, hS, hk, hF⟩ := S
  obtain ⟨T', h', kc, X', e', E, A, st⟩ := newP X hx hZ w eT (g := mkF m pc Ls (.int z :: rest)) rfl hd rfl hz hcap hb hc hl
  exact Go.of st (go T' h' h.size kc ⟨hx, e', hZ, hown, hO.ext E, hE, hC.trans (CHr.ext E hC.1), hlk, locs, k0, X', hS, Nat.le_trans hk E.1, hF⟩ E (Nat.le_refl _) A.lt hle ((Safe.new (Nat.le_refl _)).ext E hC.1) fun j => (Arv.new A hz).pad (pad_rep [] _ j))
theorem g_castore (S : St p l e R s m args below meth c Z a0 EL n0 own T V h k n) {a : Addr} {kc : ClassId} {z : Int32} {vs : List Value} {dv : Value} (A : Arv Z h a kc .char z vs dv) {j x : Int32} (hj : ¬ j < 0 ∧ j < z) (i : Nat) (hi : j.toNatClampNeg = i) (hlt : i < vs.length) (na : n0 ≤ a) (hd : decode c.code pc = .ok (.castore, 1))
    (go : ∀ T' h', St p l e R s m args below meth c Z a0 EL n0 own T' V h' k n → Keep h h' [a] → Arv Z h' a kc .char z (vs.set i (.int (nar .char x))) dv → Go p e below Q (T'.setTop (mkF m (pc + 1) Ls rest))) : Go p e below Q (T.setTop (mkF m pc Ls (.int x :: .int j :: .ref a :: rest))) := by
  obtain ⟨hx, eT, hZ, hown, hO, hE, hC, hlk, locs, k0, X, hS, hk, hF⟩ := S
  have sf : Safe Z EL V h a := Safe.arv hZ.alike A (by decide)
  obtain ⟨cl, Ar, q1, q2, q3, q4, q5⟩ := A
  obtain ⟨T', h', X', e', W, st⟩ := stC X hx hZ eT Ar (j := j) (x := x) (inb_of q2 hj) (g := mkF m pc Ls (.int x :: .int j :: .ref a :: rest)) rfl rfl hd
  have K := Keep.of_wr W
  exact Go.of st (go T' h' ⟨hx, e', hZ, hown, hO.wr W na, hE, hC.trans (CHr.wr W sf hC.1), hlk, _, k0, X', hS, Nat.le_trans hk K.1, Fr.snoc X' hF na⟩ K (Arv.set Ar q1 q2 q3 q4 q5 (fits_nar_char x) W i hi hlt))
theorem g_putF (S : St p l e R s m args below meth c Z a0 EL n0 own T V h k n) {R0 O nm d C : String} {index kk : Nat} {ty : FieldType} (w : (Cond.fieldLink own index R0 nm d).before a0 Z = true) (via : Via Z R0 O nm d) {a : Addr} {v v' old : Value} (F : Fld Z h a O nm d old) (E : Exa Z h a C)
    (L : (Cond.lays C O nm d).before a0 Z = true ∨ ((Cond.laysFinal C O nm d).before a0 Z = true ∧ own = O ∧ meth.name = "<init>")) (wi : (Cond.instantiable C kk).before a0 Z = true) (hty : parseFieldDescriptor d = some ty) (hn : narrow ty v = v') (hf : fits ty v' = true) (na : n0 ≤ a) (sf : Safe Z EL V h a) (hd : decode c.code pc = .ok (.putfield index, 3))
    (go : ∀ T' h', St p l e R s m args below meth c Z a0 EL n0 own T' V h' k n → Keep h h' [a] → Wr h h' a (Jvm.RoadKit.slotOf Z O nm d) v' → Exa Z h' a C → Fld Z h' a O nm d v' → Safe Z EL V h' a → Go p e below Q (T'.setTop (mkF m (pc + 3) Ls rest))) : Go p e below Q (T.setTop (mkF m pc Ls (v :: .ref a :: rest))) := by
  obtain ⟨hx, eT, hZ, hown, hO, hE, hC, hlk, locs, k0, X, hS, hk, hF⟩ := S
  obtain ⟨T', h', X', e', W, st⟩ := putFN X hx hZ hown w via eT F E L wi hty hn hf (g := mkF m pc Ls (v :: .ref a :: rest)) rfl rfl hd
  have K := Keep.of_wr W
  exact Go.of st (go T' h' ⟨hx, e', hZ, hown, hO.wr W na, hE, hC.trans (CHr.wr W sf hC.1), hlk, _, k0, X', hS, Nat.le_trans hk K.1, Fr.snoc X' hF na⟩ K W (E.wr W) (F.same W) (Safe.wr W sf hC.1 sf))
theorem g_initO (S : St p l e R s m args below meth c Z a0 EL n0 own T V h k n) {index : Nat} (w1 : (Cond.methodLink own index Lib.objectInit).before a0 Z = true) (w2 : (Cond.instanceMethod Lib.objectInit).before a0 Z = true) (w3 : (Cond.code Lib.objectInit ⟨#[0xb1]⟩ 1 none).before a0 Z = true) (hsz : Ls.size = c.maxLocals) {a : Addr} (hd : decode c.code pc = .ok (.invokespecial index, 3)) (hf : 1 ≤ R.frames) (hl : (rest.map fun v => v.category).sum + 12 ≤ R.locals)
    (go : ∀ T', St p l e R s m args below meth c Z a0 EL n0 own T' V h k n → Go p e below Q (T'.setTop (mkF m (pc + 3) Ls rest))) : Go p e below Q (T.setTop (mkF m pc Ls (.ref a :: rest))) := by
  obtain ⟨hx, eT, hZ, hown, hO, hE, hC, hlk, locs, k0, X, hS, hk, hF⟩ := S
  obtain ⟨T', X', e', st⟩ := initO X hx hZ hown w1 w2 w3 eT (g := mkF m pc Ls (.ref a :: rest)) rfl hsz rfl hd hf (W := (rest.map fun v => v.category).sum) (by show 2 * 0 + _ ≤ _; omega) hl
  exact Go.of st (go T' ⟨hx, e', hZ, hown, hO, hE, hC, hlk, locs, k0, X', hS, hk, hF⟩)
theorem g_ldcI (S : St p l e R s m args below meth c Z a0 EL n0 own T V h k n) {index : Nat} {v : Int32} (w : (Cond.constant own index v).before a0 Z = true) (hd : decode c.code pc = .ok (.ldc index, 2)) (go : Go p e below Q (T.setTop (mkF m (pc + 2) Ls (.int v :: rest)))) : Go p e below Q (T.setTop (mkF m pc Ls rest)) := by
  obtain ⟨hx, eT, hZ, hown, hO, hE, hC, hlk, locs, k0, X, hS, hk, hF⟩ := S
  exact Go.of (fun _ q => X.ldcInt hx hown (mvT hZ w) (g := mkF m pc Ls rest) rfl hd _ q) go
theorem g_ldcJ (S : St p l e R s m args below meth c Z a0 EL n0 own T V h k n) {index : Nat} {v : Int64} (w : (Cond.constantLong own index v).before a0 Z = true) (hd : decode c.code pc = .ok (.ldc2_w index, 3)) (go : Go p e below Q (T.setTop (mkF m (pc + 3) Ls (.long v :: rest)))) : Go p e below Q (T.setTop (mkF m pc Ls rest)) := by
  obtain ⟨hx, eT, hZ, hown, hO, hE, hC, hlk, locs, k0, X, hS, hk, hF⟩ := S
  exact Go.of (fun _ q => X.ldc2Long hx hown (mvT hZ w) (g := mkF m pc Ls rest) rfl hd _ q) go
/-- a String constant whose text isn't read -/
theorem g_ldcO (S : St p l e R s m args below meth c Z a0 EL n0 own T V h k n) {index : Nat} {text : String} (w : (Cond.stringLink own index text).before a0 Z = true) (wS : ∀ a ∈ Bundle.stringAtoms, a.before a0 Z = true) (hd : decode c.code pc = .ok (.ldc index, 2)) {b : Nat} (hb : 4 * text.toList.length ≤ b) (hbig : b ≤ 536870912) (hc : k + 2 ≤ R.cells) (hl : n + (b + 4) ≤ R.slots)
    (go : ∀ a T' V' h', St p l e R s m args below meth c Z a0 EL n0 own T' V' h' (k + 2) (n + (b + 4)) → Ext h h' → CHr Z EL V h V' h' → Go p e below Q (T'.setTop (mkF m (pc + 2) Ls (.ref a :: rest)))) : Go p e below Q (T.setTop (mkF m pc Ls rest)) := by
  obtain ⟨hx, eT, hZ, hown, hO, hE, hC, hlk, locs, k0, X, hS, hk, hF⟩ := S
  obtain ⟨a, T', h', k1, X', e', E, hS', hk', hZ', hown', hC', -, st⟩ := ldcOH X hx hZ hown w wS eT hS hk hE hC.1 (g := mkF m pc Ls rest) rfl hd hb hbig hc hl
  exact Go.of st (go a T' T'.vm h' ⟨hx, e', hZ', hown', hO.ext E, hE, hC.trans hC', hlk, locs, k1, X', hS', hk', hF⟩ E hC')
/-- a String constant of EL -/
theorem g_ldcS (S : St p l e R s m args below meth c Z a0 EL n0 own T V h k n) {index : Nat} {text : String} (w : (Cond.stringLink own index text).before a0 Z = true) (wS : ∀ a ∈ Bundle.stringAtoms, a.before a0 Z = true) (hmem : (own, index) ∈ EL) {vs : List Value} {z : Int32} (ht : (∀ c ∈ text.toList, c.toNat < 256) ∧ text.toList.map (fun c => Value.int (Jvm.Lit.byteI c.toNat.toUInt16)) = vs) (hz : ¬ z < 0) (hlz : z.toNatClampNeg = vs.length)
    (hd : decode c.code pc = .ok (.ldc index, 2)) {b : Nat} (hb : 4 * text.toList.length ≤ b) (hbig : b ≤ 536870912) (hc : k + 2 ≤ R.cells) (hl : n + (b + 4) ≤ R.slots)
    (go : ∀ a T' V' h' t kt, St p l e R s m args below meth c Z a0 EL n0 own T' V' h' (k + 2) (n + (b + 4)) → Ext h h' → CHr Z EL V h V' h' → Exa Z h' a "java/lang/String" → Fld Z h' a "java/lang/String" "coder" "B" (.int 0) → Fld Z h' a "java/lang/String" "value" "[B" (.ref t) → Arv Z h' t kt .byte z vs (.int 0) → (∀ x, Safe Z EL V' h' x → x ≠ a ∧ x ≠ t) →
      Go p e below Q (T'.setTop (mkF m (pc + 2) Ls (.ref a :: rest)))) : Go p e below Q (T.setTop (mkF m pc Ls rest)) := by
  obtain ⟨hx, eT, hZ, hown, hO, hE, hC, hlk, locs, k0, X, hS, hk, hF⟩ := S
  obtain ⟨a, T', h', k1, t, kt, X', e', E, hS', hk', hZ', hown', f1, f2, f3, f4, -, -, hC', -, f5, st⟩ := ldcCH X hx hZ hown w wS eT hS hk hE hmem hC.1 ht hz hlz (g := mkF m pc Ls rest) rfl hd hb hbig hc hl
  exact Go.of st (go a T' T'.vm h' t kt ⟨hx, e', hZ', hown', hO.ext E, hE, hC.trans hC', hlk, locs, k1, X', hS', hk', hF⟩ E hC' f1 f2 f3 f4 f5)
section Calls
variable {y z : MethodName} {bytes : ByteArray} {maxL : Nat} {ret : Option FieldType} {rm : Room} {as' : Array Value} {sfs : List Addr} {QQ : Option Value → Heap → Prop} {index : Nat} {stk : List Value}
/-- the library's backOfSH with objects that are no literal's -/
theorem backOfSf {W : Nat} {vm0 : Vm} {QB : Option Value → Heap → List Loc → Prop}
    (hM : MetFree l y (head1 [Cond.code y bytes maxL ret] rm) (fun a U => a = as' ∧ Z.Warmed39 U.vm ∧ U.heap = h ∧ CHv Z EL U.vm h ∧ ∀ x ∈ sfs, Safe Z EL U.vm h x) (fun _ _ _ _ _ => True) (fun _ U o U' => ∃ v L, o = .returned v ∧ QB v U'.heap L ∧ CHr Z EL U.vm U.heap U'.vm U'.heap ∧ ReturnedEndW U o U' L rm.cells rm.slots))
    (hZ : Z.Warmed39 vm0) (wc : (Cond.code y bytes maxL ret).before a0 Z = true) (wz : (Cond.initialized y.cls).before a0 Z = true) (hf : rm.frames + 1 ≤ R.frames) (hl : W + (maxL + 11) + rm.locals ≤ R.locals) (hEL : EW Z a0 EL) (H : CHv Z EL vm0 h) (hsf : ∀ x ∈ sfs, x < h.size ∧ Safe Z EL vm0 h x) :
    BackS l R p e below (s.setVm vm0) args y 3 W (fun A a => a = as' ∧ A.U.heap = h ∧ A.cells + rm.cells ≤ R.cells ∧ A.slots + rm.slots ≤ R.slots)
      (fun A _ v B => ∃ L, QB v B.U.heap L ∧ B.locs = A.locs ++ L ∧ B.cells = A.cells + rm.cells ∧ B.slots = A.slots + rm.slots ∧ CHr Z EL vm0 h B.U.vm B.U.heap) := by
  refine BackS.of_freeW (bytes := bytes) (maxL := maxL) (ret := ret) (E := fun _ first o t L k n => (k = rm.cells ∧ n = rm.slots) ∧ (∃ v, o = .returned v ∧ QB v t.heap L) ∧ CHr Z EL first.vm first.heap t.vm t.heap) hM hf hl ?_ ?_ (fun _ _ _ _ _ _ _ _ _ => trivial) ?_ ?_
  · intro m meth c A a Y hp
    have hU : Z.Warmed39 A.U.vm := wtrans (s := s.setVm vm0) hZ Y.warmed
    exact ⟨by show (Cond.and _ .tt).before a A.U = true; rw [Cond.before_and, mv hU wc]; rfl, mv hU wc, mv hU wz, hp.2.2.1, hp.2.2.2⟩
  · intro m meth c A a g mk Y hp
    have q := CHv.at Y hZ hEL H
    exact ⟨hp.1, wtrans (s := s.setVm vm0) hZ Y.warmed, hp.2.1, q.1, fun x hx => q.safe (hsf x hx).1 (hsf x hx).2⟩
  · rintro _ _ _ _ ⟨v, L, h1, h2, h3, h4⟩
    exact ⟨L, _, _, h4, ⟨rfl, rfl⟩, ⟨v, h1, h2⟩, h3⟩
  · intro m meth c A a g mk v t L k n Y hp _ _ q
    obtain ⟨⟨e1, e2⟩, ⟨v', e3, e4⟩, e5⟩ := q
    cases e3; subst e1 e2
    refine ⟨L, e4, rfl, rfl, rfl, (CHv.at Y hZ hEL H).trans ?_⟩
    rw [← hp.2.1]; exact e5
theorem g_static (S : St p l e R s m args below meth c Z a0 EL n0 own T V h k n) (C : Ctr l Z EL n0 y bytes maxL ret rm as' h sfs QQ) (hsf : ∀ x ∈ sfs, x < h.size ∧ Safe Z EL V h x) (wl : (Cond.methodLink own index y).before a0 Z = true) (ws : (Cond.static y).before a0 Z = true) (wi : (Cond.initialized y.cls).before a0 Z = true) (wc : (Cond.code y bytes maxL ret).before a0 Z = true) (hy : y.cls ≠ "java/lang/invoke/MethodHandle" ∧ y.cls ≠ "java/lang/invoke/VarHandle")
    (hd : decode c.code pc = .ok (.invokestatic index, 3)) (hsz : Ls.size = c.maxLocals) (argsL : List Value) (hlen : ∀ sig, parseMethodDescriptor y.desc = some sig → argsL.length = sig.parameters.length) (hst : stk = argsL.reverse ++ rest) (has : argsL.toArray = as') (hf : rm.frames + 1 ≤ R.frames) (hl : (rest.map fun v => v.category).sum + (maxL + 11) + rm.locals ≤ R.locals) (hc : k + rm.cells ≤ R.cells) (hs : n + rm.slots ≤ R.slots)
    (go : ∀ v T' V' h', St p l e R s m args below meth c Z a0 EL n0 own T' V' h' (k + rm.cells) (n + rm.slots) → CHr Z EL V h V' h' → QQ v h' → Go p e below Q (T'.setTop (mkF m (pc + 3) Ls (v.toList ++ rest)))) : Go p e below Q (T.setTop (mkF m pc Ls stk)) := by
  obtain ⟨hx, eT, hZ, hown, hO, hE, hC, hlk, locs, k0, X, hS, hk, hF⟩ := S
  have bk := backOfSf (s := s) (R := R) (p := p) (e := e) (below := below) (args := args) (W := (rest.map fun v => v.category).sum) (QB := fun v h' L => QQ v h' ∧ Fr n0 L ∧ Old Z n0 h') (C []) hZ wc wi hf hl hE hC.1 hsf
  obtain ⟨v, vm1, ⟨U, Lc, kc, sc⟩, hW1, X', hS', hgr, ⟨L, ⟨hQ, hF', hO'⟩, eL, ec, es, hC'⟩, st⟩ := callSS X hx hown (mvT hZ wl) (mvT hZ ws) (mvT hZ wi) (mvT hZ wc) hy bk (g := mkF m pc Ls stk) rfl hsz (argsL := argsL) (rest := rest) hlen hst (by show 2 * 0 + _ ≤ _; omega) hd (fun _ _ => ⟨has, eT, hc, hs⟩)
  dsimp only [Pt.U, Pt.locs, Pt.cells, Pt.slots] at X' hS' hgr hQ hO' eL ec es hC' st
  subst eL ec es
  exact Go.of (fun _ q => st.trans q) (go v U U.vm U.heap ⟨hx, rfl, State.Warmed39.trans (t := s.setVm V) hZ hS'.1, by rw [hS'.1.alike.findClass]; exact hown, hO', hE, hC.trans hC', hlk, _, _, X', hS.trans hS' (Nat.le_trans hk (eT ▸ hgr)), Nat.le_refl _, hF.app hF'⟩ hC' hQ)
theorem g_special (S : St p l e R s m args below meth c Z a0 EL n0 own T V h k n) (C : Ctr l Z EL n0 y bytes maxL none rm as' h sfs QQ) (hsf : ∀ x ∈ sfs, x < h.size ∧ Safe Z EL V h x) (hy1 : y.name = "<init>") (wl : (Cond.methodLink own index y).before a0 Z = true) (ws : (Cond.instanceMethod y).before a0 Z = true) (wi : (Cond.initialized y.cls).before a0 Z = true) (wc : (Cond.code y bytes maxL none).before a0 Z = true) (hy : y.cls ≠ "java/lang/invoke/MethodHandle" ∧ y.cls ≠ "java/lang/invoke/VarHandle")
    (hd : decode c.code pc = .ok (.invokespecial index, 3)) (hsz : Ls.size = c.maxLocals) (a : Addr) (argsL : List Value) (hlen : ∀ sig, parseMethodDescriptor y.desc = some sig → argsL.length = sig.parameters.length) (hst : stk = argsL.reverse ++ .ref a :: rest) (has : (.ref a :: argsL).toArray = as') (hf : rm.frames + 1 ≤ R.frames) (hl : (rest.map fun v => v.category).sum + (maxL + 11) + rm.locals ≤ R.locals) (hc : k + rm.cells ≤ R.cells) (hs : n + rm.slots ≤ R.slots)
    (go : ∀ v T' V' h', St p l e R s m args below meth c Z a0 EL n0 own T' V' h' (k + rm.cells) (n + rm.slots) → CHr Z EL V h V' h' → QQ v h' → Go p e below Q (T'.setTop (mkF m (pc + 3) Ls (v.toList ++ rest)))) : Go p e below Q (T.setTop (mkF m pc Ls stk)) := by
  obtain ⟨hx, eT, hZ, hown, hO, hE, hC, hlk, locs, k0, X, hS, hk, hF⟩ := S
  have bk := backOfSf (s := s) (R := R) (p := p) (e := e) (below := below) (args := args) (W := (rest.map fun v => v.category).sum) (QB := fun v h' L => QQ v h' ∧ Fr n0 L ∧ Old Z n0 h') (C []) hZ wc wi hf hl hE hC.1 hsf
  obtain ⟨v, vm1, ⟨U, Lc, kc, sc⟩, hW1, X', hS', hgr, ⟨L, ⟨hQ, hF', hO'⟩, eL, ec, es, hC'⟩, st⟩ := X.specialBackS hx hy1 hown (mvT hZ wl) (mvT hZ ws) (mvT hZ wc) hy bk (g := mkF m pc Ls stk) rfl hsz (Steps.refl _) (a := a) (argsL := argsL) (rest := rest) hlen hst (by show 2 * 0 + _ ≤ _; omega) hd (fun _ _ => ⟨has, eT, hc, hs⟩)
  dsimp only [Pt.U, Pt.locs, Pt.cells, Pt.slots] at X' hS' hgr hQ hO' eL ec es hC' st
  subst eL ec es
  exact Go.of (fun _ q => st.trans q) (go v U U.vm U.heap ⟨hx, rfl, State.Warmed39.trans (t := s.setVm V) hZ hS'.1, by rw [hS'.1.alike.findClass]; exact hown, hO', hE, hC.trans hC', hlk, _, _, X', hS.trans hS' (Nat.le_trans hk (eT ▸ hgr)), Nat.le_refl _, hF.app hF'⟩ hC' hQ)
theorem g_virtual {C : String} (S : St p l e R s m args below meth c Z a0 EL n0 own T V h k n) (K : Ctr l Z EL n0 z bytes maxL ret rm as' h sfs QQ) (hsf : ∀ x ∈ sfs, x < h.size ∧ Safe Z EL V h x) (wl : (Cond.methodLink own index y).before a0 Z = true) (wd : (Cond.declares y).before a0 Z = true) (wse : (Cond.selects C y z).before a0 Z = true) (ws : (Cond.instanceMethod z).before a0 Z = true) (wi : (Cond.initialized z.cls).before a0 Z = true) (wc : (Cond.code z bytes maxL ret).before a0 Z = true) (hy : y.cls ≠ "java/lang/invoke/MethodHandle" ∧ y.cls ≠ "java/lang/invoke/VarHandle")
    (hnf : ∀ s' : State, (Cond.selects C y z).before args s' = true → NotFace s' y) (hd : decode c.code pc = .ok (.invokevirtual index, 3)) (hsz : Ls.size = c.maxLocals) (a : Addr) (E : Exa Z h a C) (argsL : List Value) (hlen : ∀ sig, parseMethodDescriptor y.desc = some sig → argsL.length = sig.parameters.length) (hst : stk = argsL.reverse ++ .ref a :: rest) (has : (.ref a :: argsL).toArray = as') (hf : rm.frames + 1 ≤ R.frames) (hl : (rest.map fun v => v.category).sum + (maxL + 11) + rm.locals ≤ R.locals) (hc : k + rm.cells ≤ R.cells) (hs : n + rm.slots ≤ R.slots)
    (go : ∀ v T' V' h', St p l e R s m args below meth c Z a0 EL n0 own T' V' h' (k + rm.cells) (n + rm.slots) → CHr Z EL V h V' h' → QQ v h' → Go p e below Q (T'.setTop (mkF m (pc + 3) Ls (v.toList ++ rest)))) : Go p e below Q (T.setTop (mkF m pc Ls stk)) := by
  obtain ⟨hx, eT, hZ, hown, hO, hE, hC, hlk, locs, k0, X, hS, hk, hF⟩ := S
  have bk := backOfSf (s := s) (R := R) (p := p) (e := e) (below := below) (args := args) (W := (rest.map fun v => v.category).sum) (QB := fun v h' L => QQ v h' ∧ Fr n0 L ∧ Old Z n0 h') (K []) hZ wc wi hf hl hE hC.1 hsf
  obtain ⟨cq, kq, q1, q2, q3⟩ := isOf (s := s.setVm V) hZ eT E
  obtain ⟨v, vm1, ⟨U, Lc, kc, sc⟩, hW1, X', hS', hgr, ⟨L, ⟨hQ, hF', hO'⟩, eL, ec, es, hC'⟩, st⟩ := X.virtualBackS hx hown (mvT hZ wl) (mvT hZ wd) (hnf _ (mvT hZ wse)) (mvT hZ wse) (mvT hZ ws) hy bk q1 q3 (g := mkF m pc Ls stk) rfl hsz (Steps.refl _) (argsL := argsL) (rest := rest) hlen hst (by show 2 * 0 + _ ≤ _; omega) hd (fun _ _ => ⟨has, eT, hc, hs⟩)
  dsimp only [Pt.U, Pt.locs, Pt.cells, Pt.slots] at X' hS' hgr hQ hO' eL ec es hC' st
  subst eL ec es
  exact Go.of (fun _ q => st.trans q) (go v U U.vm U.heap ⟨hx, rfl, State.Warmed39.trans (t := s.setVm V) hZ hS'.1, by rw [hS'.1.alike.findClass]; exact hown, hO', hE, hC.trans hC', hlk, _, _, X', hS.trans hS' (Nat.le_trans hk (eT ▸ hgr)), Nat.le_refl _, hF.app hF'⟩ hC' hQ)
/-- a callee that is paid by a narrow law of the library's (or of a pasted text's): rc cells, rs slots -/
abbrev BkC (l : Launch) (R : Room) (p : Program) (e : Env) (below : List Frame) (s : State) (args : Array Value) (y : MethodName) (W : Nat) (as' : Array Value) (h : Heap) (rc rs : Nat) (QB : Option Value → Heap → List Loc → Prop) : Prop :=
  Back l R p e below s args y 3 W (fun A a => a = as' ∧ A.U.heap = h ∧ A.cells + rc ≤ R.cells ∧ A.slots + rs ≤ R.slots) (fun A _ v B => ∃ L, QB v B.U.heap L ∧ B.locs = A.locs ++ L ∧ B.cells = A.cells + rc ∧ B.slots = A.slots + rs)
theorem g_staticB {rc rs : Nat} {QB : Option Value → Heap → List Loc → Prop} (S : St p l e R s m args below meth c Z a0 EL n0 own T V h k n) {W : Nat} (B : ∀ s' : State, Z.Warmed39 s'.vm → BkC l R p e below s' args y W as' h rc rs QB) (wl : (Cond.methodLink own index y).before a0 Z = true) (ws : (Cond.static y).before a0 Z = true) (wi : (Cond.initialized y.cls).before a0 Z = true) (wc : (Cond.code y bytes maxL ret).before a0 Z = true) (hy : y.cls ≠ "java/lang/invoke/MethodHandle" ∧ y.cls ≠ "java/lang/invoke/VarHandle")
    (hd : decode c.code pc = .ok (.invokestatic index, 3)) (hsz : Ls.size = c.maxLocals) (argsL : List Value) (hlen : ∀ sig, parseMethodDescriptor y.desc = some sig → argsL.length = sig.parameters.length) (hst : stk = argsL.reverse ++ rest) (has : argsL.toArray = as') (hW : (rest.map fun v => v.category).sum ≤ W) (hc : k + rc ≤ R.cells) (hs : n + rs ≤ R.slots)
    (hq : ∀ v h' L, QB v h' L → Fr n0 L ∧ ∃ xs, Keep h h' xs ∧ (∀ x ∈ xs, Safe Z EL V h x) ∧ ∀ x ∈ xs, n0 ≤ x)
    (go : ∀ v T' h' L, St p l e R s m args below meth c Z a0 EL n0 own T' V h' (k + rc) (n + rs) → QB v h' L → Go p e below Q (T'.setTop (mkF m (pc + 3) Ls (v.toList ++ rest)))) : Go p e below Q (T.setTop (mkF m pc Ls stk)) := by
  obtain ⟨hx, eT, hZ, hown, hO, hE, hC, hlk, locs, k0, X, hS, hk, hF⟩ := S
  obtain ⟨v, vm1, ⟨U, Lc, kc, sc⟩, hW1, X', ⟨L, hQ, eL, ec, es⟩, st⟩ := Jvm.LawKit.callS X hx hown (mvT hZ wl) (mvT hZ ws) (mvT hZ wi) (mvT hZ wc) hy (B (s.setVm V) hZ) (g := mkF m pc Ls stk) rfl hsz (argsL := argsL) (rest := rest) hlen hst (by show 2 * 0 + _ ≤ _; omega) hd (fun _ _ => ⟨has, eT, hc, hs⟩)
  dsimp only [Pt.U, Pt.locs, Pt.cells, Pt.slots] at X' hQ eL ec es st
  subst eL ec es
  obtain ⟨hF', xs, K, sf, nx⟩ := hq _ _ _ hQ
  exact Go.of st (go v U U.heap L ⟨hx, rfl, hZ, hown, hO.keep K nx, hE, hC.trans (CHr.keep K sf hC.1), hlk, _, _, X', hS, Nat.le_trans hk K.1, hF.app hF'⟩ hQ)
theorem g_specialB {rc rs : Nat} {QB : Option Value → Heap → List Loc → Prop} (S : St p l e R s m args below meth c Z a0 EL n0 own T V h k n) {W : Nat} (B : ∀ s' : State, Z.Warmed39 s'.vm → BkC l R p e below s' args y W as' h rc rs QB) (hy1 : y.name = "<init>") (wl : (Cond.methodLink own index y).before a0 Z = true) (ws : (Cond.instanceMethod y).before a0 Z = true) (wc : (Cond.code y bytes maxL none).before a0 Z = true) (hy : y.cls ≠ "java/lang/invoke/MethodHandle" ∧ y.cls ≠ "java/lang/invoke/VarHandle")
    (hd : decode c.code pc = .ok (.invokespecial index, 3)) (hsz : Ls.size = c.maxLocals) (a : Addr) (argsL : List Value) (hlen : ∀ sig, parseMethodDescriptor y.desc = some sig → argsL.length = sig.parameters.length) (hst : stk = argsL.reverse ++ .ref a :: rest) (has : (.ref a :: argsL).toArray = as') (hW : (rest.map fun v => v.category).sum ≤ W) (hc : k + rc ≤ R.cells) (hs : n + rs ≤ R.slots)
    (hq : ∀ v h' L, QB v h' L → Fr n0 L ∧ ∃ xs, Keep h h' xs ∧ (∀ x ∈ xs, Safe Z EL V h x) ∧ ∀ x ∈ xs, n0 ≤ x)
    (go : ∀ v T' h' L, St p l e R s m args below meth c Z a0 EL n0 own T' V h' (k + rc) (n + rs) → QB v h' L → Go p e below Q (T'.setTop (mkF m (pc + 3) Ls (v.toList ++ rest)))) : Go p e below Q (T.setTop (mkF m pc Ls stk)) := by
  obtain ⟨hx, eT, hZ, hown, hO, hE, hC, hlk, locs, k0, X, hS, hk, hF⟩ := S
  obtain ⟨v, vm1, ⟨U, Lc, kc, sc⟩, hW1, X', ⟨L, hQ, eL, ec, es⟩, st⟩ := X.specialBack hx hy1 hown (mvT hZ wl) (mvT hZ ws) (mvT hZ wc) hy (B (s.setVm V) hZ) (g := mkF m pc Ls stk) rfl hsz (Steps.refl _) (a := a) (argsL := argsL) (rest := rest) hlen hst (by show 2 * 0 + _ ≤ _; omega) hd (fun _ _ => ⟨has, eT, hc, hs⟩)
  dsimp only [Pt.U, Pt.locs, Pt.cells, Pt.slots] at X' hQ eL ec es st
  subst eL ec es
  obtain ⟨hF', xs, K, sf, nx⟩ := hq _ _ _ hQ
  exact Go.of (fun _ q => st.trans q) (go v U U.heap L ⟨hx, rfl, hZ, hown, hO.keep K nx, hE, hC.trans (CHr.keep K sf hC.1), hlk, _, _, X', hS, Nat.le_trans hk K.1, hF.app hF'⟩ hQ)
theorem g_virtualB {C : String} {rc rs : Nat} {QB : Option Value → Heap → List Loc → Prop} (S : St p l e R s m args below meth c Z a0 EL n0 own T V h k n) {W : Nat} (B : ∀ s' : State, Z.Warmed39 s'.vm → BkC l R p e below s' args z W as' h rc rs QB) (wl : (Cond.methodLink own index y).before a0 Z = true) (wd : (Cond.declares y).before a0 Z = true) (wse : (Cond.selects C y z).before a0 Z = true) (ws : (Cond.instanceMethod z).before a0 Z = true) (hy : y.cls ≠ "java/lang/invoke/MethodHandle" ∧ y.cls ≠ "java/lang/invoke/VarHandle")
    (hnf : ∀ s' : State, (Cond.selects C y z).before args s' = true → NotFace s' y) (hd : decode c.code pc = .ok (.invokevirtual index, 3)) (hsz : Ls.size = c.maxLocals) (a : Addr) (E : Exa Z h a C) (argsL : List Value) (hlen : ∀ sig, parseMethodDescriptor y.desc = some sig → argsL.length = sig.parameters.length) (hst : stk = argsL.reverse ++ .ref a :: rest) (has : (.ref a :: argsL).toArray = as') (hW : (rest.map fun v => v.category).sum ≤ W) (hc : k + rc ≤ R.cells) (hs : n + rs ≤ R.slots)
    (hq : ∀ v h' L, QB v h' L → Fr n0 L ∧ ∃ xs, Keep h h' xs ∧ (∀ x ∈ xs, Safe Z EL V h x) ∧ ∀ x ∈ xs, n0 ≤ x)
    (go : ∀ v T' h' L, St p l e R s m args below meth c Z a0 EL n0 own T' V h' (k + rc) (n + rs) → QB v h' L → Go p e below Q (T'.setTop (mkF m (pc + 3) Ls (v.toList ++ rest)))) : Go p e below Q (T.setTop (mkF m pc Ls stk)) := by
  obtain ⟨hx, eT, hZ, hown, hO, hE, hC, hlk, locs, k0, X, hS, hk, hF⟩ := S
  obtain ⟨cq, kq, q1, q2, q3⟩ := isOf (s := s.setVm V) hZ eT E
  obtain ⟨v, vm1, ⟨U, Lc, kc, sc⟩, hW1, X', ⟨L, hQ, eL, ec, es⟩, st⟩ := X.virtualBack hx hown (mvT hZ wl) (mvT hZ wd) (hnf _ (mvT hZ wse)) (mvT hZ wse) (mvT hZ ws) hy (B (s.setVm V) hZ) q1 q3 (g := mkF m pc Ls stk) rfl hsz (Steps.refl _) (argsL := argsL) (rest := rest) hlen hst (by show 2 * 0 + _ ≤ _; omega) hd (fun _ _ => ⟨has, eT, hc, hs⟩)
  dsimp only [Pt.U, Pt.locs, Pt.cells, Pt.slots] at X' hQ eL ec es st
  subst eL ec es
  obtain ⟨hF', xs, K, sf, nx⟩ := hq _ _ _ hQ
  exact Go.of (fun _ q => st.trans q) (go v U U.heap L ⟨hx, rfl, hZ, hown, hO.keep K nx, hE, hC.trans (CHr.keep K sf hC.1), hlk, _, _, X', hS, Nat.le_trans hk K.1, hF.app hF'⟩ hQ)
end Calls
theorem g_icmp (S : St p l e R s m args below meth c Z a0 EL n0 own T V h k n) {cd : ClassFile.Cond} {x y : Int32} {o : Int} {pcT : Nat} (hd : decode c.code pc = .ok (.if_icmp cd o, 3)) (ho : 0 ≤ (pc : Int) + o) (hp : ((pc : Int) + o).toNat = pcT) (yes : if_icmp.holds cd x y = true → Go p e below Q (T.setTop (mkF m pcT Ls rest))) (no : if_icmp.holds cd x y = false → Go p e below Q (T.setTop (mkF m (pc + 3) Ls rest))) : Go p e below Q (T.setTop (mkF m pc Ls (.int y :: .int x :: rest))) := by
  cases q : if_icmp.holds cd x y
  · exact Go.of (fun _ r => XS.icmpNo S.here S.hx rfl hd rfl q r) (no q)
  · exact Go.of (fun _ r => XS.icmpYes S.here S.hx rfl (pc0 := pc) (pc' := pcT) rfl hd rfl q ho hp r) (yes q)
theorem g_if (S : St p l e R s m args below meth c Z a0 EL n0 own T V h k n) {cd : ClassFile.Cond} {x : Int32} {o : Int} {pcT : Nat} (hd : decode c.code pc = .ok (.ifCond cd o, 3)) (ho : 0 ≤ (pc : Int) + o) (hp : ((pc : Int) + o).toNat = pcT) (yes : if_icmp.holds cd x 0 = true → Go p e below Q (T.setTop (mkF m pcT Ls rest))) (no : if_icmp.holds cd x 0 = false → Go p e below Q (T.setTop (mkF m (pc + 3) Ls rest))) : Go p e below Q (T.setTop (mkF m pc Ls (.int x :: rest))) := by
  cases q : if_icmp.holds cd x 0
  · exact Go.of (fun _ r => XS.ifNo S.here S.hx rfl hd rfl ((if0 _ _).trans q) r) (no q)
  · exact Go.of (fun _ r => XS.ifYes S.here S.hx rfl (pc0 := pc) (pc' := pcT) rfl hd rfl ((if0 _ _).trans q) ho hp r) (yes q)
theorem icT_eq {x y : Int32} (h : if_icmp.holds .eq x y = true) : x = y := by simpa [if_icmp.holds] using h
theorem icF_eq {x y : Int32} (h : if_icmp.holds .eq x y = false) : ¬ x = y := by simpa [if_icmp.holds] using h
theorem icT_ne {x y : Int32} (h : if_icmp.holds .ne x y = true) : ¬ x = y := by simpa [if_icmp.holds] using h
theorem icF_ne {x y : Int32} (h : if_icmp.holds .ne x y = false) : x = y := by simpa [if_icmp.holds] using h
theorem icT_lt {x y : Int32} (h : if_icmp.holds .lt x y = true) : x < y := by simpa [if_icmp.holds] using h
theorem icF_lt {x y : Int32} (h : if_icmp.holds .lt x y = false) : ¬ x < y := by simpa [if_icmp.holds] using h
theorem icT_ge {x y : Int32} (h : if_icmp.holds .ge x y = true) : ¬ x < y := fun q => by rw [(tlt q).2.1] at h; cases h
theorem icF_ge {x y : Int32} (h : if_icmp.holds .ge x y = false) : x < y := Decidable.byContradiction fun q => by rw [(flt q).2.1] at h; cases h
theorem icT_gt {x y : Int32} (h : if_icmp.holds .gt x y = true) : y < x := Decidable.byContradiction fun q => by rw [(flt q).2.2.1] at h; cases h
theorem icF_gt {x y : Int32} (h : if_icmp.holds .gt x y = false) : ¬ y < x := fun q => by rw [(tlt q).2.2.1] at h; cases h
theorem icT_le {x y : Int32} (h : if_icmp.holds .le x y = true) : ¬ y < x := fun q => by rw [(tlt q).2.2.2] at h; cases h
theorem icF_le {x y : Int32} (h : if_icmp.holds .le x y = false) : y < x := Decidable.byContradiction fun q => by rw [(flt q).2.2.2] at h; cases h
theorem g_caload (S : St p l e R s m args below meth c Z a0 EL n0 own T V h k n) {a : Addr} {kc : ClassId} {z : Int32} {vs : List Value} {dv : Value} (A : Arv Z h a kc .char z vs dv) {j : Int32} (hj : ¬ j < 0 ∧ j < z) {x : Int32} (hv : vs.getD j.toNatClampNeg dv = .int x) (hd : decode c.code pc = .ok (.caload, 1)) (go : Go p e below Q (T.setTop (mkF m (pc + 1) Ls (.int x :: rest)))) : Go p e below Q (T.setTop (mkF m pc Ls (.int j :: .ref a :: rest))) := by
  obtain ⟨hx, eT, hZ, hown, hO, hE, hC, hlk, locs, k0, X, hS, hk, hF⟩ := S
  obtain ⟨cl, Ar, q1, q2, q3, q4, q5⟩ := A
  have hin := inb_of q2 hj
  exact Go.of (fun _ q => X.caload hx (j := j) (v := .int x) (by rw [eT]; exact Ar.1) (State.isArrayOf_alike (T := s.setVm V) hZ.alike Ar.2.1) Ar.2.2 hin (q4.at hin hv) (g := mkF m pc Ls (.int j :: .ref a :: rest)) rfl rfl hd _ q) go
theorem g_len (S : St p l e R s m args below meth c Z a0 EL n0 own T V h k n) {a : Addr} {kc : ClassId} {ty : FieldType} {z : Int32} {vs : List Value} {dv : Value} (A : Arv Z h a kc ty z vs dv) (hd : decode c.code pc = .ok (.arraylength, 1)) (go : Go p e below Q (T.setTop (mkF m (pc + 1) Ls (.int z :: rest)))) : Go p e below Q (T.setTop (mkF m pc Ls (.ref a :: rest))) := by
  obtain ⟨hx, eT, hZ, hown, hO, hE, hC, hlk, locs, k0, X, hS, hk, hF⟩ := S
  obtain ⟨cl, Ar, q1, q2, q3, q4, q5⟩ := A
  rw [← len_of q2 q3] at go
  exact Go.of (fun _ q => X.arraylength hx (by rw [eT]; exact Ar.1) (State.isArrayOf_alike (T := s.setVm V) hZ.alike Ar.2.1) (g := mkF m pc Ls (.ref a :: rest)) rfl rfl hd _ q) go
theorem s_iload {i : Nat} {v : Int32} (S : St p l e R s m args below meth c Z a0 EL n0 own T V h k n) (hd : decode c.code pc = .ok (.iload i, 2)) (hv : Ls[i]? = some (.val (.int v))) {pc' : Nat} (hp : pc + 2 = pc') (go : Go p e below Q (T.setTop (mkF m pc' Ls (.int v :: rest)))) : Go p e below Q (T.setTop (mkF m pc Ls rest)) := by
  subst hp; exact Go.of (fun _ q => XS.iload S.here S.hx rfl hd hv q) go
theorem s_iloadN {i : Fin 4} {v : Int32} (S : St p l e R s m args below meth c Z a0 EL n0 own T V h k n) (hd : decode c.code pc = .ok (.iload_n i, 1)) (hv : Ls[i.val]? = some (.val (.int v))) {pc' : Nat} (hp : pc + 1 = pc') (go : Go p e below Q (T.setTop (mkF m pc' Ls (.int v :: rest)))) : Go p e below Q (T.setTop (mkF m pc Ls rest)) := by
  subst hp; exact Go.of (fun _ q => XS.iloadN S.here S.hx rfl hd hv q) go
theorem s_lload {i : Nat} {v : Int64} (S : St p l e R s m args below meth c Z a0 EL n0 own T V h k n) (hd : decode c.code pc = .ok (.lload i, 2)) (hv : Ls[i]? = some (.val (.long v))) {pc' : Nat} (hp : pc + 2 = pc') (go : Go p e below Q (T.setTop (mkF m pc' Ls (.long v :: rest)))) : Go p e below Q (T.setTop (mkF m pc Ls rest)) := by
  subst hp; exact Go.of (fun _ q => XS.lload S.here S.hx rfl hd hv q) go
theorem s_lloadN {i : Fin 4} {v : Int64} (S : St p l e R s m args below meth c Z a0 EL n0 own T V h k n) (hd : decode c.code pc = .ok (.lload_n i, 1)) (hv : Ls[i.val]? = some (.val (.long v))) {pc' : Nat} (hp : pc + 1 = pc') (go : Go p e below Q (T.setTop (mkF m pc' Ls (.long v :: rest)))) : Go p e below Q (T.setTop (mkF m pc Ls rest)) := by
  subst hp; exact Go.of (fun _ q => XS.lloadN S.here S.hx rfl hd hv q) go
theorem s_aload {i : Nat} {v : Value} (S : St p l e R s m args below meth c Z a0 EL n0 own T V h k n) (hd : decode c.code pc = .ok (.aload i, 2)) (hv : Ls[i]? = some (.val v)) (hr : v.isRef = true) {pc' : Nat} (hp : pc + 2 = pc') (go : Go p e below Q (T.setTop (mkF m pc' Ls (v :: rest)))) : Go p e below Q (T.setTop (mkF m pc Ls rest)) := by
  subst hp; exact Go.of (fun _ q => XS.aload S.here S.hx rfl hd hv hr q) go
theorem s_aloadN {i : Fin 4} {v : Value} (S : St p l e R s m args below meth c Z a0 EL n0 own T V h k n) (hd : decode c.code pc = .ok (.aload_n i, 1)) (hv : Ls[i.val]? = some (.val v)) (hr : v.isRef = true) {pc' : Nat} (hp : pc + 1 = pc') (go : Go p e below Q (T.setTop (mkF m pc' Ls (v :: rest)))) : Go p e below Q (T.setTop (mkF m pc Ls rest)) := by
  subst hp; exact Go.of (fun _ q => XS.aloadN S.here S.hx rfl hd hv hr q) go
theorem s_istore {i : Nat} {v : Int32} {L' : Array Slot} (S : St p l e R s m args below meth c Z a0 EL n0 own T V h k n) (hd : decode c.code pc = .ok (.istore i, 2)) (hl : storeLocals Ls i (.int v) = some L') {pc' : Nat} (hp : pc + 2 = pc') (go : Go p e below Q (T.setTop (mkF m pc' L' rest))) : Go p e below Q (T.setTop (mkF m pc Ls (.int v :: rest))) := by
  subst hp; exact Go.of (fun _ q => XS.istore S.here S.hx rfl hd rfl hl q) go
theorem s_istoreN {i : Fin 4} {v : Int32} {L' : Array Slot} (S : St p l e R s m args below meth c Z a0 EL n0 own T V h k n) (hd : decode c.code pc = .ok (.istore_n i, 1)) (hl : storeLocals Ls i.val (.int v) = some L') {pc' : Nat} (hp : pc + 1 = pc') (go : Go p e below Q (T.setTop (mkF m pc' L' rest))) : Go p e below Q (T.setTop (mkF m pc Ls (.int v :: rest))) := by
  subst hp; exact Go.of (fun _ q => XS.istoreN S.here S.hx rfl hd rfl hl q) go
theorem s_lstore {i : Nat} {v : Int64} {L' : Array Slot} (S : St p l e R s m args below meth c Z a0 EL n0 own T V h k n) (hd : decode c.code pc = .ok (.lstore i, 2)) (hl : storeLocals Ls i (.long v) = some L') {pc' : Nat} (hp : pc + 2 = pc') (go : Go p e below Q (T.setTop (mkF m pc' L' rest))) : Go p e below Q (T.setTop (mkF m pc Ls (.long v :: rest))) := by
  subst hp; exact Go.of (fun _ q => XS.lstore S.here S.hx rfl hd rfl hl q) go
theorem s_lstoreN {i : Fin 4} {v : Int64} {L' : Array Slot} (S : St p l e R s m args below meth c Z a0 EL n0 own T V h k n) (hd : decode c.code pc = .ok (.lstore_n i, 1)) (hl : storeLocals Ls i.val (.long v) = some L') {pc' : Nat} (hp : pc + 1 = pc') (go : Go p e below Q (T.setTop (mkF m pc' L' rest))) : Go p e below Q (T.setTop (mkF m pc Ls (.long v :: rest))) := by
  subst hp; exact Go.of (fun _ q => XS.lstoreN S.here S.hx rfl hd rfl hl q) go
theorem s_astore {i : Nat} {v : Value} {L' : Array Slot} (S : St p l e R s m args below meth c Z a0 EL n0 own T V h k n) (hd : decode c.code pc = .ok (.astore i, 2)) (hr : v.isRef = true) (hl : storeLocals Ls i v = some L') {pc' : Nat} (hp : pc + 2 = pc') (go : Go p e below Q (T.setTop (mkF m pc' L' rest))) : Go p e below Q (T.setTop (mkF m pc Ls (v :: rest))) := by
  subst hp; exact Go.of (fun _ q => XS.astore S.here S.hx rfl hd rfl hr hl q) go
theorem s_astoreN {i : Fin 4} {v : Value} {L' : Array Slot} (S : St p l e R s m args below meth c Z a0 EL n0 own T V h k n) (hd : decode c.code pc = .ok (.astore_n i, 1)) (hr : v.isRef = true) (hl : storeLocals Ls i.val v = some L') {pc' : Nat} (hp : pc + 1 = pc') (go : Go p e below Q (T.setTop (mkF m pc' L' rest))) : Go p e below Q (T.setTop (mkF m pc Ls (v :: rest))) := by
  subst hp; exact Go.of (fun _ q => XS.astoreN S.here S.hx rfl hd rfl hr hl q) go
theorem s_iconst {i : Int} {v : Int32} (S : St p l e R s m args below meth c Z a0 EL n0 own T V h k n) (hd : decode c.code pc = .ok (.iconst i, 1)) (hv : Int32.ofInt i = v) {pc' : Nat} (hp : pc + 1 = pc') (go : Go p e below Q (T.setTop (mkF m pc' Ls (.int v :: rest)))) : Go p e below Q (T.setTop (mkF m pc Ls rest)) := by
  subst hp hv; exact Go.of (fun _ q => XS.iconst S.here S.hx rfl hd q) go
theorem s_bipush {i : Int} {v : Int32} (S : St p l e R s m args below meth c Z a0 EL n0 own T V h k n) (hd : decode c.code pc = .ok (.bipush i, 2)) (hv : (Int8.ofInt i).toInt32 = v) {pc' : Nat} (hp : pc + 2 = pc') (go : Go p e below Q (T.setTop (mkF m pc' Ls (.int v :: rest)))) : Go p e below Q (T.setTop (mkF m pc Ls rest)) := by
  subst hp hv; exact Go.of (fun _ q => XS.bipush S.here S.hx rfl hd q) go
theorem s_sipush {i : Int} {v : Int32} (S : St p l e R s m args below meth c Z a0 EL n0 own T V h k n) (hd : decode c.code pc = .ok (.sipush i, 3)) (hv : (Int16.ofInt i).toInt32 = v) {pc' : Nat} (hp : pc + 3 = pc') (go : Go p e below Q (T.setTop (mkF m pc' Ls (.int v :: rest)))) : Go p e below Q (T.setTop (mkF m pc Ls rest)) := by
  subst hp hv; exact Go.of (fun _ q => XS.sipush S.here S.hx rfl hd q) go
theorem s_null  (S : St p l e R s m args below meth c Z a0 EL n0 own T V h k n) (hd : decode c.code pc = .ok (.aconst_null, 1))  {pc' : Nat} (hp : pc + 1 = pc') (go : Go p e below Q (T.setTop (mkF m pc' Ls (.null :: rest)))) : Go p e below Q (T.setTop (mkF m pc Ls rest)) := by
  subst hp; exact Go.of (fun _ q => XS.aconstNull S.here S.hx rfl hd q) go
theorem s_dup {v : Value} (S : St p l e R s m args below meth c Z a0 EL n0 own T V h k n) (hd : decode c.code pc = .ok (.dup, 1)) (hc : v.category = 1) {pc' : Nat} (hp : pc + 1 = pc') (go : Go p e below Q (T.setTop (mkF m pc' Ls (v :: v :: rest)))) : Go p e below Q (T.setTop (mkF m pc Ls (v :: rest))) := by
  subst hp; exact Go.of (fun _ q => XS.dup S.here S.hx rfl hd rfl hc q) go
theorem s_pop {v : Value} (S : St p l e R s m args below meth c Z a0 EL n0 own T V h k n) (hd : decode c.code pc = .ok (.pop, 1)) (hc : v.category = 1) {pc' : Nat} (hp : pc + 1 = pc') (go : Go p e below Q (T.setTop (mkF m pc' Ls rest))) : Go p e below Q (T.setTop (mkF m pc Ls (v :: rest))) := by
  subst hp; exact Go.of (fun _ q => XS.pop S.here S.hx rfl hd rfl hc q) go
theorem s_dupX1 {v u : Value} (S : St p l e R s m args below meth c Z a0 EL n0 own T V h k n) (hd : decode c.code pc = .ok (.dup_x1, 1)) (hc : v.category = 1) (hu : u.category = 1) {pc' : Nat} (hp : pc + 1 = pc') (go : Go p e below Q (T.setTop (mkF m pc' Ls (v :: u :: v :: rest)))) : Go p e below Q (T.setTop (mkF m pc Ls (v :: u :: rest))) := by
  subst hp; exact Go.of (fun _ q => XS.dupX1 S.here S.hx rfl hd rfl hc hu q) go
theorem s_iadd {x y z : Int32} (S : St p l e R s m args below meth c Z a0 EL n0 own T V h k n) (hd : decode c.code pc = .ok (.iadd, 1)) (hv : x + y = z) {pc' : Nat} (hp : pc + 1 = pc') (go : Go p e below Q (T.setTop (mkF m pc' Ls (.int z :: rest)))) : Go p e below Q (T.setTop (mkF m pc Ls (.int y :: .int x :: rest))) := by
  subst hp hv; exact Go.of (fun _ q => XS.iadd S.here S.hx rfl hd rfl q) go
theorem s_isub {x y z : Int32} (S : St p l e R s m args below meth c Z a0 EL n0 own T V h k n) (hd : decode c.code pc = .ok (.isub, 1)) (hv : x - y = z) {pc' : Nat} (hp : pc + 1 = pc') (go : Go p e below Q (T.setTop (mkF m pc' Ls (.int z :: rest)))) : Go p e below Q (T.setTop (mkF m pc Ls (.int y :: .int x :: rest))) := by
  subst hp hv; exact Go.of (fun _ q => XS.isub S.here S.hx rfl hd rfl q) go
theorem s_imul {x y z : Int32} (S : St p l e R s m args below meth c Z a0 EL n0 own T V h k n) (hd : decode c.code pc = .ok (.imul, 1)) (hv : x * y = z) {pc' : Nat} (hp : pc + 1 = pc') (go : Go p e below Q (T.setTop (mkF m pc' Ls (.int z :: rest)))) : Go p e below Q (T.setTop (mkF m pc Ls (.int y :: .int x :: rest))) := by
  subst hp hv; exact Go.of (fun _ q => XS.imul S.here S.hx rfl hd rfl q) go
theorem s_iand {x y z : Int32} (S : St p l e R s m args below meth c Z a0 EL n0 own T V h k n) (hd : decode c.code pc = .ok (.iand, 1)) (hv : x &&& y = z) {pc' : Nat} (hp : pc + 1 = pc') (go : Go p e below Q (T.setTop (mkF m pc' Ls (.int z :: rest)))) : Go p e below Q (T.setTop (mkF m pc Ls (.int y :: .int x :: rest))) := by
  subst hp hv; exact Go.of (fun _ q => XS.iand S.here S.hx rfl hd rfl q) go
theorem s_ior {x y z : Int32} (S : St p l e R s m args below meth c Z a0 EL n0 own T V h k n) (hd : decode c.code pc = .ok (.ior, 1)) (hv : x ||| y = z) {pc' : Nat} (hp : pc + 1 = pc') (go : Go p e below Q (T.setTop (mkF m pc' Ls (.int z :: rest)))) : Go p e below Q (T.setTop (mkF m pc Ls (.int y :: .int x :: rest))) := by
  subst hp hv; exact Go.of (fun _ q => XS.ior S.here S.hx rfl hd rfl q) go
theorem s_ixor {x y z : Int32} (S : St p l e R s m args below meth c Z a0 EL n0 own T V h k n) (hd : decode c.code pc = .ok (.ixor, 1)) (hv : x ^^^ y = z) {pc' : Nat} (hp : pc + 1 = pc') (go : Go p e below Q (T.setTop (mkF m pc' Ls (.int z :: rest)))) : Go p e below Q (T.setTop (mkF m pc Ls (.int y :: .int x :: rest))) := by
  subst hp hv; exact Go.of (fun _ q => XS.ixor S.here S.hx rfl hd rfl q) go
theorem s_ladd {x y z : Int64} (S : St p l e R s m args below meth c Z a0 EL n0 own T V h k n) (hd : decode c.code pc = .ok (.ladd, 1)) (hv : x + y = z) {pc' : Nat} (hp : pc + 1 = pc') (go : Go p e below Q (T.setTop (mkF m pc' Ls (.long z :: rest)))) : Go p e below Q (T.setTop (mkF m pc Ls (.long y :: .long x :: rest))) := by
  subst hp hv; exact Go.of (fun _ q => XS.ladd S.here S.hx rfl hd rfl q) go
theorem s_lsub {x y z : Int64} (S : St p l e R s m args below meth c Z a0 EL n0 own T V h k n) (hd : decode c.code pc = .ok (.lsub, 1)) (hv : x - y = z) {pc' : Nat} (hp : pc + 1 = pc') (go : Go p e below Q (T.setTop (mkF m pc' Ls (.long z :: rest)))) : Go p e below Q (T.setTop (mkF m pc Ls (.long y :: .long x :: rest))) := by
  subst hp hv; exact Go.of (fun _ q => XS.lsub S.here S.hx rfl hd rfl q) go
theorem s_lmul {x y z : Int64} (S : St p l e R s m args below meth c Z a0 EL n0 own T V h k n) (hd : decode c.code pc = .ok (.lmul, 1)) (hv : x * y = z) {pc' : Nat} (hp : pc + 1 = pc') (go : Go p e below Q (T.setTop (mkF m pc' Ls (.long z :: rest)))) : Go p e below Q (T.setTop (mkF m pc Ls (.long y :: .long x :: rest))) := by
  subst hp hv; exact Go.of (fun _ q => XS.lmul S.here S.hx rfl hd rfl q) go
theorem s_land {x y z : Int64} (S : St p l e R s m args below meth c Z a0 EL n0 own T V h k n) (hd : decode c.code pc = .ok (.land, 1)) (hv : x &&& y = z) {pc' : Nat} (hp : pc + 1 = pc') (go : Go p e below Q (T.setTop (mkF m pc' Ls (.long z :: rest)))) : Go p e below Q (T.setTop (mkF m pc Ls (.long y :: .long x :: rest))) := by
  subst hp hv; exact Go.of (fun _ q => XS.land S.here S.hx rfl hd rfl q) go
theorem s_lor {x y z : Int64} (S : St p l e R s m args below meth c Z a0 EL n0 own T V h k n) (hd : decode c.code pc = .ok (.lor, 1)) (hv : x ||| y = z) {pc' : Nat} (hp : pc + 1 = pc') (go : Go p e below Q (T.setTop (mkF m pc' Ls (.long z :: rest)))) : Go p e below Q (T.setTop (mkF m pc Ls (.long y :: .long x :: rest))) := by
  subst hp hv; exact Go.of (fun _ q => XS.lor S.here S.hx rfl hd rfl q) go
theorem s_lxor {x y z : Int64} (S : St p l e R s m args below meth c Z a0 EL n0 own T V h k n) (hd : decode c.code pc = .ok (.lxor, 1)) (hv : x ^^^ y = z) {pc' : Nat} (hp : pc + 1 = pc') (go : Go p e below Q (T.setTop (mkF m pc' Ls (.long z :: rest)))) : Go p e below Q (T.setTop (mkF m pc Ls (.long y :: .long x :: rest))) := by
  subst hp hv; exact Go.of (fun _ q => XS.lxor S.here S.hx rfl hd rfl q) go
theorem s_ishl {x y z : Int32} (S : St p l e R s m args below meth c Z a0 EL n0 own T V h k n) (hd : decode c.code pc = .ok (.ishl, 1)) (hv : x <<< (y &&& 31) = z) {pc' : Nat} (hp : pc + 1 = pc') (go : Go p e below Q (T.setTop (mkF m pc' Ls (.int z :: rest)))) : Go p e below Q (T.setTop (mkF m pc Ls (.int y :: .int x :: rest))) := by
  subst hp hv; exact Go.of (fun _ q => XS.ishl S.here S.hx rfl hd rfl q) go
theorem s_ishr {x y z : Int32} (S : St p l e R s m args below meth c Z a0 EL n0 own T V h k n) (hd : decode c.code pc = .ok (.ishr, 1)) (hv : x >>> (y &&& 31) = z) {pc' : Nat} (hp : pc + 1 = pc') (go : Go p e below Q (T.setTop (mkF m pc' Ls (.int z :: rest)))) : Go p e below Q (T.setTop (mkF m pc Ls (.int y :: .int x :: rest))) := by
  subst hp hv; exact Go.of (fun _ q => XS.ishr S.here S.hx rfl hd rfl q) go
theorem s_iushr {x y z : Int32} (S : St p l e R s m args below meth c Z a0 EL n0 own T V h k n) (hd : decode c.code pc = .ok (.iushr, 1)) (hv : (x.toUInt32 >>> (y &&& 31).toUInt32).toInt32 = z) {pc' : Nat} (hp : pc + 1 = pc') (go : Go p e below Q (T.setTop (mkF m pc' Ls (.int z :: rest)))) : Go p e below Q (T.setTop (mkF m pc Ls (.int y :: .int x :: rest))) := by
  subst hp hv; exact Go.of (fun _ q => XS.iushr S.here S.hx rfl hd rfl q) go
theorem s_lshl {x z : Int64} {y : Int32} (S : St p l e R s m args below meth c Z a0 EL n0 own T V h k n) (hd : decode c.code pc = .ok (.lshl, 1)) (hv : x <<< (y &&& 0x3f).toInt64 = z) {pc' : Nat} (hp : pc + 1 = pc') (go : Go p e below Q (T.setTop (mkF m pc' Ls (.long z :: rest)))) : Go p e below Q (T.setTop (mkF m pc Ls (.int y :: .long x :: rest))) := by
  subst hp hv; exact Go.of (fun _ q => XS.lshl S.here S.hx rfl hd rfl q) go
theorem s_lshr {x z : Int64} {y : Int32} (S : St p l e R s m args below meth c Z a0 EL n0 own T V h k n) (hd : decode c.code pc = .ok (.lshr, 1)) (hv : x >>> (y &&& 0x3f).toInt64 = z) {pc' : Nat} (hp : pc + 1 = pc') (go : Go p e below Q (T.setTop (mkF m pc' Ls (.long z :: rest)))) : Go p e below Q (T.setTop (mkF m pc Ls (.int y :: .long x :: rest))) := by
  subst hp hv; exact Go.of (fun _ q => XS.lshr S.here S.hx rfl hd rfl q) go
theorem s_lushr {x z : Int64} {y : Int32} (S : St p l e R s m args below meth c Z a0 EL n0 own T V h k n) (hd : decode c.code pc = .ok (.lushr, 1)) (hv : (x.toUInt64 >>> (y &&& 0x3f).toInt64.toUInt64).toInt64 = z) {pc' : Nat} (hp : pc + 1 = pc') (go : Go p e below Q (T.setTop (mkF m pc' Ls (.long z :: rest)))) : Go p e below Q (T.setTop (mkF m pc Ls (.int y :: .long x :: rest))) := by
  subst hp hv; exact Go.of (fun _ q => XS.lushr S.here S.hx rfl hd rfl q) go
theorem s_i2c {x z : Int32} (S : St p l e R s m args below meth c Z a0 EL n0 own T V h k n) (hd : decode c.code pc = .ok (.i2c, 1)) (hv : x.toUInt32.toUInt16.toUInt32.toInt32 = z) {pc' : Nat} (hp : pc + 1 = pc') (go : Go p e below Q (T.setTop (mkF m pc' Ls (.int z :: rest)))) : Go p e below Q (T.setTop (mkF m pc Ls (.int x :: rest))) := by
  subst hp hv; exact Go.of (fun _ q => XS.i2c S.here S.hx rfl hd rfl q) go
theorem s_i2b {x z : Int32} (S : St p l e R s m args below meth c Z a0 EL n0 own T V h k n) (hd : decode c.code pc = .ok (.i2b, 1)) (hv : x.toInt8.toInt32 = z) {pc' : Nat} (hp : pc + 1 = pc') (go : Go p e below Q (T.setTop (mkF m pc' Ls (.int z :: rest)))) : Go p e below Q (T.setTop (mkF m pc Ls (.int x :: rest))) := by
  subst hp hv; exact Go.of (fun _ q => XS.i2b S.here S.hx rfl hd rfl q) go
theorem s_i2s {x z : Int32} (S : St p l e R s m args below meth c Z a0 EL n0 own T V h k n) (hd : decode c.code pc = .ok (.i2s, 1)) (hv : x.toInt16.toInt32 = z) {pc' : Nat} (hp : pc + 1 = pc') (go : Go p e below Q (T.setTop (mkF m pc' Ls (.int z :: rest)))) : Go p e below Q (T.setTop (mkF m pc Ls (.int x :: rest))) := by
  subst hp hv; exact Go.of (fun _ q => XS.i2s S.here S.hx rfl hd rfl q) go
theorem s_i2l {x : Int32} {z : Int64} (S : St p l e R s m args below meth c Z a0 EL n0 own T V h k n) (hd : decode c.code pc = .ok (.i2l, 1)) (hv : x.toInt64 = z) {pc' : Nat} (hp : pc + 1 = pc') (go : Go p e below Q (T.setTop (mkF m pc' Ls (.long z :: rest)))) : Go p e below Q (T.setTop (mkF m pc Ls (.int x :: rest))) := by
  subst hp hv; exact Go.of (fun _ q => XS.i2l S.here S.hx rfl hd rfl q) go
theorem s_l2i {x : Int64} {z : Int32} (S : St p l e R s m args below meth c Z a0 EL n0 own T V h k n) (hd : decode c.code pc = .ok (.l2i, 1)) (hv : x.toInt32 = z) {pc' : Nat} (hp : pc + 1 = pc') (go : Go p e below Q (T.setTop (mkF m pc' Ls (.int z :: rest)))) : Go p e below Q (T.setTop (mkF m pc Ls (.long x :: rest))) := by
  subst hp hv; exact Go.of (fun _ q => XS.l2i S.here S.hx rfl hd rfl q) go
theorem s_lcmp {x y : Int64} {z : Int32} (S : St p l e R s m args below meth c Z a0 EL n0 own T V h k n) (hd : decode c.code pc = .ok (.lcmp, 1)) (hv : lcmpW x y = z) {pc' : Nat} (hp : pc + 1 = pc') (go : Go p e below Q (T.setTop (mkF m pc' Ls (.int z :: rest)))) : Go p e below Q (T.setTop (mkF m pc Ls (.long y :: .long x :: rest))) := by
  subst hp hv; exact Go.of (fun _ q => XS.lcmp S.here S.hx rfl hd rfl q) go
theorem s_idiv {x y z : Int32} (S : St p l e R s m args below meth c Z a0 EL n0 own T V h k n) (hd : decode c.code pc = .ok (.idiv, 1)) (h0 : y ≠ 0) (hv : x / y = z) {pc' : Nat} (hp : pc + 1 = pc') (go : Go p e below Q (T.setTop (mkF m pc' Ls (.int z :: rest)))) : Go p e below Q (T.setTop (mkF m pc Ls (.int y :: .int x :: rest))) := by
  subst hp hv; exact Go.of (fun _ q => XS.idiv S.here S.hx rfl hd rfl h0 q) go
theorem s_ldiv {x y z : Int64} (S : St p l e R s m args below meth c Z a0 EL n0 own T V h k n) (hd : decode c.code pc = .ok (.ldiv, 1)) (h0 : y ≠ 0) (hv : x / y = z) {pc' : Nat} (hp : pc + 1 = pc') (go : Go p e below Q (T.setTop (mkF m pc' Ls (.long z :: rest)))) : Go p e below Q (T.setTop (mkF m pc Ls (.long y :: .long x :: rest))) := by
  subst hp hv; exact Go.of (fun _ q => XS.ldiv S.here S.hx rfl hd rfl h0 q) go
theorem s_irem {x y z : Int32} (S : St p l e R s m args below meth c Z a0 EL n0 own T V h k n) (hd : decode c.code pc = .ok (.irem, 1)) (h0 : y ≠ 0) (hv : x % y = z) {pc' : Nat} (hp : pc + 1 = pc') (go : Go p e below Q (T.setTop (mkF m pc' Ls (.int z :: rest)))) : Go p e below Q (T.setTop (mkF m pc Ls (.int y :: .int x :: rest))) := by
  subst hp hv; rw [← irem_eq_mod] at go; exact Go.of (fun _ q => XS.irem S.here S.hx rfl hd rfl h0 q) go
theorem s_goto (S : St p l e R s m args below meth c Z a0 EL n0 own T V h k n) {o : Int} {pcT : Nat} (hd : decode c.code pc = .ok (.goto o, 3)) (ho : 0 ≤ (pc : Int) + o) (hp : ((pc : Int) + o).toNat = pcT) (go : Go p e below Q (T.setTop (mkF m pcT Ls rest))) : Go p e below Q (T.setTop (mkF m pc Ls rest)) := Go.of (fun _ q => XS.goto S.here S.hx rfl (pc0 := pc) (pc' := pcT) rfl hd ho hp q) go
theorem s_iinc {i : Nat} {d : Int} {v z : Int32} {L' : Array Slot} (S : St p l e R s m args below meth c Z a0 EL n0 own T V h k n) (hd : decode c.code pc = .ok (.iinc i d, 3)) (hv : Ls[i]? = some (.val (.int v))) (hz : v + Int32.ofInt d = z) (hl : storeLocals Ls i (.int z) = some L') {pc' : Nat} (hp : pc + 3 = pc') (go : Go p e below Q (T.setTop (mkF m pc' L' rest))) : Go p e below Q (T.setTop (mkF m pc Ls rest)) := by
  subst hp hz; exact Go.of (fun _ q => XS.iinc S.here S.hx rfl hd hv hl q) go
theorem s_icmpY (S : St p l e R s m args below meth c Z a0 EL n0 own T V h k n) {cd : ClassFile.Cond} {x y : Int32} {o : Int} {pcT : Nat} (hd : decode c.code pc = .ok (.if_icmp cd o, 3)) (hc : if_icmp.holds cd x y = true) (ho : 0 ≤ (pc : Int) + o) (hp : ((pc : Int) + o).toNat = pcT) (go : Go p e below Q (T.setTop (mkF m pcT Ls rest))) : Go p e below Q (T.setTop (mkF m pc Ls (.int y :: .int x :: rest))) := Go.of (fun _ r => XS.icmpYes S.here S.hx rfl (pc0 := pc) (pc' := pcT) rfl hd rfl hc ho hp r) go
theorem s_icmpN (S : St p l e R s m args below meth c Z a0 EL n0 own T V h k n) {cd : ClassFile.Cond} {x y : Int32} {o : Int} (hd : decode c.code pc = .ok (.if_icmp cd o, 3)) (hc : if_icmp.holds cd x y = false) {pc' : Nat} (hp : pc + 3 = pc') (go : Go p e below Q (T.setTop (mkF m pc' Ls rest))) : Go p e below Q (T.setTop (mkF m pc Ls (.int y :: .int x :: rest))) := by
  subst hp; exact Go.of (fun _ r => XS.icmpNo S.here S.hx rfl hd rfl hc r) go
theorem s_ifY (S : St p l e R s m args below meth c Z a0 EL n0 own T V h k n) {cd : ClassFile.Cond} {x : Int32} {o : Int} {pcT : Nat} (hd : decode c.code pc = .ok (.ifCond cd o, 3)) (hc : ifCond.holds cd x = true) (ho : 0 ≤ (pc : Int) + o) (hp : ((pc : Int) + o).toNat = pcT) (go : Go p e below Q (T.setTop (mkF m pcT Ls rest))) : Go p e below Q (T.setTop (mkF m pc Ls (.int x :: rest))) := Go.of (fun _ r => XS.ifYes S.here S.hx rfl (pc0 := pc) (pc' := pcT) rfl hd rfl hc ho hp r) go
theorem s_ifN (S : St p l e R s m args below meth c Z a0 EL n0 own T V h k n) {cd : ClassFile.Cond} {x : Int32} {o : Int} (hd : decode c.code pc = .ok (.ifCond cd o, 3)) (hc : ifCond.holds cd x = false) {pc' : Nat} (hp : pc + 3 = pc') (go : Go p e below Q (T.setTop (mkF m pc' Ls rest))) : Go p e below Q (T.setTop (mkF m pc Ls (.int x :: rest))) := by
  subst hp; exact Go.of (fun _ r => XS.ifNo S.here S.hx rfl hd rfl hc r) go
theorem s_nullY (S : St p l e R s m args below meth c Z a0 EL n0 own T V h k n) {o : Int} {pcT : Nat} (hd : decode c.code pc = .ok (.ifnull o, 3)) (ho : 0 ≤ (pc : Int) + o) (hp : ((pc : Int) + o).toNat = pcT) (go : Go p e below Q (T.setTop (mkF m pcT Ls rest))) : Go p e below Q (T.setTop (mkF m pc Ls (.null :: rest))) := Go.of (fun _ r => XS.ifnullYes S.here S.hx rfl (pc0 := pc) (pc' := pcT) rfl hd rfl ho hp r) go
theorem s_nullN (S : St p l e R s m args below meth c Z a0 EL n0 own T V h k n) {o : Int} {b : Addr} (hd : decode c.code pc = .ok (.ifnull o, 3)) {pc' : Nat} (hp : pc + 3 = pc') (go : Go p e below Q (T.setTop (mkF m pc' Ls rest))) : Go p e below Q (T.setTop (mkF m pc Ls (.ref b :: rest))) := by
  subst hp; exact Go.of (fun _ r => XS.ifnullNo S.here S.hx rfl hd rfl r) go
theorem s_nonnullY (S : St p l e R s m args below meth c Z a0 EL n0 own T V h k n) {o : Int} {b : Addr} {pcT : Nat} (hd : decode c.code pc = .ok (.ifnonnull o, 3)) (ho : 0 ≤ (pc : Int) + o) (hp : ((pc : Int) + o).toNat = pcT) (go : Go p e below Q (T.setTop (mkF m pcT Ls rest))) : Go p e below Q (T.setTop (mkF m pc Ls (.ref b :: rest))) := Go.of (fun _ r => XS.ifnonnullYes S.here S.hx rfl (pc0 := pc) (pc' := pcT) rfl hd rfl ho hp r) go
theorem s_nonnullN (S : St p l e R s m args below meth c Z a0 EL n0 own T V h k n) {o : Int} (hd : decode c.code pc = .ok (.ifnonnull o, 3)) {pc' : Nat} (hp : pc + 3 = pc') (go : Go p e below Q (T.setTop (mkF m pc' Ls rest))) : Go p e below Q (T.setTop (mkF m pc Ls (.null :: rest))) := by
  subst hp; exact Go.of (fun _ r => XS.ifnonnullNo S.here S.hx rfl hd rfl r) go
theorem s_acmp (S : St p l e R s m args below meth c Z a0 EL n0 own T V h k n) {cd : ACond} {x y : Value} (h1 : x.isRef = true) (h2 : y.isRef = true) {o : Int} {pcT : Nat} {same : Bool} (hd : decode c.code pc = .ok (.if_acmp cd o, 3)) (hq : decide (x = y) = same) (ho : 0 ≤ (pc : Int) + o) (hp : pcT = if acV cd same = true then ((pc : Int) + o).toNat else pc + 3) (go : Go p e below Q (T.setTop (mkF m pcT Ls rest))) : Go p e below Q (T.setTop (mkF m pc Ls (y :: x :: rest))) := by
  obtain ⟨hx, eT, hZ, hown, hO, hE, hC, hlk, locs, k0, X, hS, hk, hF⟩ := S
  exact Go.of (fun _ r => Jvm.RoadKit.acmp (g := mkF m pc Ls (y :: x :: rest)) X hx rfl h1 h2 (pc0 := pc) (pc' := pcT) (same := same) rfl hd rfl hq ho hp r) go
theorem g_bastore (S : St p l e R s m args below meth c Z a0 EL n0 own T V h k n) {a : Addr} {kc : ClassId} {z : Int32} {vs : List Value} {dv : Value} (A : Arv Z h a kc .byte z vs dv) {j : Int32} {x : Int32} (hj : ¬ j < 0 ∧ j < z) (i : Nat) (hi : j.toNatClampNeg = i) (hlt : i < vs.length) (na : n0 ≤ a) (sf : Safe Z EL V h a) (hd : decode c.code pc = .ok (.bastore, 1))
    (go : ∀ T' h', St p l e R s m args below meth c Z a0 EL n0 own T' V h' k n → Keep h h' [a] → Arv Z h' a kc .byte z (vs.set i (.int (nar .byte x))) dv → Safe Z EL V h' a → Go p e below Q (T'.setTop (mkF m (pc + 1) Ls rest))) : Go p e below Q (T.setTop (mkF m pc Ls ((.int x) :: .int j :: .ref a :: rest))) := by
  obtain ⟨hx, eT, hZ, hown, hO, hE, hC, hlk, locs, k0, X, hS, hk, hF⟩ := S
  skip
  obtain ⟨cl, Ar, q1, q2, q3, q4, q5⟩ := A
  obtain ⟨T', h', X', e', W, st⟩ := stB X hx hZ eT Ar (j := j) (x := x) (inb_of q2 hj) (g := mkF m pc Ls ((.int x) :: .int j :: .ref a :: rest)) rfl rfl hd
  have K := Keep.of_wr W
  exact Go.of st (go T' h' ⟨hx, e', hZ, hown, hO.wr W na, hE, hC.trans (CHr.wr W sf hC.1), hlk, _, k0, X', hS, Nat.le_trans hk K.1, Fr.snoc X' hF na⟩ K (Arv.set Ar q1 q2 q3 q4 q5 (fits_nar_byte x) W i hi hlt) (Safe.wr W sf hC.1 sf))
theorem g_iastore (S : St p l e R s m args below meth c Z a0 EL n0 own T V h k n) {a : Addr} {kc : ClassId} {z : Int32} {vs : List Value} {dv : Value} (A : Arv Z h a kc .int z vs dv) {j : Int32} {x : Int32} (hj : ¬ j < 0 ∧ j < z) (i : Nat) (hi : j.toNatClampNeg = i) (hlt : i < vs.length) (na : n0 ≤ a) (hd : decode c.code pc = .ok (.iastore, 1))
    (go : ∀ T' h', St p l e R s m args below meth c Z a0 EL n0 own T' V h' k n → Keep h h' [a] → Arv Z h' a kc .int z (vs.set i (.int x)) dv → Safe Z EL V h' a → Go p e below Q (T'.setTop (mkF m (pc + 1) Ls rest))) : Go p e below Q (T.setTop (mkF m pc Ls ((.int x) :: .int j :: .ref a :: rest))) := by
  obtain ⟨hx, eT, hZ, hown, hO, hE, hC, hlk, locs, k0, X, hS, hk, hF⟩ := S
  have sf : Safe Z EL V h a := Safe.arv hZ.alike A (by decide)
  obtain ⟨cl, Ar, q1, q2, q3, q4, q5⟩ := A
  obtain ⟨T', h', X', e', W, st⟩ := stI X hx hZ eT Ar (j := j) (x := x) (inb_of q2 hj) (g := mkF m pc Ls ((.int x) :: .int j :: .ref a :: rest)) rfl rfl hd
  have K := Keep.of_wr W
  exact Go.of st (go T' h' ⟨hx, e', hZ, hown, hO.wr W na, hE, hC.trans (CHr.wr W sf hC.1), hlk, _, k0, X', hS, Nat.le_trans hk K.1, Fr.snoc X' hF na⟩ K (Arv.set Ar q1 q2 q3 q4 q5 rfl W i hi hlt) (Safe.wr W sf hC.1 sf))
theorem g_lastore (S : St p l e R s m args below meth c Z a0 EL n0 own T V h k n) {a : Addr} {kc : ClassId} {z : Int32} {vs : List Value} {dv : Value} (A : Arv Z h a kc .long z vs dv) {j : Int32} {x : Int64} (hj : ¬ j < 0 ∧ j < z) (i : Nat) (hi : j.toNatClampNeg = i) (hlt : i < vs.length) (na : n0 ≤ a) (hd : decode c.code pc = .ok (.lastore, 1))
    (go : ∀ T' h', St p l e R s m args below meth c Z a0 EL n0 own T' V h' k n → Keep h h' [a] → Arv Z h' a kc .long z (vs.set i (.long x)) dv → Safe Z EL V h' a → Go p e below Q (T'.setTop (mkF m (pc + 1) Ls rest))) : Go p e below Q (T.setTop (mkF m pc Ls ((.long x) :: .int j :: .ref a :: rest))) := by
  obtain ⟨hx, eT, hZ, hown, hO, hE, hC, hlk, locs, k0, X, hS, hk, hF⟩ := S
  have sf : Safe Z EL V h a := Safe.arv hZ.alike A (by decide)
  obtain ⟨cl, Ar, q1, q2, q3, q4, q5⟩ := A
  obtain ⟨T', h', X', e', W, st⟩ := stJ X hx hZ eT Ar (j := j) (x := x) (inb_of q2 hj) (g := mkF m pc Ls ((.long x) :: .int j :: .ref a :: rest)) rfl rfl hd
  have K := Keep.of_wr W
  exact Go.of st (go T' h' ⟨hx, e', hZ, hown, hO.wr W na, hE, hC.trans (CHr.wr W sf hC.1), hlk, _, k0, X', hS, Nat.le_trans hk K.1, Fr.snoc X' hF na⟩ K (Arv.set Ar q1 q2 q3 q4 q5 rfl W i hi hlt) (Safe.wr W sf hC.1 sf))
theorem g_iaload (S : St p l e R s m args below meth c Z a0 EL n0 own T V h k n) {a : Addr} {kc : ClassId} {z : Int32} {vs : List Value} {dv : Value} (A : Arv Z h a kc .int z vs dv) {j : Int32} (hj : ¬ j < 0 ∧ j < z) {x : Int32} (hv : vs.getD j.toNatClampNeg dv = (.int x)) (hd : decode c.code pc = .ok (.iaload, 1)) (go : Go p e below Q (T.setTop (mkF m (pc + 1) Ls ((.int x) :: rest)))) : Go p e below Q (T.setTop (mkF m pc Ls (.int j :: .ref a :: rest))) := by
  obtain ⟨hx, eT, hZ, hown, hO, hE, hC, hlk, locs, k0, X, hS, hk, hF⟩ := S
  obtain ⟨cl, Ar, q1, q2, q3, q4, q5⟩ := A
  have hin := inb_of q2 hj
  exact Go.of (fun _ q => X.iaload hx (j := j) (v := (.int x)) (by rw [eT]; exact Ar.1) (State.isArrayOf_alike (T := s.setVm V) hZ.alike Ar.2.1) Ar.2.2 hin (q4.at hin hv) (g := mkF m pc Ls (.int j :: .ref a :: rest)) rfl rfl hd _ q) go
theorem g_laload (S : St p l e R s m args below meth c Z a0 EL n0 own T V h k n) {a : Addr} {kc : ClassId} {z : Int32} {vs : List Value} {dv : Value} (A : Arv Z h a kc .long z vs dv) {j : Int32} (hj : ¬ j < 0 ∧ j < z) {x : Int64} (hv : vs.getD j.toNatClampNeg dv = (.long x)) (hd : decode c.code pc = .ok (.laload, 1)) (go : Go p e below Q (T.setTop (mkF m (pc + 1) Ls ((.long x) :: rest)))) : Go p e below Q (T.setTop (mkF m pc Ls (.int j :: .ref a :: rest))) := by
  obtain ⟨hx, eT, hZ, hown, hO, hE, hC, hlk, locs, k0, X, hS, hk, hF⟩ := S
  obtain ⟨cl, Ar, q1, q2, q3, q4, q5⟩ := A
  have hin := inb_of q2 hj
  exact Go.of (fun _ q => X.laload hx (j := j) (v := (.long x)) (by rw [eT]; exact Ar.1) (State.isArrayOf_alike (T := s.setVm V) hZ.alike Ar.2.1) Ar.2.2 hin (q4.at hin hv) (g := mkF m pc Ls (.int j :: .ref a :: rest)) rfl rfl hd _ q) go
theorem g_baload (S : St p l e R s m args below meth c Z a0 EL n0 own T V h k n) {a : Addr} {kc : ClassId} {z : Int32} {vs : List Value} {dv : Value} (A : Arv Z h a kc .byte z vs dv) {j : Int32} (hj : ¬ j < 0 ∧ j < z) {x : Int32} (hv : vs.getD j.toNatClampNeg dv = (.int x)) (hd : decode c.code pc = .ok (.baload, 1)) (go : Go p e below Q (T.setTop (mkF m (pc + 1) Ls ((.int x) :: rest)))) : Go p e below Q (T.setTop (mkF m pc Ls (.int j :: .ref a :: rest))) := by
  obtain ⟨hx, eT, hZ, hown, hO, hE, hC, hlk, locs, k0, X, hS, hk, hF⟩ := S
  obtain ⟨cl, Ar, q1, q2, q3, q4, q5⟩ := A
  have hin := inb_of q2 hj
  exact Go.of (fun _ q => X.baloadBytes hx (j := j) (v := (.int x)) (by rw [eT]; exact Ar.1) (State.isArrayOf_alike (T := s.setVm V) hZ.alike Ar.2.1) Ar.2.2 hin (q4.at hin hv) (g := mkF m pc Ls (.int j :: .ref a :: rest)) rfl rfl hd _ q) go
theorem g_instN (S : St p l e R s m args below meth c Z a0 EL n0 own T V h k n) {K C : String} {index : Nat} (w : (Cond.classLink own index K).before a0 Z = true) {a : Addr} (E : Exa Z h a C) (F : ∃ c t, Z.vm.findClass C = some c ∧ Z.vm.findClass K = some t ∧ Z.vm.assignable c t = false) (hd : decode c.code pc = .ok (.instanceof index, 3))
    (go : ∀ T', St p l e R s m args below meth c Z a0 EL n0 own T' V h k n → Go p e below Q (T'.setTop (mkF m (pc + 3) Ls (.int 0 :: rest)))) : Go p e below Q (T.setTop (mkF m pc Ls (.ref a :: rest))) := by
  obtain ⟨hx, eT, hZ, hown, hO, hE, hC, hlk, locs, k0, X, hS, hk, hF⟩ := S
  obtain ⟨T', X', e', st⟩ := instNo X hx hZ hown w eT E F (g := mkF m pc Ls (.ref a :: rest)) rfl rfl hd
  exact Go.of st (go T' ⟨hx, e', hZ, hown, hO, hE, hC, hlk, locs, k0, X', hS, hk, hF⟩)
theorem g_instNull (S : St p l e R s m args below meth c Z a0 EL n0 own T V h k n) {index : Nat} (hd : decode c.code pc = .ok (.instanceof index, 3)) (go : Go p e below Q (T.setTop (mkF m (pc + 3) Ls (.int 0 :: rest)))) : Go p e below Q (T.setTop (mkF m pc Ls (.null :: rest))) := by
  obtain ⟨hx, eT, hZ, hown, hO, hE, hC, hlk, locs, k0, X, hS, hk, hF⟩ := S
  exact Go.of (fun _ q => X.instanceofNull hx (g := mkF m pc Ls (.null :: rest)) rfl rfl hd _ q) go
end Steps
end Jvm.OwnKit
/- laws to paste: Road.backV, Road.lenW, Road.chN, Road.codOf (cut by pick.py; bodies as the Statement names them) -/
namespace Jvm.Pilot.@@N@@
namespace StrChars
open Jvm Sem ClassFile Op Lib Jvm.Stand Jvm.Free.XT Jvm.Free.ALB Jvm.Free.JM Jvm.Free
open Jvm.Lib.Cold (StaticIs)
/-- a char array whose places are chars -/
def Ch (a : Addr) (A : Cell) (U : State) : Prop := Arr .char a A U ∧ Typed .char A
theorem Ch.mv {a : Addr} {A : Cell} {U U' : State} (h : Ch a A U) (hal : U.vm.Alike U'.vm) (hh : U'.heap = U.heap) : Ch a A U' := ⟨h.1.mv hal hh, h.2⟩
theorem Ch.keep {a : Addr} {A : Cell} {U U' : State} (h : Ch a A U) (hal : U.vm.Alike U'.vm) (hk : U'.heap[a]? = some A) : Ch a A U' := ⟨h.1.keep hal hk, h.2⟩
/-- what place i of a char[]'s cell holds -/
def cv (A : Cell) (i : Nat) : Int32 := match A.slots[i]? with | some (.int x) => x | _ => 0
theorem Ch.get {a : Addr} {A : Cell} {U : State} (h : Ch a A U) {i : Nat} (hi : i < A.slots.size) : A.slots[i]? = some (.int (cv A i)) := by
  have e := Array.getElem?_eq_getElem hi
  have f := h.2 i _ e
  unfold cv; rw [e]
  generalize A.slots[i] = v at f
  cases v <;> simp [fits] at f ⊢
/-- the byte that i2b leaves of a char -/
def lo8 (x : Int32) : Int32 := x.toInt8.toInt32
theorem fits_lo8 (y : Int32) : fits .byte (.int (lo8 y)) = true := by
  have h1 := y.toInt8.le_toInt
  have h2 := y.toInt8.toInt_lt
  simp only [lo8, fits, Bool.and_eq_true, decide_eq_true_eq, Int32.le_iff_toInt_le, Int8.toInt_toInt32, show (-128 : Int32).toInt = -128 from by decide, show (127 : Int32).toInt = 127 from by decide]
  omega
/-- A' is A but that each place j of lo .. hi - 1 holds f j -/
def Laid (A A' : Cell) (lo hi : Nat) (f : Nat → Value) : Prop := A'.cls = A.cls ∧ A'.vm = A.vm ∧ A'.slots.size = A.slots.size ∧ ∀ i, A'.slots[i]? = if lo ≤ i ∧ i < hi then some (f i) else A.slots[i]?
theorem Laid.zero (A : Cell) (lo : Nat) (f : Nat → Value) : Laid A A lo (lo + 0) f := ⟨rfl, rfl, rfl, fun i => by rw [if_neg (by omega)]⟩
theorem Laid.step {A Ak : Cell} {lo k : Nat} {f : Nat → Value} {v : Value} (h : Laid A Ak lo k f) (hlo : lo ≤ k) (hk : k < Ak.slots.size) (hv : v = f k) : Laid A (Ak.setSlot k v) lo (k + 1) f := by
  refine ⟨h.1, h.2.1, by simpa [Cell.setSlot] using h.2.2.1, fun i => ?_⟩
  by_cases e : k = i
  · subst e; rw [Cell.slots_setSlot_self v hk, if_pos (by omega), hv]
  · rw [Cell.slots_setSlot_ne v e, h.2.2.2 i]
    by_cases q : lo ≤ i ∧ i < k
    · rw [if_pos q, if_pos (by omega)]
    · rw [if_neg q, if_neg (by omega)]
def U16 : String := "java/lang/StringUTF16"
namespace Cmp5
def yN : MethodName := ⟨"java/lang/StringUTF16", "compress", "([CI[BII)I"⟩
abbrev yB : ByteArray := jdk_52_method_21_code
theorem d0 : decode yB 0 = .ok (.iconst 0, 1) := by decide +kernel
theorem d1 : decode yB 1 = .ok (.istore 5, 2) := by decide +kernel
theorem d3 : decode yB 3 = .ok (.iload 5, 2) := by decide +kernel
theorem d5 : decode yB 5 = .ok (.iload 4, 2) := by decide +kernel
theorem d7 : decode yB 7 = .ok (.if_icmp (.ge) 37, 3) := by decide +kernel
theorem d10 : decode yB 10 = .ok (.aload_n 0, 1) := by decide +kernel
theorem d11 : decode yB 11 = .ok (.iload_n 1, 1) := by decide +kernel
theorem d12 : decode yB 12 = .ok (.caload, 1) := by decide +kernel
theorem d13 : decode yB 13 = .ok (.istore 6, 2) := by decide +kernel
theorem d15 : decode yB 15 = .ok (.iload 6, 2) := by decide +kernel
theorem d17 : decode yB 17 = .ok (.sipush 255, 3) := by decide +kernel
theorem d20 : decode yB 20 = .ok (.if_icmp (.le) 6, 3) := by decide +kernel
theorem d26 : decode yB 26 = .ok (.aload_n 2, 1) := by decide +kernel
theorem d27 : decode yB 27 = .ok (.iload_n 3, 1) := by decide +kernel
theorem d28 : decode yB 28 = .ok (.iload 6, 2) := by decide +kernel
theorem d30 : decode yB 30 = .ok (.i2b, 1) := by decide +kernel
theorem d31 : decode yB 31 = .ok (.bastore, 1) := by decide +kernel
theorem d32 : decode yB 32 = .ok (.iinc 1 1, 3) := by decide +kernel
theorem d35 : decode yB 35 = .ok (.iinc 3 1, 3) := by decide +kernel
theorem d38 : decode yB 38 = .ok (.iinc 5 1, 3) := by decide +kernel
theorem d41 : decode yB 41 = .ok (.goto (-38), 3) := by decide +kernel
theorem d44 : decode yB 44 = .ok (.iload 4, 2) := by decide +kernel
theorem d46 : decode yB 46 = .ok (.ireturn, 1) := by decide +kernel
def site : List Cond := []
def tab : Cond := tabOf yN yB 7 (some .int) site
def P (b : Addr) (A : Cell) (d : Addr) (B : Cell) (o q len : Nat) (args : Array Value) (s : State) : Prop := args = #[.ref b, .int (Int32.ofNat o), .ref d, .int (Int32.ofNat q), .int (Int32.ofNat len)] ∧ Ch b A s ∧ Arr .byte d B s ∧ b ≠ d ∧ o + len ≤ A.slots.size ∧ q + len ≤ B.slots.size ∧ ∀ i, i < len → ¬ 255 < cv A (o + i)
def E (b : Addr) (A : Cell) (d : Addr) (B : Cell) (o q len : Nat) (r : Option Value) (s u : State) : Prop := r = some (.int (Int32.ofNat len)) ∧ ∃ B', Put d B' s u ∧ Laid B B' q (q + len) (fun j => Value.int (lo8 (cv A (o + (j - q)))))
/-- no char of the range above 255: len; the places written hold each char's low byte -/
theorem law (l : Launch) (b : Addr) (A : Cell) (d : Addr) (B : Cell) (o q len : Nat) : Law l yN 5 5 0 0 yB 7 (some .int) site (P b A d B o q len) (E b A d B o q len) (copyLocs d q len) 0 0 := by
  refine Law.of_walk (plainFor_of_name (by decide +kernel)) (by decide +kernel) (by decide +kernel) (by decide) (fun _ _ h => by rw [h.1]; rfl) (fun _ U U' hal hh h => ⟨h.1, h.2.1.mv hal hh, h.2.2.1.mv hal hh, h.2.2.2⟩) (fun r U U' V V' h1 hal h2 h => ⟨h.1, h.2.elim fun B' q => ⟨B', q.1.mv h1 h2, q.2⟩⟩) ?_
  intro p e s m args below meth c s₁ X0 hexec hbytes hml hret hlk hnm hown hh0 W hP
  obtain ⟨rfl, hA, hB, hne, l1, l2, hp⟩ := hP
  have c1 : Steps p.tables e below (s₁.setTop (entryFrame m #[.ref b, .int (Int32.ofNat o), .ref d, .int (Int32.ofNat q), .int (Int32.ofNat len)] 7)) (s₁.setTop (mkF m 0 #[.val (.ref b), .val (.int (Int32.ofNat o)), .val (.ref d), .val (.int (Int32.ofNat q)), .val (.int (Int32.ofNat len)), .unset, .unset] [])) := entry rfl
  have hA0 := hA.1.mv X0.warmed.alike hh0
  have hB0 := hB.mv X0.warmed.alike hh0
  have a31 := hA.1.2.2.2
  have c2 : Steps p.tables e below (s₁.setTop (entryFrame m #[.ref b, .int (Int32.ofNat o), .ref d, .int (Int32.ofNat q), .int (Int32.ofNat len)] 7)) (s₁.setTop (mkF m 3 #[.val (.ref b), .val (.int (Int32.ofNat o)), .val (.ref d), .val (.int (Int32.ofNat q)), .val (.int (Int32.ofNat len)), .val (.int 0), .unset] [])) := c1.trans (by
    refine iconstV X0.here hexec rfl 0 (hb hbytes d0) (by decide) ?_
    refine XS.istore X0.here hexec rfl (hb hbytes d1) rfl rfl ?_
    exact Steps.refl _)
  have loop : ∀ (r i : Nat), i + r = len → ∀ (z : Slot), (z = .unset ∨ ∃ w, z = .val w ∧ w.category = 1) → ∀ (Tl : State) (Bk : Cell), Stand p l e { frames := 0, locals := 0, cells := 0, slots := 0 } s m #[.ref b, .int (Int32.ofNat o), .ref d, .int (Int32.ofNat q), .int (Int32.ofNat len)] below meth c Tl ([] ++ copyLocs d q i) 0 0 → Put d Bk s₁ Tl → Laid B Bk q (q + i) (fun j => Value.int (lo8 (cv A (o + (j - q))))) →
      Steps p.tables e below (s₁.setTop (entryFrame m #[.ref b, .int (Int32.ofNat o), .ref d, .int (Int32.ofNat q), .int (Int32.ofNat len)] 7)) (Tl.setTop (mkF m 3 #[.val (.ref b), .val (.int (Int32.ofNat (o + i))), .val (.ref d), .val (.int (Int32.ofNat (q + i))), .val (.int (Int32.ofNat len)), .val (.int (Int32.ofNat i)), z] [])) → ∃ (T' : State) (B' : Cell) (z' : Slot), Stand p l e { frames := 0, locals := 0, cells := 0, slots := 0 } s m #[.ref b, .int (Int32.ofNat o), .ref d, .int (Int32.ofNat q), .int (Int32.ofNat len)] below meth c T' ([] ++ copyLocs d q len) 0 0 ∧ Put d B' s₁ T' ∧ Laid B B' q (q + len) (fun j => Value.int (lo8 (cv A (o + (j - q))))) ∧
      Steps p.tables e below (s₁.setTop (entryFrame m #[.ref b, .int (Int32.ofNat o), .ref d, .int (Int32.ofNat q), .int (Int32.ofNat len)] 7)) (T'.setTop (mkF m 3 #[.val (.ref b), .val (.int (Int32.ofNat (o + len))), .val (.ref d), .val (.int (Int32.ofNat (q + len))), .val (.int (Int32.ofNat len)), .val (.int (Int32.ofNat len)), z'] [])) := by
    intro r
    induction r with
    | zero =>
      intro i hi z hz Tl Bk Xl pl fl cl
      have hil : i = len := by omega
      rw [hil] at Xl fl cl
      exact ⟨Tl, Bk, z, Xl, pl, fl, cl⟩
    | succ r ih =>
      intro i hi z hz Tl Bk Xl pl fl cl
      have all := X0.warmed.alike.symm.trans Xl.warmed.alike
      have hAl := hA0.keep all (pl.other hne hA0.1)
      have hBk := hB0.like all pl.1 fl.1 fl.2.1 fl.2.2.1
      have hlt : q + i < Bk.slots.size := by rw [fl.2.2.1]; omega
      have c3 : Steps p.tables e below (s₁.setTop (entryFrame m #[.ref b, .int (Int32.ofNat o), .ref d, .int (Int32.ofNat q), .int (Int32.ofNat len)] 7)) (Tl.setTop (mkF m 12 #[.val (.ref b), .val (.int (Int32.ofNat (o + i))), .val (.ref d), .val (.int (Int32.ofNat (q + i))), .val (.int (Int32.ofNat len)), .val (.int (Int32.ofNat i)), z] [.int (Int32.ofNat (o + i)), .ref b])) := cl.trans (by
        refine XS.iload Xl.here hexec rfl (hb hbytes d3) rfl ?_
        refine XS.iload Xl.here hexec rfl (hb hbytes d5) rfl ?_
        refine XS.icmpNo Xl.here hexec rfl (hb hbytes d7) rfl (ii_ge_f (lt32 (by omega) (by omega))) ?_
        refine XS.aloadN Xl.here hexec rfl (hb hbytes d10) rfl rfl ?_
        refine XS.iloadN Xl.here hexec rfl (hb hbytes d11) rfl ?_
        exact Steps.refl _)
      have c4 : Steps p.tables e below (s₁.setTop (entryFrame m #[.ref b, .int (Int32.ofNat o), .ref d, .int (Int32.ofNat q), .int (Int32.ofNat len)] 7)) (Tl.setTop (mkF m 13 #[.val (.ref b), .val (.int (Int32.ofNat (o + i))), .val (.ref d), .val (.int (Int32.ofNat (q + i))), .val (.int (Int32.ofNat len)), .val (.int (Int32.ofNat i)), z] [.int (cv A (o + i))])) := c3.trans (by
        refine Xl.aget hexec hAl rfl (hA.get (i := o + i) (by omega)) rfl rfl (hb hbytes d12) ?_
        exact Steps.refl _)
      have c5 : Steps p.tables e below (s₁.setTop (entryFrame m #[.ref b, .int (Int32.ofNat o), .ref d, .int (Int32.ofNat q), .int (Int32.ofNat len)] 7)) (Tl.setTop (mkF m 15 #[.val (.ref b), .val (.int (Int32.ofNat (o + i))), .val (.ref d), .val (.int (Int32.ofNat (q + i))), .val (.int (Int32.ofNat len)), .val (.int (Int32.ofNat i)), .val (.int (cv A (o + i)))] [])) := c4.trans (by
        refine XS.istoreS Xl.here hexec rfl (hb hbytes d13) rfl rfl hz ?_
        exact Steps.refl _)
      have c6 : Steps p.tables e below (s₁.setTop (entryFrame m #[.ref b, .int (Int32.ofNat o), .ref d, .int (Int32.ofNat q), .int (Int32.ofNat len)] 7)) (Tl.setTop (mkF m 31 #[.val (.ref b), .val (.int (Int32.ofNat (o + i))), .val (.ref d), .val (.int (Int32.ofNat (q + i))), .val (.int (Int32.ofNat len)), .val (.int (Int32.ofNat i)), .val (.int (cv A (o + i)))] [.int (lo8 (cv A (o + i))), .int (Int32.ofNat (q + i)), .ref d])) := c5.trans (by
        refine XS.iload Xl.here hexec rfl (hb hbytes d15) rfl ?_
        refine sipushV Xl.here hexec rfl 255 (hb hbytes d17) (by decide) ?_
        refine XS.icmpYes Xl.here hexec rfl (pc0 := 20) rfl (hb hbytes d20) rfl (ii_le_t (hp i (by omega))) (by decide) rfl ?_
        refine XS.aloadN Xl.here hexec rfl (hb hbytes d26) rfl rfl ?_
        refine XS.iloadN Xl.here hexec rfl (hb hbytes d27) rfl ?_
        refine XS.iload Xl.here hexec rfl (hb hbytes d28) rfl ?_
        refine i2b Xl.here hexec rfl (hb hbytes d30) rfl ?_
        exact Steps.refl _)
      obtain ⟨T7, X7, p7, st7⟩ := Xl.aput hexec hBk rfl hlt rfl (fits_lo8 (cv A (o + i))) (g := (mkF m 31 #[.val (.ref b), .val (.int (Int32.ofNat (o + i))), .val (.ref d), .val (.int (Int32.ofNat (q + i))), .val (.int (Int32.ofNat len)), .val (.int (Int32.ofNat i)), .val (.int (cv A (o + i)))] [.int (lo8 (cv A (o + i))), .int (Int32.ofNat (q + i)), .ref d])) rfl (rest := []) rfl (hb hbytes d31)
      have c8 : Steps p.tables e below (s₁.setTop (entryFrame m #[.ref b, .int (Int32.ofNat o), .ref d, .int (Int32.ofNat q), .int (Int32.ofNat len)] 7)) (T7.setTop (mkF m 32 #[.val (.ref b), .val (.int (Int32.ofNat (o + i))), .val (.ref d), .val (.int (Int32.ofNat (q + i))), .val (.int (Int32.ofNat len)), .val (.int (Int32.ofNat i)), .val (.int (cv A (o + i)))] [])) := c6.trans (st7 _ (Steps.refl _))
      have c9 : Steps p.tables e below (s₁.setTop (entryFrame m #[.ref b, .int (Int32.ofNat o), .ref d, .int (Int32.ofNat q), .int (Int32.ofNat len)] 7)) (T7.setTop (mkF m 3 #[.val (.ref b), .val (.int (Int32.ofNat (o + i) + 1)), .val (.ref d), .val (.int (Int32.ofNat (q + i) + 1)), .val (.int (Int32.ofNat len)), .val (.int (Int32.ofNat i + 1)), .val (.int (cv A (o + i)))] [])) := c8.trans (by
        refine iincV X7.here hexec rfl 1 (hb hbytes d32) (by decide) rfl rfl ?_
        refine iincV X7.here hexec rfl 1 (hb hbytes d35) (by decide) rfl rfl ?_
        refine iincV X7.here hexec rfl 1 (hb hbytes d38) (by decide) rfl rfl ?_
        refine XS.goto X7.here hexec rfl (pc0 := 41) rfl (hb hbytes d41) (by decide) rfl ?_
        exact Steps.refl _)
      have c10 : Steps p.tables e below (s₁.setTop (entryFrame m #[.ref b, .int (Int32.ofNat o), .ref d, .int (Int32.ofNat q), .int (Int32.ofNat len)] 7)) (T7.setTop (mkF m 3 #[.val (.ref b), .val (.int (Int32.ofNat (o + (i + 1)))), .val (.ref d), .val (.int (Int32.ofNat (q + (i + 1)))), .val (.int (Int32.ofNat len)), .val (.int (Int32.ofNat (i + 1))), .val (.int (cv A (o + i)))] [])) := by
        have := c9
        rw [succ32, succ32, succ32] at this
        exact this
      exact ih (i + 1) (by omega) _ (Or.inr ⟨_, rfl, rfl⟩) T7 _ (by rw [copyLocs_step, ← List.append_assoc]; exact X7) (pl.trans p7) (fl.step (by omega) hlt (by simp)) c10
  obtain ⟨T9, B9, z9, X9, p9, f9, g9⟩ := loop len 0 (by omega) .unset (Or.inl rfl) s₁ B (by simpa [copyLocs] using X0) ⟨hB0.1, fun _ _ => rfl, rfl⟩ (Laid.zero _ _ _) c2
  have c11 : Steps p.tables e below (s₁.setTop (entryFrame m #[.ref b, .int (Int32.ofNat o), .ref d, .int (Int32.ofNat q), .int (Int32.ofNat len)] 7)) (T9.setTop (mkF m 46 #[.val (.ref b), .val (.int (Int32.ofNat (o + len))), .val (.ref d), .val (.int (Int32.ofNat (q + len))), .val (.int (Int32.ofNat len)), .val (.int (Int32.ofNat len)), z9] [.int (Int32.ofNat len)])) := g9.trans (by
    refine XS.iload X9.here hexec rfl (hb hbytes d3) rfl ?_
    refine XS.iload X9.here hexec rfl (hb hbytes d5) rfl ?_
    refine XS.icmpYes X9.here hexec rfl (pc0 := 7) rfl (hb hbytes d7) rfl (ii_ge_t (nlt32 (by omega) (Nat.le_refl _))) (by decide) rfl ?_
    refine XS.iload X9.here hexec rfl (hb hbytes d44) rfl ?_
    exact Steps.refl _)
  exact ⟨T9, some (.int (Int32.ofNat len)), _, _, _, X9, by simp, rfl, rfl, (fun h => by cases h), ⟨rfl, B9, p9.from hh0, f9⟩, fun fs hl => c11.trans (X9.ireturnOut hexec hret rfl (Or.inl rfl) (hb hbytes d46) hl)⟩
end Cmp5
namespace Cmp3
def yN : MethodName := ⟨"java/lang/StringUTF16", "compress", "([CII)[B"⟩
abbrev yB : ByteArray := jdk_52_method_16_code
theorem d0 : decode yB 0 = .ok (.iload_n 2, 1) := by decide +kernel
theorem d1 : decode yB 1 = .ok (.newarray .byte, 2) := by decide +kernel
theorem d3 : decode yB 3 = .ok (.astore_n 3, 1) := by decide +kernel
theorem d4 : decode yB 4 = .ok (.aload_n 0, 1) := by decide +kernel
theorem d5 : decode yB 5 = .ok (.iload_n 1, 1) := by decide +kernel
theorem d6 : decode yB 6 = .ok (.aload_n 3, 1) := by decide +kernel
theorem d7 : decode yB 7 = .ok (.iconst 0, 1) := by decide +kernel
theorem d8 : decode yB 8 = .ok (.iload_n 2, 1) := by decide +kernel
theorem d9 : decode yB 9 = .ok (.invokestatic 115, 3) := by decide +kernel
theorem d12 : decode yB 12 = .ok (.istore 4, 2) := by decide +kernel
theorem d14 : decode yB 14 = .ok (.iload 4, 2) := by decide +kernel
theorem d16 : decode yB 16 = .ok (.iload_n 2, 1) := by decide +kernel
theorem d17 : decode yB 17 = .ok (.if_icmp (.eq) 40, 3) := by decide +kernel
theorem d57 : decode yB 57 = .ok (.aload_n 3, 1) := by decide +kernel
theorem d58 : decode yB 58 = .ok (.areturn, 1) := by decide +kernel
def site : List Cond := [.arrayClass .byte, Cmp5.tab] ++ staticW U16 115 Cmp5.yN
def tab : Cond := tabOf yN yB 6 (some (.array .byte)) site
def P (b : Addr) (A : Cell) (o len : Nat) (args : Array Value) (s : State) : Prop := args = #[.ref b, .int (Int32.ofNat o), .int (Int32.ofNat len)] ∧ Ch b A s ∧ o + len ≤ A.slots.size ∧ len ≤ 536870912 ∧ ∀ i, i < len → ¬ 255 < cv A (o + i)
def E (b : Addr) (A : Cell) (o len : Nat) (r : Option Value) (s u : State) : Prop := NewArr .byte "[B" len (fun j => .int (lo8 (cv A (o + j)))) r s u ∧ u.heap.size = s.heap.size + 1
/-- no char of the range above 255: a new byte[] of their low bytes -/
theorem law (l : Launch) (b : Addr) (A : Cell) (o len : Nat) : Law l yN 3 3 1 18 yB 6 (some (.array .byte)) site (P b A o len) (E b A o len) [] 1 len := by
  refine Law.of_walk (plainFor_of_name (by decide +kernel)) (by decide +kernel) (by decide +kernel) (by decide) (fun _ _ h => by rw [h.1]; rfl) (fun _ U U' hal hh h => ⟨h.1, h.2.1.mv hal hh, h.2.2⟩) (fun r U U' V V' h1 hal h2 h => ⟨NewArr.mv r U U' V V' h1 hal h2 h.1, by rw [h1, h2]; exact h.2⟩) ?_
  intro p e s m args below meth c s₁ X0 hexec hbytes hml hret hlk hnm hown hh0 W hP
  obtain ⟨rfl, hA, l1, l2, hp⟩ := hP
  have a31 := hA.1.2.2.2
  have c1 : Steps p.tables e below (s₁.setTop (entryFrame m #[.ref b, .int (Int32.ofNat o), .int (Int32.ofNat len)] 6)) (s₁.setTop (mkF m 0 #[.val (.ref b), .val (.int (Int32.ofNat o)), .val (.int (Int32.ofNat len)), .unset, .unset, .unset] [])) := entry rfl
  have c2 : Steps p.tables e below (s₁.setTop (entryFrame m #[.ref b, .int (Int32.ofNat o), .int (Int32.ofNat len)] 6)) (s₁.setTop (mkF m 1 #[.val (.ref b), .val (.int (Int32.ofNat o)), .val (.int (Int32.ofNat len)), .unset, .unset, .unset] [.int (Int32.ofNat len)])) := c1.trans (by
    refine XS.iloadN X0.here hexec rfl (hb hbytes d0) rfl ?_
    exact Steps.refl _)
  obtain ⟨T3, B3, X3, ba3, bs3, bv3, bh3, bf3, st3⟩ := X0.anew hexec (atype := .byte) (wk W (.arrayClass .byte)) rfl (by show len * 1 ≤ _; omega) (by omega) (g := (mkF m 1 #[.val (.ref b), .val (.int (Int32.ofNat o)), .val (.int (Int32.ofNat len)), .unset, .unset, .unset] [.int (Int32.ofNat len)])) rfl (hb hbytes d1) (rest := []) rfl (Nat.le_refl _) (by show 0 + len ≤ len; omega)
  rw [hh0] at ba3 st3
  have kp3 : XT.Kept s T3 := (XT.Kept.of_eq hh0).push bh3
  have hA3 := hA.keep X3.warmed.alike (kp3 _ _ hA.1.1)
  have hne : b ≠ s.heap.size := hA.1.ne
  have c4 : Steps p.tables e below (s₁.setTop (entryFrame m #[.ref b, .int (Int32.ofNat o), .int (Int32.ofNat len)] 6)) (T3.setTop (mkF m 3 #[.val (.ref b), .val (.int (Int32.ofNat o)), .val (.int (Int32.ofNat len)), .unset, .unset, .unset] [.ref s.heap.size])) := c2.trans (st3 _ (Steps.refl _))
  have c5 : Steps p.tables e below (s₁.setTop (entryFrame m #[.ref b, .int (Int32.ofNat o), .int (Int32.ofNat len)] 6)) (T3.setTop (mkF m 9 #[.val (.ref b), .val (.int (Int32.ofNat o)), .val (.int (Int32.ofNat len)), .val (.ref s.heap.size), .unset, .unset] [.int (Int32.ofNat len), .int 0, .ref s.heap.size, .int (Int32.ofNat o), .ref b])) := c4.trans (by
    refine XS.astoreN X3.here hexec rfl (hb hbytes d3) rfl rfl rfl ?_
    refine XS.aloadN X3.here hexec rfl (hb hbytes d4) rfl rfl ?_
    refine XS.iloadN X3.here hexec rfl (hb hbytes d5) rfl ?_
    refine XS.aloadN X3.here hexec rfl (hb hbytes d6) rfl rfl ?_
    refine iconstV X3.here hexec rfl 0 (hb hbytes d7) (by decide) ?_
    refine XS.iloadN X3.here hexec rfl (hb hbytes d8) rfl ?_
    exact Steps.refl _)
  obtain ⟨v6, T6, X6, E6, g6⟩ := X3.callS hexec (Cmp5.law l b A s.heap.size B3 o 0 len) hown (wks W (staticW U16 115 Cmp5.yN)) (wk W Cmp5.tab) (W := 0) (Nat.le_of_ble_eq_true rfl) (Nat.le_of_ble_eq_true rfl) (Nat.le_refl _) (by show 0 + len + 0 ≤ len; omega) (g := (mkF m 9 #[.val (.ref b), .val (.int (Int32.ofNat o)), .val (.int (Int32.ofNat len)), .val (.ref s.heap.size), .unset, .unset] [.int (Int32.ofNat len), .int (Int32.ofNat 0), .ref s.heap.size, .int (Int32.ofNat o), .ref b])) rfl (by rw [hml]; rfl) c5 (argsL := [.ref b, .int (Int32.ofNat o), .ref s.heap.size, .int (Int32.ofNat 0), .int (Int32.ofNat len)]) (rest := []) rfl rfl (by show 2 * 0 + 0 ≤ _; decide) (hb hbytes d9) (⟨rfl, hA3, ba3, hne, l1, by rw [bs3]; simp, hp⟩)
  obtain ⟨rfl, B6, p6, f6⟩ := E6
  have c7 : Steps p.tables e below (s₁.setTop (entryFrame m #[.ref b, .int (Int32.ofNat o), .int (Int32.ofNat len)] 6)) (T6.setTop (mkF m 12 #[.val (.ref b), .val (.int (Int32.ofNat o)), .val (.int (Int32.ofNat len)), .val (.ref s.heap.size), .unset, .unset] [.int (Int32.ofNat len)])) := g6
  have c8 : Steps p.tables e below (s₁.setTop (entryFrame m #[.ref b, .int (Int32.ofNat o), .int (Int32.ofNat len)] 6)) (T6.setTop (mkF m 58 #[.val (.ref b), .val (.int (Int32.ofNat o)), .val (.int (Int32.ofNat len)), .val (.ref s.heap.size), .val (.int (Int32.ofNat len)), .unset] [.ref s.heap.size])) := c7.trans (by
    refine XS.istore X6.here hexec rfl (hb hbytes d12) rfl rfl ?_
    refine XS.iload X6.here hexec rfl (hb hbytes d14) rfl ?_
    refine XS.iloadN X6.here hexec rfl (hb hbytes d16) rfl ?_
    refine XS.icmpYes X6.here hexec rfl (pc0 := 17) rfl (hb hbytes d17) rfl (ii_eq_t rfl) (by decide) rfl ?_
    refine XS.aloadN X6.here hexec rfl (hb hbytes d57) rfl rfl ?_
    exact Steps.refl _)
  have X8 := X6.wide (L' := []) (cells' := 1) (slots' := len) (fun x hx hlt => by
    simp only [List.nil_append, copyLocs, List.mem_map, List.mem_range] at hx
    obtain ⟨i, -, rfl⟩ := hx
    exact absurd hlt (Nat.lt_irrefl _)) (Nat.le_refl _) (by omega)
  exact ⟨T6, some (.ref s.heap.size), _, _, _, X8, rfl, rfl, rfl, (fun h => by cases h), ⟨⟨rfl, B6, ba3.like (X3.warmed.alike.symm.trans X6.warmed.alike) p6.1 f6.1 f6.2.1 f6.2.2.1, f6.2.1.trans bv3, by rw [X6.warmed.alike.findClass, f6.1]; exact bf3, by rw [f6.2.2.1, bs3]; simp, fun j hj => by rw [f6.2.2.2 j, if_pos (by omega)]; rfl, kp3.put p6 (Nat.le_refl _)⟩, by rw [p6.2.2, bh3, hh0]; simp⟩, fun fs hl => c8.trans (X8.areturnOut hexec rfl hret rfl (hb hbytes d58) hl)⟩
end Cmp3
namespace CodL
def yN : MethodName := ⟨"java/lang/StringUTF16", "coderFromArrayLen", "([BI)B"⟩
abbrev yB : ByteArray := jdk_52_method_15_code
theorem d0 : decode yB 0 = .ok (.iload_n 1, 1) := by decide +kernel
theorem d1 : decode yB 1 = .ok (.aload_n 0, 1) := by decide +kernel
theorem d2 : decode yB 2 = .ok (.arraylength, 1) := by decide +kernel
theorem d3 : decode yB 3 = .ok (.isub, 1) := by decide +kernel
theorem d4 : decode yB 4 = .ok (.bipush 31, 2) := by decide +kernel
theorem d6 : decode yB 6 = .ok (.iushr, 1) := by decide +kernel
theorem d7 : decode yB 7 = .ok (.i2b, 1) := by decide +kernel
theorem d8 : decode yB 8 = .ok (.ireturn, 1) := by decide +kernel
def site : List Cond := []
def tab : Cond := tabOf yN yB 2 (some .byte) site
def P (d : Addr) (B : Cell) (args : Array Value) (s : State) : Prop := args = #[.ref d, .int (Int32.ofNat B.slots.size)] ∧ Arr .byte d B s
def E (r : Option Value) (s u : State) : Prop := XT.PureE (some (.int 0)) r s u
/-- an array as long as the number of chars: LATIN1 -/
theorem law (l : Launch) (d : Addr) (B : Cell) : Law l yN 2 2 0 0 yB 2 (some .byte) site (P d B) E [] 0 0 := by
  refine Law.of_walk (plainFor_of_name (by decide +kernel)) (by decide +kernel) (by decide +kernel) (by decide) (fun _ _ h => by rw [h.1]; rfl) (fun _ U U' hal hh h => ⟨h.1, h.2.mv hal hh⟩) (fun r U U' V V' h1 hal h2 h => XT.PureE.mv r U U' V V' h1 hal h2 h) ?_
  intro p e s m args below meth c s₁ X0 hexec hbytes hml hret hlk hnm hown hh0 W hP
  obtain ⟨rfl, hB⟩ := hP
  have hB0 := hB.mv X0.warmed.alike hh0
  have c1 : Steps p.tables e below (s₁.setTop (entryFrame m #[.ref d, .int (Int32.ofNat B.slots.size)] 2)) (s₁.setTop (mkF m 0 #[.val (.ref d), .val (.int (Int32.ofNat B.slots.size))] [])) := entry rfl
  have c2 : Steps p.tables e below (s₁.setTop (entryFrame m #[.ref d, .int (Int32.ofNat B.slots.size)] 2)) (s₁.setTop (mkF m 2 #[.val (.ref d), .val (.int (Int32.ofNat B.slots.size))] [.ref d, .int (Int32.ofNat B.slots.size)])) := c1.trans (by
    refine XS.iloadN X0.here hexec rfl (hb hbytes d0) rfl ?_
    refine XS.aloadN X0.here hexec rfl (hb hbytes d1) rfl rfl ?_
    exact Steps.refl _)
  have c3 : Steps p.tables e below (s₁.setTop (entryFrame m #[.ref d, .int (Int32.ofNat B.slots.size)] 2)) (s₁.setTop (mkF m 8 #[.val (.ref d), .val (.int (Int32.ofNat B.slots.size))] [.int (lo8 (ushr (Int32.ofNat B.slots.size - Int32.ofNat B.slots.size) 31))])) := c2.trans (by
    refine X0.alen hexec hB0 rfl rfl (hb hbytes d2) ?_
    refine XS.isub X0.here hexec rfl (hb hbytes d3) rfl ?_
    refine bipushV X0.here hexec rfl 31 (hb hbytes d4) (by decide) ?_
    refine iushr X0.here hexec rfl (hb hbytes d6) rfl ?_
    refine i2b X0.here hexec rfl (hb hbytes d7) rfl ?_
    exact Steps.refl _)
  have e0 : lo8 (ushr (Int32.ofNat B.slots.size - Int32.ofNat B.slots.size) 31) = 0 := by rw [Int32.sub_self]; decide
  rw [e0] at c3
  exact ⟨s₁, some (.int 0), _, _, _, X0, rfl, rfl, rfl, (fun h => by cases h), ⟨rfl, hh0⟩, fun fs hl => c3.trans (X0.ireturnOut hexec hret rfl (Or.inr (Or.inr (Or.inl rfl))) (hb hbytes d8) hl)⟩
end CodL
/-- the String at a is Latin-1 over a new byte[] (the heap's one new cell): the low bytes of the len chars of A from o on; every cell but a is kept -/
def Got (a : Addr) (D : Cell) (fV fC : Field) (A : Cell) (o len : Nat) (r : Option Value) (s u : State) : Prop := r = none ∧ ∃ D' V : Cell, Blank "java/lang/String" a D' u ∧ Same D D' [fV.slot, fC.slot] ∧ D'.slots[fV.slot]? = some (.ref s.heap.size) ∧ D'.slots[fC.slot]? = some (.int 0) ∧ Arr .byte s.heap.size V u ∧ V.vm = .none ∧ u.vm.findClass "[B" = some V.cls ∧ V.slots.size = len ∧ (∀ j, j < len → V.slots[j]? = some (.int (lo8 (cv A (o + j))))) ∧ (∀ (y : Addr) (c : Cell), y ≠ a → s.heap[y]? = some c → u.heap[y]? = some c) ∧ u.heap.size = s.heap.size + 1
theorem Got.mv {a : Addr} {D A : Cell} {fV fC : Field} {o len : Nat} : ∀ r (U U' V V' : State), U'.heap = U.heap → V.vm.Alike V'.vm → V'.heap = V.heap → Got a D fV fC A o len r U V → Got a D fV fC A o len r U' V' :=
  fun r U U' V V' h1 hal h2 ⟨e0, D', X, a1, a2, a3, a4, a5, a6, a7, a8, a9, a10, a11⟩ => ⟨e0, D', X, a1.mv hal h2, a2, by rw [h1]; exact a3, a4, by rw [h1]; exact a5.mv hal h2, a6, by rw [hal.findClass]; exact a7, a8, a9, by rw [h1, h2]; exact a10, by rw [h1, h2]; exact a11⟩
namespace New4
def yN : MethodName := ⟨"java/lang/String", "<init>", "([CIILjava/lang/Void;)V"⟩
abbrev yB : ByteArray := jdk_42_method_149_code
theorem d0 : decode yB 0 = .ok (.aload_n 0, 1) := by decide +kernel
theorem d1 : decode yB 1 = .ok (.invokespecial 1, 3) := by decide +kernel
theorem d4 : decode yB 4 = .ok (.iload_n 3, 1) := by decide +kernel
theorem d5 : decode yB 5 = .ok (.ifCond (.ne) 22, 3) := by decide +kernel
theorem d27 : decode yB 27 = .ok (.getstatic 38, 3) := by decide +kernel
theorem d30 : decode yB 30 = .ok (.ifCond (.eq) 28, 3) := by decide +kernel
theorem d33 : decode yB 33 = .ok (.aload_n 1, 1) := by decide +kernel
theorem d34 : decode yB 34 = .ok (.iload_n 2, 1) := by decide +kernel
theorem d35 : decode yB 35 = .ok (.iload_n 3, 1) := by decide +kernel
theorem d36 : decode yB 36 = .ok (.invokestatic 177, 3) := by decide +kernel
theorem d39 : decode yB 39 = .ok (.astore 5, 2) := by decide +kernel
theorem d41 : decode yB 41 = .ok (.aload_n 0, 1) := by decide +kernel
theorem d42 : decode yB 42 = .ok (.aload 5, 2) := by decide +kernel
theorem d44 : decode yB 44 = .ok (.iload_n 3, 1) := by decide +kernel
theorem d45 : decode yB 45 = .ok (.invokestatic 47, 3) := by decide +kernel
theorem d48 : decode yB 48 = .ok (.putfield 15, 3) := by decide +kernel
theorem d51 : decode yB 51 = .ok (.aload_n 0, 1) := by decide +kernel
theorem d52 : decode yB 52 = .ok (.aload 5, 2) := by decide +kernel
theorem d54 : decode yB 54 = .ok (.putfield 9, 3) := by decide +kernel
theorem d57 : decode yB 57 = .ok (.return_, 1) := by decide +kernel
def site : List Cond := [.fieldLink "java/lang/String" 38 "java/lang/String" "COMPACT_STRINGS" "Z", Cmp3.tab, CodL.tab, .laysFinal "java/lang/String" "java/lang/String" "value" "[B", .fieldLink "java/lang/String" 9 "java/lang/String" "value" "[B", .laysFinal "java/lang/String" "java/lang/String" "coder" "B", .fieldLink "java/lang/String" 15 "java/lang/String" "coder" "B"] ++ objW "java/lang/String" 1 ++ staticW "java/lang/String" 177 Cmp3.yN ++ staticW "java/lang/String" 47 CodL.yN
def tab : Cond := tabOf yN yB 6 none site
def P (a : Addr) (D : Cell) (fV fC : Field) (b : Addr) (A : Cell) (z : Int32) (o len : Nat) (args : Array Value) (s : State) : Prop := args = #[.ref a, .ref b, .int (Int32.ofNat o), .int (Int32.ofNat len), .null] ∧ Blank "java/lang/String" a D s ∧ Found "java/lang/String" "value" "[B" fV s ∧ Found "java/lang/String" "coder" "B" fC s ∧ Ch b A s ∧ StaticIs s "java/lang/String" "COMPACT_STRINGS" "Z" (.int z) ∧ ¬ z = 0 ∧ 0 < len ∧ o + len ≤ A.slots.size ∧ len ≤ 536870912 ∧ ∀ i, i < len → ¬ 255 < cv A (o + i)
def E (a : Addr) (D : Cell) (fV fC : Field) (A : Cell) (o len : Nat) (r : Option Value) (s u : State) : Prop := Got a D fV fC A o len r s u
/-- len > 0, no char of the range above 255: a Latin-1 String of their low bytes -/
theorem law (l : Launch) (a : Addr) (D : Cell) (fV fC : Field) (b : Addr) (A : Cell) (z : Int32) (o len : Nat) : Law l yN 5 4 2 35 yB 6 none site (P a D fV fC b A z o len) (E a D fV fC A o len) [⟨a, fC.slot⟩, ⟨a, fV.slot⟩] 1 len := by
  refine Law.of_walk (plainFor_of_name (by decide +kernel)) (by decide +kernel) (by decide +kernel) (by decide) (fun _ _ h => by rw [h.1]; rfl) (fun _ U U' hal hh h => ⟨h.1, h.2.1.mv hal hh, h.2.2.1.al hal, h.2.2.2.1.al hal, h.2.2.2.2.1.mv hal hh, h.2.2.2.2.2.1.there hal hh, h.2.2.2.2.2.2⟩) (fun r U U' V V' h1 hal h2 h => Got.mv r U U' V V' h1 hal h2 h) ?_
  intro p e s m args below meth c s₁ X0 hexec hbytes hml hret hlk hnm hown hh0 W hP
  obtain ⟨rfl, hB, f1, f2, hA, s1, hz, l0, l1, l2, hp⟩ := hP
  have a31 := hA.1.2.2.2
  have c1 : Steps p.tables e below (s₁.setTop (entryFrame m #[.ref a, .ref b, .int (Int32.ofNat o), .int (Int32.ofNat len), .null] 6)) (s₁.setTop (mkF m 0 #[.val (.ref a), .val (.ref b), .val (.int (Int32.ofNat o)), .val (.int (Int32.ofNat len)), .val .null, .unset] [])) := entry rfl
  have c2 : Steps p.tables e below (s₁.setTop (entryFrame m #[.ref a, .ref b, .int (Int32.ofNat o), .int (Int32.ofNat len), .null] 6)) (s₁.setTop (mkF m 1 #[.val (.ref a), .val (.ref b), .val (.int (Int32.ofNat o)), .val (.int (Int32.ofNat len)), .val .null, .unset] [.ref a])) := c1.trans (by
    refine XS.aloadN X0.here hexec rfl (hb hbytes d0) rfl rfl ?_
    exact Steps.refl _)
  obtain ⟨T3, X3, q3, st3⟩ := X0.oinit hexec hown (wks W (objW "java/lang/String" 1)) (g := (mkF m 1 #[.val (.ref a), .val (.ref b), .val (.int (Int32.ofNat o)), .val (.int (Int32.ofNat len)), .val .null, .unset] [.ref a])) rfl (by rw [hml]; rfl) (rest := []) rfl (hb hbytes d1) (W := 0) (by show 2 * 0 + 0 ≤ _; decide) (Nat.le_of_ble_eq_true rfl) (Nat.le_of_ble_eq_true rfl)
  have hh3 := q3.trans hh0
  have c4 : Steps p.tables e below (s₁.setTop (entryFrame m #[.ref a, .ref b, .int (Int32.ofNat o), .int (Int32.ofNat len), .null] 6)) (T3.setTop (mkF m 27 #[.val (.ref a), .val (.ref b), .val (.int (Int32.ofNat o)), .val (.int (Int32.ofNat len)), .val .null, .unset] [])) := (c2.trans (st3 _ (Steps.refl _))).trans (by
    refine XS.iloadN X3.here hexec rfl (hb hbytes d4) rfl ?_
    refine XS.ifYes X3.here hexec rfl (pc0 := 5) rfl (hb hbytes d5) rfl (i0_ne_t (nz32 (by omega) l0)) (by decide) rfl ?_
    exact Steps.refl _)
  obtain ⟨T5, X5, q5, st5⟩ := X3.sget hexec hown (wk W (.fieldLink "java/lang/String" 38 "java/lang/String" "COMPACT_STRINGS" "Z")) s1 (fun _ _ h => by rw [hh3]; exact h) (g := (mkF m 27 #[.val (.ref a), .val (.ref b), .val (.int (Int32.ofNat o)), .val (.int (Int32.ofNat len)), .val .null, .unset] [])) rfl (hb hbytes d27)
  have hh5 := q5.trans hh3
  have c6 : Steps p.tables e below (s₁.setTop (entryFrame m #[.ref a, .ref b, .int (Int32.ofNat o), .int (Int32.ofNat len), .null] 6)) (T5.setTop (mkF m 30 #[.val (.ref a), .val (.ref b), .val (.int (Int32.ofNat o)), .val (.int (Int32.ofNat len)), .val .null, .unset] [.int z])) := c4.trans (st5 _ (Steps.refl _))
  have c7 : Steps p.tables e below (s₁.setTop (entryFrame m #[.ref a, .ref b, .int (Int32.ofNat o), .int (Int32.ofNat len), .null] 6)) (T5.setTop (mkF m 36 #[.val (.ref a), .val (.ref b), .val (.int (Int32.ofNat o)), .val (.int (Int32.ofNat len)), .val .null, .unset] [.int (Int32.ofNat len), .int (Int32.ofNat o), .ref b])) := c6.trans (by
    refine XS.ifNo X5.here hexec rfl (hb hbytes d30) rfl (i0_eq_f hz) ?_
    refine XS.aloadN X5.here hexec rfl (hb hbytes d33) rfl rfl ?_
    refine XS.iloadN X5.here hexec rfl (hb hbytes d34) rfl ?_
    refine XS.iloadN X5.here hexec rfl (hb hbytes d35) rfl ?_
    exact Steps.refl _)
  obtain ⟨v8, T8, X8, E8, g8⟩ := X5.callS hexec (Cmp3.law l b A o len) hown (wks W (staticW "java/lang/String" 177 Cmp3.yN)) (wk W Cmp3.tab) (W := 0) (Nat.le_of_ble_eq_true rfl) (Nat.le_of_ble_eq_true rfl) (Nat.le_refl _) (by show 0 + len ≤ len; omega) (g := (mkF m 36 #[.val (.ref a), .val (.ref b), .val (.int (Int32.ofNat o)), .val (.int (Int32.ofNat len)), .val .null, .unset] [.int (Int32.ofNat len), .int (Int32.ofNat o), .ref b])) rfl (by rw [hml]; rfl) c7 (argsL := [.ref b, .int (Int32.ofNat o), .int (Int32.ofNat len)]) (rest := []) rfl rfl (by show 2 * 0 + 0 ≤ _; decide) (hb hbytes d36) (⟨rfl, hA.mv X5.warmed.alike hh5, l1, l2, hp⟩)
  obtain ⟨e8, z8⟩ := E8
  obtain ⟨rfl, N, n1, n2, n3, n4, n5, n6⟩ := NewArr.mv _ T5 s _ _ hh5.symm (Vm.Alike.refl _) rfl e8
  rw [hh5] at z8
  have hB1 := hB.keep X8.warmed.alike (n6 _ _ hB.1)
  have hne : s.heap.size ≠ a := (Nat.ne_of_lt (Array.getElem?_eq_some_iff.mp hB.1).1).symm
  have c9 : Steps p.tables e below (s₁.setTop (entryFrame m #[.ref a, .ref b, .int (Int32.ofNat o), .int (Int32.ofNat len), .null] 6)) (T8.setTop (mkF m 39 #[.val (.ref a), .val (.ref b), .val (.int (Int32.ofNat o)), .val (.int (Int32.ofNat len)), .val .null, .unset] [.ref s.heap.size])) := g8
  have c10 : Steps p.tables e below (s₁.setTop (entryFrame m #[.ref a, .ref b, .int (Int32.ofNat o), .int (Int32.ofNat len), .null] 6)) (T8.setTop (mkF m 45 #[.val (.ref a), .val (.ref b), .val (.int (Int32.ofNat o)), .val (.int (Int32.ofNat len)), .val .null, .val (.ref s.heap.size)] [.int (Int32.ofNat N.slots.size), .ref s.heap.size, .ref a])) := by
    have hc : Steps p.tables e below (s₁.setTop (entryFrame m #[.ref a, .ref b, .int (Int32.ofNat o), .int (Int32.ofNat len), .null] 6)) (T8.setTop (mkF m 45 #[.val (.ref a), .val (.ref b), .val (.int (Int32.ofNat o)), .val (.int (Int32.ofNat len)), .val .null, .val (.ref s.heap.size)] [.int (Int32.ofNat len), .ref s.heap.size, .ref a])) := c9.trans (by
      refine XS.astore X8.here hexec rfl (hb hbytes d39) rfl rfl rfl ?_
      refine XS.aloadN X8.here hexec rfl (hb hbytes d41) rfl rfl ?_
      refine XS.aload X8.here hexec rfl (hb hbytes d42) rfl rfl ?_
      refine XS.iloadN X8.here hexec rfl (hb hbytes d44) rfl ?_
      exact Steps.refl _)
    rw [n4]; exact hc
  obtain ⟨v11, T11, X11, E11, g11⟩ := X8.callS hexec (CodL.law l s.heap.size N) hown (wks W (staticW "java/lang/String" 47 CodL.yN)) (wk W CodL.tab) (W := 1) (Nat.le_of_ble_eq_true rfl) (Nat.le_of_ble_eq_true rfl) (Nat.le_refl _) (by show 0 + len + 0 ≤ len; omega) (g := (mkF m 45 #[.val (.ref a), .val (.ref b), .val (.int (Int32.ofNat o)), .val (.int (Int32.ofNat len)), .val .null, .val (.ref s.heap.size)] [.int (Int32.ofNat N.slots.size), .ref s.heap.size, .ref a])) rfl (by rw [hml]; rfl) c10 (argsL := [.ref s.heap.size, .int (Int32.ofNat N.slots.size)]) (rest := [.ref a]) rfl rfl (by show 2 * 0 + (1 + 0) ≤ _; decide) (hb hbytes d45) (⟨rfl, n1⟩)
  obtain ⟨rfl, q11⟩ := E11
  have hB11 := hB1.mv (X8.warmed.alike.symm.trans X11.warmed.alike) q11
  have c12 : Steps p.tables e below (s₁.setTop (entryFrame m #[.ref a, .ref b, .int (Int32.ofNat o), .int (Int32.ofNat len), .null] 6)) (T11.setTop (mkF m 48 #[.val (.ref a), .val (.ref b), .val (.int (Int32.ofNat o)), .val (.int (Int32.ofNat len)), .val .null, .val (.ref s.heap.size)] [.int 0, .ref a])) := g11
  obtain ⟨T13, X13, p13, bl13, sl13, st13⟩ := X11.finit hexec hown (wk W (.fieldLink "java/lang/String" 15 "java/lang/String" "coder" "B")) (Or.inr ⟨_, (wk W (.laysFinal "java/lang/String" "java/lang/String" "coder" "B"))⟩) (Or.inl ⟨rfl, hnm⟩) f2 (Or.inl rfl) hB11 (t := .byte) (by decide +kernel) rfl (g := (mkF m 48 #[.val (.ref a), .val (.ref b), .val (.int (Int32.ofNat o)), .val (.int (Int32.ofNat len)), .val .null, .val (.ref s.heap.size)] [.int 0, .ref a])) rfl (rest := []) rfl (hb hbytes d48)
  have c14 : Steps p.tables e below (s₁.setTop (entryFrame m #[.ref a, .ref b, .int (Int32.ofNat o), .int (Int32.ofNat len), .null] 6)) (T13.setTop (mkF m 54 #[.val (.ref a), .val (.ref b), .val (.int (Int32.ofNat o)), .val (.int (Int32.ofNat len)), .val .null, .val (.ref s.heap.size)] [.ref s.heap.size, .ref a])) := (c12.trans (st13 _ (Steps.refl _))).trans (by
    refine XS.aloadN X13.here hexec rfl (hb hbytes d51) rfl rfl ?_
    refine XS.aload X13.here hexec rfl (hb hbytes d52) rfl rfl ?_
    exact Steps.refl _)
  obtain ⟨T15, X15, p15, bl15, sl15, st15⟩ := X13.finit hexec hown (wk W (.fieldLink "java/lang/String" 9 "java/lang/String" "value" "[B")) (Or.inr ⟨_, (wk W (.laysFinal "java/lang/String" "java/lang/String" "value" "[B"))⟩) (Or.inl ⟨rfl, hnm⟩) f1 (Or.inl rfl) bl13 (t := (.array .byte)) (by decide +kernel) rfl (g := (mkF m 54 #[.val (.ref a), .val (.ref b), .val (.int (Int32.ofNat o)), .val (.int (Int32.ofNat len)), .val .null, .val (.ref s.heap.size)] [.ref s.heap.size, .ref a])) rfl (rest := []) rfl (hb hbytes d54)
  have c16 : Steps p.tables e below (s₁.setTop (entryFrame m #[.ref a, .ref b, .int (Int32.ofNat o), .int (Int32.ofNat len), .null] 6)) (T15.setTop (mkF m 57 #[.val (.ref a), .val (.ref b), .val (.int (Int32.ofNat o)), .val (.int (Int32.ofNat len)), .val .null, .val (.ref s.heap.size)] [])) := c14.trans (st15 _ (Steps.refl _))
  have ap := apart (Or.inr ⟨_, (wk W (.laysFinal "java/lang/String" "java/lang/String" "value" "[B"))⟩) (Or.inr ⟨_, (wk W (.laysFinal "java/lang/String" "java/lang/String" "coder" "B"))⟩) f1 f2 (t₁ := .array .byte) (t₂ := .byte) (by decide +kernel) (by decide +kernel) (by decide)
  have al := X8.warmed.alike.symm.trans X15.warmed.alike
  have n7 : T11.heap[s.heap.size]? = some N := by rw [q11]; exact n1.1
  exact ⟨T15, none, _, _, _, X15, by simp, rfl, by omega, (fun _ => rfl), ⟨rfl, _, N, bl15, ((Same.refl D _).set _ (by simp)).set _ (by simp), sl15, (Cell.slots_setSlot_ne _ ap).trans sl13, n1.keep al (p15.other hne (p13.other hne n7)), n2, by rw [al.findClass]; exact n3, n4, n5, fun y c h1 h2 => p15.other h1 (p13.other h1 (by rw [q11]; exact n6 y c h2)), by rw [p15.2.2, p13.2.2, q11]; exact z8⟩, fun fs hl => c16.trans (X15.returnOut hexec hret (hb hbytes d57) hl)⟩
end New4
namespace New1
def yN : MethodName := ⟨"java/lang/String", "<init>", "([C)V"⟩
abbrev yB : ByteArray := jdk_42_method_3_code
theorem d0 : decode yB 0 = .ok (.aload_n 0, 1) := by decide +kernel
theorem d1 : decode yB 1 = .ok (.aload_n 1, 1) := by decide +kernel
theorem d2 : decode yB 2 = .ok (.iconst 0, 1) := by decide +kernel
theorem d3 : decode yB 3 = .ok (.aload_n 1, 1) := by decide +kernel
theorem d4 : decode yB 4 = .ok (.arraylength, 1) := by decide +kernel
theorem d5 : decode yB 5 = .ok (.aconst_null, 1) := by decide +kernel
theorem d6 : decode yB 6 = .ok (.invokespecial 27, 3) := by decide +kernel
theorem d9 : decode yB 9 = .ok (.return_, 1) := by decide +kernel
def site : List Cond := [New4.tab] ++ initW "java/lang/String" 27 New4.yN
def tab : Cond := tabOf yN yB 2 none site
def P (a : Addr) (D : Cell) (fV fC : Field) (b : Addr) (A : Cell) (z : Int32) (args : Array Value) (s : State) : Prop := args = #[.ref a, .ref b] ∧ Blank "java/lang/String" a D s ∧ Found "java/lang/String" "value" "[B" fV s ∧ Found "java/lang/String" "coder" "B" fC s ∧ Ch b A s ∧ StaticIs s "java/lang/String" "COMPACT_STRINGS" "Z" (.int z) ∧ ¬ z = 0 ∧ 0 < A.slots.size ∧ A.slots.size ≤ 536870912 ∧ ∀ i, i < A.slots.size → ¬ 255 < cv A i
def E (a : Addr) (D : Cell) (fV fC : Field) (A : Cell) (r : Option Value) (s u : State) : Prop := Got a D fV fC A 0 A.slots.size r s u
/-- new String(chars), not empty, no char above 255: a Latin-1 String of their low bytes -/
theorem law (l : Launch) (a : Addr) (D : Cell) (fV fC : Field) (b : Addr) (A : Cell) (z : Int32) : Law l yN 2 1 3 52 yB 2 none site (P a D fV fC b A z) (E a D fV fC A) [⟨a, fC.slot⟩, ⟨a, fV.slot⟩] 1 A.slots.size := by
  refine Law.of_walk (plainFor_of_name (by decide +kernel)) (by decide +kernel) (by decide +kernel) (by decide) (fun _ _ h => by rw [h.1]; rfl) (fun _ U U' hal hh h => ⟨h.1, h.2.1.mv hal hh, h.2.2.1.al hal, h.2.2.2.1.al hal, h.2.2.2.2.1.mv hal hh, h.2.2.2.2.2.1.there hal hh, h.2.2.2.2.2.2⟩) (fun r U U' V V' h1 hal h2 h => Got.mv r U U' V V' h1 hal h2 h) ?_
  intro p e s m args below meth c s₁ X0 hexec hbytes hml hret hlk hnm hown hh0 W hP
  obtain ⟨rfl, hB, f1, f2, hA, s1, hz, l0, l2, hp⟩ := hP
  have c1 : Steps p.tables e below (s₁.setTop (entryFrame m #[.ref a, .ref b] 2)) (s₁.setTop (mkF m 0 #[.val (.ref a), .val (.ref b)] [])) := entry rfl
  have c2 : Steps p.tables e below (s₁.setTop (entryFrame m #[.ref a, .ref b] 2)) (s₁.setTop (mkF m 6 #[.val (.ref a), .val (.ref b)] [.null, .int (Int32.ofNat A.slots.size), .int 0, .ref b, .ref a])) := c1.trans (by
    refine XS.aloadN X0.here hexec rfl (hb hbytes d0) rfl rfl ?_
    refine XS.aloadN X0.here hexec rfl (hb hbytes d1) rfl rfl ?_
    refine iconstV X0.here hexec rfl 0 (hb hbytes d2) (by decide) ?_
    refine XS.aloadN X0.here hexec rfl (hb hbytes d3) rfl rfl ?_
    refine X0.alen hexec (hA.1.mv X0.warmed.alike hh0) rfl rfl (hb hbytes d4) ?_
    refine XS.aconstNull X0.here hexec rfl (hb hbytes d5) ?_
    exact Steps.refl _)
  obtain ⟨v3, T3, X3, E3, g3⟩ := X0.callN hexec (New4.law l a D fV fC b A z 0 A.slots.size) rfl hown (wks W (initW "java/lang/String" 27 New4.yN)) (W New4.tab (by simp only [site, List.mem_cons, List.mem_append, true_or, or_true])) (W := 0) (Nat.le_of_ble_eq_true rfl) (Nat.le_of_ble_eq_true rfl) (Nat.le_refl _) (by show 0 + A.slots.size ≤ A.slots.size; omega) (g := (mkF m 6 #[.val (.ref a), .val (.ref b)] [.null, .int (Int32.ofNat A.slots.size), .int (Int32.ofNat 0), .ref b, .ref a])) rfl (by rw [hml]; rfl) c2 (argsL := [.ref b, .int (Int32.ofNat 0), .int (Int32.ofNat A.slots.size), .null]) (rest := []) rfl rfl (by show 2 * 0 + 0 ≤ _; decide) (hb hbytes d6) (⟨rfl, hB.mv X0.warmed.alike hh0, f1.al X0.warmed.alike, f2.al X0.warmed.alike, hA.mv X0.warmed.alike hh0, s1.there X0.warmed.alike hh0, hz, l0, by omega, l2, fun i hi => by rw [Nat.zero_add]; exact hp i hi⟩)
  have e0 := Got.mv _ s₁ s _ _ hh0.symm (Vm.Alike.refl _) rfl E3
  obtain rfl := e0.1
  have c4 : Steps p.tables e below (s₁.setTop (entryFrame m #[.ref a, .ref b] 2)) (T3.setTop (mkF m 9 #[.val (.ref a), .val (.ref b)] [])) := g3
  exact ⟨T3, none, _, _, _, X3, by simp, rfl, by omega, (fun _ => rfl), e0, fun fs hl => c4.trans (X3.returnOut hexec hret (hb hbytes d9) hl)⟩
theorem pays {l : Launch} {R : Room} {p : Program} {e : Env} {below : List Frame} {s : State} {sargs : Array Value} {len W : Nat} (a : Addr) (D : Cell) (fV fC : Field) (b : Addr) (A : Cell) (z : Int32) (htab : tab.before sargs s = true) (hfr : 4 ≤ R.frames) (hlo : W + 65 ≤ R.locals) :
    Back l R p e below s sargs yN len W (fun A₁ a₁ => A₁.cells + 1 ≤ R.cells ∧ A₁.slots + A.slots.size ≤ R.slots ∧ P a D fV fC b A z a₁ A₁.U) (fun A₁ _ v₁ B₁ => E a D fV fC A v₁ A₁.U B₁.U ∧ B₁.locs = A₁.locs ++ [⟨a, fC.slot⟩, ⟨a, fV.slot⟩] ∧ B₁.cells = A₁.cells + 1 ∧ B₁.slots = A₁.slots + A.slots.size) :=
  (law l a D fV fC b A z).pays htab hfr (by omega)
end New1
/-- the byte, read back as charAt reads it, is the char -/
theorem lo8_mask {x : Int32} (h0 : ¬ x < 0) (h1 : ¬ 255 < x) : lo8 x &&& 255 = x := by
  have t : ∀ k : Fin 256, lo8 (Int32.ofNat k.val) &&& 255 = Int32.ofNat k.val := by decide +kernel
  rw [Int32.lt_iff_toInt_lt] at h0 h1
  have e0 : (0 : Int32).toInt = 0 := rfl
  have e1 : (255 : Int32).toInt = 255 := rfl
  obtain ⟨k, hk⟩ : ∃ k : Nat, x.toInt = k := ⟨x.toInt.toNat, by omega⟩
  have hx : x = Int32.ofNat k := Int32.toInt_inj.mp (by rw [hk, Int32.toInt_ofNat_small (by omega)])
  rw [hx]
  exact t ⟨k, by omega⟩
end StrChars
namespace StrChars.Road
open Jvm Sem ClassFile Op Lib Jvm.Stand Jvm.Free Jvm.Free.XT
open Jvm.Lib.Cold (StaticIs)
abbrev ST : String := "java/lang/String"
/-- every table word that New1's law asks, flat -/
abbrev words : List Jvm.Cond := [.code New1.yN New1.yB 2 none, .initialized ST, .methodLink ST 27 New4.yN, .instanceMethod New4.yN,
  .code New4.yN New4.yB 6 none, .fieldLink ST 38 ST "COMPACT_STRINGS" "Z", .laysFinal ST ST "value" "[B", .fieldLink ST 9 ST "value" "[B", .laysFinal ST ST "coder" "B", .fieldLink ST 15 ST "coder" "B",
  .methodLink ST 1 Lib.objectInit, .instanceMethod Lib.objectInit, .code Lib.objectInit ⟨#[0xb1]⟩ 1 none, .methodLink ST 177 Cmp3.yN, .static Cmp3.yN, .methodLink ST 47 CodL.yN, .static CodL.yN,
  .code Cmp3.yN Cmp3.yB 6 (some (.array .byte)), .initialized U16, .arrayClass .byte, .methodLink U16 115 Cmp5.yN, .static Cmp5.yN, .code Cmp5.yN Cmp5.yB 7 (some .int), .code CodL.yN CodL.yB 2 (some .byte)]
theorem tab_of {a : Array Value} {s : State} (h : ∀ w ∈ words, w.before a s = true) : New1.tab.before a s = true := by
  have h5 : Cmp5.tab.before a s = true := unparts (wk h (.code Cmp5.yN Cmp5.yB 7 (some .int))) (wks h (.initialized Cmp5.yN.cls :: Cmp5.site))
  have hc : CodL.tab.before a s = true := unparts (wk h (.code CodL.yN CodL.yB 2 (some .byte))) (wks h (.initialized CodL.yN.cls :: CodL.site))
  have q5 : ∀ w ∈ Cmp5.tab :: words, w.before a s = true := fun w hw => (List.mem_cons.mp hw).elim (fun e => e ▸ h5) (h w)
  have h3 : Cmp3.tab.before a s = true := unparts (wk q5 (.code Cmp3.yN Cmp3.yB 6 (some (.array .byte)))) (wks q5 (.initialized Cmp3.yN.cls :: Cmp3.site))
  have q3 : ∀ w ∈ Cmp3.tab :: CodL.tab :: words, w.before a s = true := fun w hw => (List.mem_cons.mp hw).elim (fun e => e ▸ h3) fun hw => (List.mem_cons.mp hw).elim (fun e => e ▸ hc) (h w)
  have h4 : New4.tab.before a s = true := unparts (wk q3 (.code New4.yN New4.yB 6 none)) (wks q3 (.initialized New4.yN.cls :: New4.site))
  have q4 : ∀ w ∈ New4.tab :: words, w.before a s = true := fun w hw => (List.mem_cons.mp hw).elim (fun e => e ▸ h4) (h w)
  exact unparts (wk q4 (.code New1.yN New1.yB 2 none)) (wks q4 (.initialized New1.yN.cls :: New1.site))
/-- the words ride from the start Z to the walk's own state -/
theorem moved {Z s : State} {a0 args : Array Value} (hZ : Z.Warmed39 s.vm) (hw : ∀ d ∈ words, d.before a0 Z = true) : ∀ d ∈ words, d.before args s = true := fun d hd => by
  have q := hw d hd
  have t : ∀ d ∈ words, d = .arrayClass .byte ∨ (d.onTables && d.keepsFace) = true := by decide +kernel
  rcases t d hd with rfl | t
  · exact RoadKit.mvA hZ q
  · exact RoadKit.mv hZ q t
/-- WHAT COMES BACK, over the tables of the start Z: h the heap at the call, h' behind it -/
def Q (Z : State) (x : Addr) (A : Cell) (h : Heap) (v : Option Value) (h' : Heap) (L : List Loc) : Prop := v = none ∧ (∀ y ∈ L, y.base = x) ∧ RoadKit.Keep h h' [x] ∧ h'.size = h.size + 1 ∧ RoadKit.Exa Z h' x ST ∧ RoadKit.Fld Z h' x ST "value" "[B" (.ref h.size) ∧ RoadKit.Fld Z h' x ST "coder" "B" (.int 0) ∧
  (∃ V : Cell, RoadKit.Arr Z h' h.size V .byte ∧ V.vm = .none ∧ Z.vm.findClass "[B" = some V.cls ∧ V.slots.size = A.slots.size ∧ ∀ j, j < A.slots.size → V.slots[j]? = some (.int (lo8 (cv A j)))) ∧
  ∀ (O n d : String) (w : Value), RoadKit.Fld Z h x O n d w → RoadKit.slotOf Z O n d ≠ RoadKit.slotOf Z ST "value" "[B" → RoadKit.slotOf Z O n d ≠ RoadKit.slotOf Z ST "coder" "B" → RoadKit.Fld Z h' x O n d w
/-- **new String(chars) AT A CALL, IN THE ROAD'S FORM**: for specialBack behind newO: x the fresh String, b the char[] with the cell A -/
theorem back {p : Program} {l : Launch} {e : Env} {R : Room} {s : State} {args : Array Value} {below : List Frame} {len W : Nat} {Z : State} {a0 : Array Value} {h : Heap} (hZ : Z.Warmed39 s.vm) (hw : ∀ d ∈ words, d.before a0 Z = true) {kI : Nat} (wi : (Jvm.Cond.instantiable ST kI).before a0 Z = true)
    {x b : Addr} {A : Cell} {z : Int32} {v0 c0 : Value} (E : RoadKit.Exa Z h x ST) (V : RoadKit.Fld Z h x ST "value" "[B" v0) (C : RoadKit.Fld Z h x ST "coder" "B" c0) (K : RoadKit.Arr Z h b A .char) (hty : Typed .char A) (S : RoadKit.Sta Z h ST "COMPACT_STRINGS" "Z" (.int z)) (hz : ¬ z = 0)
    (l0 : 0 < A.slots.size) (l2 : A.slots.size ≤ 536870912) (hp : ∀ i, i < A.slots.size → ¬ 255 < cv A i) (hfr : 4 ≤ R.frames) (hlo : W + 65 ≤ R.locals) :
    Back l R p e below s args New1.yN len W (fun P a => a = #[.ref x, .ref b] ∧ P.U.heap = h ∧ P.cells + 1 ≤ R.cells ∧ P.slots + A.slots.size ≤ R.slots)
      (fun P _ v B => ∃ L, Q Z x A h v B.U.heap L ∧ B.locs = P.locs ++ L ∧ B.cells = P.cells + 1 ∧ B.slots = P.slots + A.slots.size) := by
  intro m meth c P g ig mk a X hg hsize hdg hW hn hp'
  obtain ⟨rfl, rfl, r1, r2⟩ := hp'
  have al : Z.vm.Alike P.U.vm := hZ.alike.trans X.warmed.alike
  obtain ⟨D, cfV, kV, iV, fV, hD, gV, stV, knV, obV, asV, slV⟩ := id V
  obtain ⟨D', cfC, kC, iC, fC, hD', gC, stC, -, -, asC, slC⟩ := id C
  cases hD.symm.trans hD'
  obtain ⟨D2, kD, e1, e2, e3, e4, e5⟩ := id E
  cases hD.symm.trans e1
  obtain ⟨c2, k2, i1, i2, i3, -⟩ := Cond.instantiable_spec wi
  cases e2.symm.trans i1
  cases e3.symm.trans i2
  obtain ⟨kU, u1, u2⟩ := al.2.2 _ _ e3
  have hB : Blank ST x D P.U := ⟨hD, ⟨knV, fun q hq => by rw [hq] at obV; cases obV⟩, by rw [al.findClass]; exact e2, kU, u1, by rw [u2]; exact i3, by rw [u2]; exact e5 i3⟩
  have F1 : Found ST "value" "[B" fV P.U := ⟨SBG.found_only al ⟨cfV, kV, iV, gV⟩, stV⟩
  have F2 : Found ST "coder" "B" fC P.U := ⟨SBG.found_only al ⟨cfC, kC, iC, gC⟩, stC⟩
  have hA : Ch b A P.U := ⟨⟨K.1, State.isArrayOf_alike al K.2.1, K.2.2, by omega⟩, hty⟩
  have hS : StaticIs P.U ST "COMPACT_STRINGS" "Z" (.int z) := by
    obtain ⟨cfS, iS, kS, fS, st, cS, t1, t2, t3, t4, t5, t6, t7⟩ := S
    exact StaticIs.there (s := { Z with heap := P.U.heap }) ⟨cfS, iS, kS, fS, st, cS, t1, t2, t3, t4, t5, (fun q => by rw [q] at t6; cases t6), t7⟩ al rfl
  obtain ⟨v, B, X', ⟨⟨hv, E', V', q1, q2, q3, q4, q5, q6, q7, q8, q9, q10, q11⟩, hl, hc, hs⟩, st⟩ := New1.pays x D fV fC b A z (tab_of (moved hZ hw)) hfr hlo m meth c P g ig mk _ X hg hsize hdg hW hn ⟨r1, r2, rfl, hB, F1, F2, hA, hS, hz, l0, l2, hp⟩
  have al' : Z.vm.Alike B.U.vm := hZ.alike.trans X'.warmed.alike
  have hsz : E'.slots.size = D.slots.size := by
    obtain ⟨-, -, -, kB, w1, w2, w3⟩ := q1
    obtain ⟨kB', y1, y2⟩ := al'.2.2 _ _ e3
    rw [q2.2.1] at w1
    cases w1.symm.trans y1
    rw [w3, e5 i3, y2]
  refine ⟨v, B, X', ⟨_, ⟨hv, ?_, ⟨by omega, fun y cy hy hn' => q10 y cy (by simpa using hn') hy, fun y cy hy => ?_⟩, q11, ⟨E', _, q1.1, by rw [q2.2.1]; exact e2, by rw [q2.2.1]; exact e3, by rw [q2.1]; exact obV, fun _ => by rw [hsz]; exact e5 i3⟩,
    ⟨E', cfV, kV, iV, fV, q1.1, gV, stV, by rw [q2.1]; exact knV, by rw [q2.1]; exact obV, by rw [q2.2.1]; exact asV, q3⟩, ⟨E', cfC, kC, iC, fC, q1.1, gC, stC, by rw [q2.1]; exact knV, by rw [q2.1]; exact obV, by rw [q2.2.1]; exact asC, q4⟩,
    ⟨V', ⟨q5.1, State.isArrayOf_alike al'.symm q5.2.1, q5.2.2.1⟩, q6, by rw [← al'.findClass]; exact q7, q8, fun j hj => by have := q9 j hj; rwa [Nat.zero_add] at this⟩, fun O n d w F n1 n2 => ?_⟩, hl, hc, hs⟩, st⟩
  · intro y hy
    simp only [List.mem_cons, List.not_mem_nil, or_false] at hy
    rcases hy with rfl | rfl <;> rfl
  · by_cases q : y = x
    · subst q
      cases hD.symm.trans hy
      exact ⟨E', q1.1, q2.2.1, q2.1, hsz⟩
    · exact ⟨cy, q10 y cy q hy, rfl, rfl, rfl⟩
  · obtain ⟨D3, cf, k, i, f, g1, g2, g3, g4, g5, g6, g7⟩ := F
    cases hD.symm.trans g1
    simp only [RoadKit.slotOf, g2, gV, gC, Option.map_some, Option.getD_some] at n1 n2
    exact ⟨E', cf, k, i, f, q1.1, g2, g3, by rw [q2.1]; exact g4, by rw [q2.1]; exact g5, by rw [q2.2.1]; exact g6, by rw [q2.2.2 f.slot (by simp [n1, n2])]; exact g7⟩
end StrChars.Road
namespace StrChars.Road
open Jvm Sem ClassFile Op Lib Jvm.Stand Jvm.Free Jvm.Free.XT
/-- WHAT COMES BACK, the byte[] as a list of values -/
def QA (Z : State) (x : Addr) (zn : Int32) (cs : List Int32) (h : Heap) (v : Option Value) (h' : Heap) (L : List Loc) : Prop := v = none ∧ (∀ y ∈ L, y.base = x) ∧ RoadKit.Keep h h' [x] ∧ h'.size = h.size + 1 ∧ RoadKit.Exa Z h' x ST ∧ RoadKit.Fld Z h' x ST "value" "[B" (.ref h.size) ∧ RoadKit.Fld Z h' x ST "coder" "B" (.int 0) ∧
  (∃ kb, Z.vm.findClass "[B" = some kb ∧ RoadKit.Arv Z h' h.size kb .byte zn (cs.map fun c => .int (lo8 c)) (.int 0)) ∧
  ∀ (O n d : String) (w : Value), RoadKit.Fld Z h x O n d w → RoadKit.slotOf Z O n d ≠ RoadKit.slotOf Z ST "value" "[B" → RoadKit.slotOf Z O n d ≠ RoadKit.slotOf Z ST "coder" "B" → RoadKit.Fld Z h' x O n d w
/-- **new String(chars) AT A CALL, THE ARRAYS AS LISTS**: the char[] at b holds cs, not empty, no char above 255 -/
theorem backArv {p : Program} {l : Launch} {e : Env} {R : Room} {s : State} {args : Array Value} {below : List Frame} {len W : Nat} {Z : State} {a0 : Array Value} {h : Heap} (hZ : Z.Warmed39 s.vm) (hw : ∀ d ∈ words, d.before a0 Z = true) {kI : Nat} (wi : (Jvm.Cond.instantiable ST kI).before a0 Z = true)
    {x b : Addr} {k : ClassId} {zn z : Int32} {cs : List Int32} {dv v0 c0 : Value} (E : RoadKit.Exa Z h x ST) (V : RoadKit.Fld Z h x ST "value" "[B" v0) (C : RoadKit.Fld Z h x ST "coder" "B" c0) (K : RoadKit.Arv Z h b k .char zn (cs.map Value.int) dv) (S : RoadKit.Sta Z h ST "COMPACT_STRINGS" "Z" (.int z)) (hz : ¬ z = 0)
    (hlen : zn.toNatClampNeg = cs.length) (h0 : 0 < cs.length) (hbig : cs.length ≤ 536870912) (hall : ∀ c ∈ cs, ¬ 255 < c) (hfr : 4 ≤ R.frames) (hlo : W + 65 ≤ R.locals) :
    Back l R p e below s args New1.yN len W (fun P a => a = #[.ref x, .ref b] ∧ P.U.heap = h ∧ P.cells + 1 ≤ R.cells ∧ P.slots + cs.length ≤ R.slots)
      (fun P _ v B => ∃ L, QA Z x zn cs h v B.U.heap L ∧ B.locs = P.locs ++ L ∧ B.cells = P.cells + 1 ∧ B.slots = P.slots + cs.length) := by
  obtain ⟨A, K1, K2, K3, K4, K5, K6⟩ := K
  have e : A.slots.size = cs.length := K3.trans hlen
  have hat : ∀ (i : Nat) (hi : i < cs.length), A.slots[i]? = some (.int cs[i]) := fun i hi => by rw [K5 i (by omega)]; simp [List.getD_eq_getElem?_getD, hi]
  have hcv : ∀ (i : Nat) (hi : i < cs.length), cv A i = cs[i] := fun i hi => by unfold cv; rw [hat i hi]
  have hty : Typed .char A := fun i v hv => by
    have hi : i < A.slots.size := (Array.getElem?_eq_some_iff.mp hv).1
    have q := K5 i hi
    rw [hv] at q
    rw [Option.some.inj q]
    exact K6 i hi
  refine Back.mono (back hZ hw wi E V C K1 hty S hz (by omega) (by omega) (fun i hi => by rw [hcv i (by omega)]; exact hall _ (List.getElem_mem _)) hfr hlo) (fun P a hp => ⟨hp.1, hp.2.1, hp.2.2.1, by rw [e]; exact hp.2.2.2⟩) (fun P a v B hp hq => ?_)
  obtain ⟨L, ⟨q1, q2, q3, q4, q5, q6, q7, ⟨V', v1, v2, v3, v4, v5⟩, q9⟩, hl, hc, hs⟩ := hq
  refine ⟨L, ⟨q1, q2, q3, q4, q5, q6, q7, ⟨V'.cls, v3, V', v1, rfl, by rw [v4, e, hlen], K4, fun i hi => ?_, fun i hi => ?_⟩, q9⟩, hl, hc, by rw [hs, e]⟩
  · have hi' : i < cs.length := by omega
    rw [v5 i (by omega), hcv i hi']; simp [List.getD_eq_getElem?_getD, hi']
  · have hi' : i < cs.length := by omega
    simp only [List.getD_eq_getElem?_getD, List.getElem?_map, List.getElem?_eq_getElem hi', Option.map_some, Option.getD_some]
    exact fits_lo8 _
end StrChars.Road
namespace StrChars.Road
open Jvm Sem ClassFile Op Lib Jvm.Stand Jvm.Free Jvm.Free.XT
/-- WHAT COMES BACK, in the writer's own shape -/
def QV (Z : State) (x : Addr) (N : Int32) (bs : List Int32) (h : Heap) (n0 : Nat) (v : Option Value) (h' : Heap) (L : List Loc) : Prop := v = none ∧ RoadKit.Fr n0 L ∧ RoadKit.Keep h h' [x] ∧ RoadKit.Exa Z h' x ST ∧ RoadKit.Fld Z h' x ST "coder" "B" (.int 0) ∧
  ∃ (t : Addr) (kb : ClassId), n0 ≤ t ∧ h.size ≤ t ∧ ¬ t = x ∧ RoadKit.Fld Z h' x ST "value" "[B" (.ref t) ∧ RoadKit.Arv Z h' t kb .byte N (bs.map Value.int) (.int 0)
/-- **new String(chars) AT A CALL, FOR THE WRITER**: a char[] of n known ints, each 0 to 255 -/
theorem backV {p : Program} {l : Launch} {e : Env} {R : Room} {s : State} {args : Array Value} {below : List Frame} {len W : Nat} {Z : State} {a0 : Array Value} {h : Heap} (hZ : Z.Warmed39 s.vm) (hw : ∀ d ∈ words, d.before a0 Z = true) {kI : Nat} (wi : (Jvm.Cond.instantiable ST kI).before a0 Z = true)
    {x b : Addr} {kC : ClassId} {cs bs : List Int32} {d v0 c0 : Value} {z N : Int32} {n n0 : Nat} (hx0 : n0 ≤ x) (hh0 : n0 ≤ h.size) (E : RoadKit.Exa Z h x ST) (V : RoadKit.Fld Z h x ST "value" "[B" v0) (C : RoadKit.Fld Z h x ST "coder" "B" c0) (K : RoadKit.Arv Z h b kC .char N (cs.map Value.int) d) (S : RoadKit.Sta Z h ST "COMPACT_STRINGS" "Z" (.int z)) (hz : ¬ z = 0)
    (hn : cs.length = n) (hN : N = Int32.ofNat n) (l0 : 0 < n) (l2 : n ≤ 4000) (hp : ∀ c ∈ cs, ¬ c < 0 ∧ ¬ (255 : Int32) < c) (hb : bs = cs.map (fun c => c.toInt8.toInt32)) (hfr : 4 ≤ R.frames) (hlo : W + 65 ≤ R.locals) :
    Back l R p e below s args (⟨"java/lang/String", "<init>", "([C)V"⟩ : MethodName) len W (fun P a => a = #[.ref x, .ref b] ∧ P.U.heap = h ∧ P.cells + 1 ≤ R.cells ∧ P.slots + n ≤ R.slots)
      (fun P _ v B => ∃ L, QV Z x N bs h n0 v B.U.heap L ∧ B.locs = P.locs ++ L ∧ B.cells = P.cells + 1 ∧ B.slots = P.slots + n) := by
  subst hn hN hb
  refine Back.mono (backArv hZ hw wi E V C K S hz (n32 (by omega)) l0 (by omega) (fun c hc => (hp c hc).2) hfr hlo) (fun P a hp => hp) (fun P a v B hp hq => ?_)
  obtain ⟨L, ⟨q1, q2, q3, q4, q5, q6, q7, ⟨kb, v1, v2⟩, q9⟩, hl, hc, hs⟩ := hq
  exact ⟨L, ⟨q1, fun y hy => by rw [q2 y hy]; exact hx0, q3, q5, q7, h.size, kb, hh0, Nat.le_refl _, Nat.ne_of_gt E.lt, q6, by rw [List.map_map]; exact v2⟩, hl, hc, hs⟩
end StrChars.Road
namespace StrChars
open Jvm Sem ClassFile Op Lib Jvm.Stand Jvm.Free.XT Jvm.Free.ALB Jvm.Free.JM Jvm.Free
open Jvm.Lib.Cold (StaticIs)
def hi8 (x : Int32) : Int32 := lo8 (x >>> ((8 : Int32) &&& 31))
/-- what StringUTF16.getChar makes of two bytes -/
def pairCh (u v : Int32) : Int32 := (((u &&& 255) <<< ((0 : Int32) &&& 31)) ||| ((v &&& 255) <<< ((8 : Int32) &&& 31))).toUInt32.toUInt16.toUInt32.toInt32
theorem shr0 (c : Int32) : c >>> ((0 : Int32) &&& 31) = c := by
  have e : ((0 : Int32) &&& 31) = 0 := by decide
  rw [e]
  apply Int32.toBitVec_inj.mp
  rw [Int32.toBitVec_shiftRight]
  have e1 : ((0 : Int32).toBitVec.smod 32) = 0#32 := by decide
  rw [e1, BitVec.sshiftRight_eq']
  exact BitVec.sshiftRight_zero
theorem lo8_and (x : Int32) : (lo8 x &&& 255).toBitVec.toNat = x.toBitVec.toNat % 256 := by
  have h : (lo8 x).toBitVec = (x.toBitVec.signExtend 8).signExtend 32 := by rw [lo8, Int8.toBitVec_toInt32, Int32.toBitVec_toInt8]
  rw [Int32.toBitVec_and, BitVec.toNat_and, h]
  have e : ((x.toBitVec.signExtend 8).signExtend 32).toNat % 256 = x.toBitVec.toNat % 256 := by
    rw [BitVec.toNat_signExtend]
    have hlt := x.toBitVec.isLt
    simp only [BitVec.toNat_setWidth, BitVec.toNat_signExtend]
    split <;> split <;> omega
  rw [← e]
  exact Nat.and_two_pow_sub_one_eq_mod _ 8
theorem pair_says {c : Int32} (h0 : ¬ c < 0) (h1 : ¬ 65535 < c) : pairCh (lo8 c) (hi8 c) = c := by
  rw [Int32.lt_iff_toInt_lt] at h0 h1
  have e0 : (0 : Int32).toInt = 0 := rfl
  have e1 : (65535 : Int32).toInt = 65535 := rfl
  have hc : c.toInt = c.toBitVec.toNat := by
    have := c.toBitVec.isLt
    have e : c.toInt = c.toBitVec.toInt := rfl
    rw [e] at h0 h1
    rw [e]
    rw [BitVec.toInt_eq_toNat_cond] at h0 h1 ⊢
    split at h0 <;> split <;> omega
  have hn : c.toBitVec.toNat < 65536 := by omega
  have a1 := lo8_and c
  have a2 : (hi8 c &&& 255).toBitVec.toNat = c.toBitVec.toNat / 256 := by
    rw [hi8, lo8_and]
    have e : ((8 : Int32) &&& 31) = 8 := by decide
    rw [e, Int32.toBitVec_shiftRight]
    have e2 : ((8 : Int32).toBitVec.smod 32) = 8#32 := by decide
    rw [e2, BitVec.sshiftRight_eq', BitVec.toNat_sshiftRight_of_msb_false (by rw [BitVec.msb_eq_false_iff_two_mul_lt]; omega)]
    show c.toBitVec.toNat >>> 8 % 256 = _
    rw [Nat.shiftRight_eq_div_pow]
    omega
  unfold pairCh
  apply Int32.toBitVec_inj.mp
  apply BitVec.eq_of_toNat_eq
  have f0 : ((0 : Int32) &&& 31) = 0 := by decide
  have f8 : ((8 : Int32) &&& 31) = 8 := by decide
  rw [f0, f8]
  have g : (((lo8 c &&& 255) <<< (0 : Int32)) ||| ((hi8 c &&& 255) <<< (8 : Int32))).toBitVec.toNat = c.toBitVec.toNat := by
    rw [Int32.toBitVec_or, Int32.toBitVec_shiftLeft, Int32.toBitVec_shiftLeft]
    have s0 : ((0 : Int32).toBitVec.smod 32) = 0#32 := by decide
    have s8 : ((8 : Int32).toBitVec.smod 32) = 8#32 := by decide
    rw [s0, s8, BitVec.toNat_or]
    simp only [BitVec.shiftLeft_eq', BitVec.toNat_shiftLeft, a1, a2]
    show (c.toBitVec.toNat % 256) <<< 0 % 2 ^ 32 ||| (c.toBitVec.toNat / 256) <<< 8 % 2 ^ 32 = _
    rw [Nat.shiftLeft_zero, Nat.mod_eq_of_lt (show c.toBitVec.toNat % 256 < 2 ^ 32 by omega), Nat.mod_eq_of_lt (show (c.toBitVec.toNat / 256) <<< 8 < 2 ^ 32 by rw [Nat.shiftLeft_eq]; omega), Nat.or_comm, ← Nat.shiftLeft_add_eq_or_of_lt (by omega), Nat.shiftLeft_eq]
    omega
  show BitVec.toNat (((((lo8 c &&& 255) <<< (0 : Int32)) ||| ((hi8 c &&& 255) <<< (8 : Int32))).toBitVec.setWidth 16).setWidth 32) = _
  rw [BitVec.toNat_setWidth, BitVec.toNat_setWidth, g]
  omega
end StrChars
namespace StrChars
open Jvm Sem ClassFile Op Lib Jvm.Stand Jvm.Free.XT Jvm.Free.ALB Jvm.Free.JM Jvm.Free
open Jvm.Lib.Cold (StaticIs)
theorem shr1 {n : Nat} (h : 2 * n < 2 ^ 31) : Int32.ofNat (2 * n) >>> ((1 : Int32) &&& 31) = Int32.ofNat n := by
  have e : ((1 : Int32) &&& 31) = 1 := by decide
  rw [e]
  apply Int32.toBitVec_inj.mp
  rw [Int32.toBitVec_shiftRight]
  have e1 : ((1 : Int32).toBitVec.smod 32) = 1#32 := by decide
  have hm : (BitVec.ofNat 32 (2 * n)).toNat = 2 * n := by rw [BitVec.toNat_ofNat, Nat.mod_eq_of_lt (by omega)]
  rw [e1, BitVec.sshiftRight_eq']
  apply BitVec.eq_of_toNat_eq
  show ((BitVec.ofNat 32 (2 * n)).sshiftRight 1).toNat = (BitVec.ofNat 32 n).toNat
  rw [BitVec.toNat_sshiftRight_of_msb_false (by rw [BitVec.msb_eq_false_iff_two_mul_lt, hm]; omega), hm, BitVec.toNat_ofNat, Nat.shiftRight_eq_div_pow]
  omega
/-- charAt's cast of a byte read back -/
def chr8 (u : Int32) : Int32 := (u &&& 255).toUInt32.toUInt16.toUInt32.toInt32
theorem chr8_lo8 {c : Int32} (h0 : ¬ c < 0) (h1 : ¬ 255 < c) : chr8 (lo8 c) = c := by
  have t : ∀ k : Fin 256, (Int32.ofNat k.val).toUInt32.toUInt16.toUInt32.toInt32 = Int32.ofNat k.val := by decide +kernel
  unfold chr8
  rw [lo8_mask h0 h1]
  rw [Int32.lt_iff_toInt_lt] at h0 h1
  have e0 : (0 : Int32).toInt = 0 := rfl
  have e1 : (255 : Int32).toInt = 255 := rfl
  obtain ⟨k, hk⟩ : ∃ k : Nat, c.toInt = k := ⟨c.toInt.toNat, by omega⟩
  have hx : c = Int32.ofNat k := Int32.toInt_inj.mp (by rw [hk, Int32.toInt_ofNat_small (by omega)])
  rw [hx]
  exact t ⟨k, by omega⟩
theorem narrow_ch {c : Int32} (h0 : ¬ c < 0) (h1 : ¬ 65535 < c) : narrow .char (.int c) = .int c := by
  have q : narrow .char (.int (pairCh (lo8 c) (hi8 c))) = .int (pairCh (lo8 c) (hi8 c)) := narrow_c _
  rwa [pair_says h0 h1] at q
/-- the array's cell V codes the n chars f 0 .. f (n - 1) by the coder cd, as the JDK does: coder 1 just where some char is above 255 -/
def Cod (cd : Int32) (n : Nat) (f : Nat → Int32) (V : Cell) : Prop := (cd = 0 ∧ V.slots.size = n ∧ ∀ j, j < n → V.slots[j]? = some (.int (lo8 (f j))) ∧ ¬ 255 < f j) ∨ (cd = 1 ∧ V.slots.size = 2 * n ∧ (∀ j, j < n → V.slots[2 * j]? = some (.int (lo8 (f j))) ∧ V.slots[2 * j + 1]? = some (.int (hi8 (f j)))) ∧ ∃ j, j < n ∧ 255 < f j)
theorem Cod.cd {cd : Int32} {n : Nat} {f : Nat → Int32} {V : Cell} (h : Cod cd n f V) : cd = 0 ∨ cd = 1 := h.imp (fun q => q.1) fun q => q.1
theorem Cod.len {cd : Int32} {n : Nat} {f : Nat → Int32} {V : Cell} (h : Cod cd n f V) (hs : V.slots.size < 2 ^ 31) : Int32.ofNat V.slots.size >>> (cd &&& 31) = Int32.ofNat n := by
  rcases h with ⟨rfl, h, -⟩ | ⟨rfl, h, -⟩
  · rw [shr0, h]
  · rw [h, shr1 (by omega)]
/-- **x is a String of the n chars f 0 .. f (n - 1)**, Latin-1 or UTF-16; its array at t has the cell V -/
def Txt (x t : Addr) (V : Cell) (cd : Int32) (n : Nat) (f : Nat → Int32) (U : State) : Prop := Exact "java/lang/String" x U ∧ Has x "java/lang/String" "value" "[B" (.ref t) U ∧ Has x "java/lang/String" "coder" "B" (.int cd) U ∧ XT.Arr .byte t V U ∧ Cod cd n f V ∧ ∀ j, j < n → ¬ f j < 0 ∧ ¬ 65535 < f j
theorem Txt.mv {x t : Addr} {V : Cell} {cd : Int32} {n : Nat} {f : Nat → Int32} {U U' : State} (h : Txt x t V cd n f U) (hal : U.vm.Alike U'.vm) (hh : U'.heap = U.heap) : Txt x t V cd n f U' := ⟨h.1.mv hal hh, h.2.1.mv hal hh, h.2.2.1.mv hal hh, h.2.2.2.1.mv hal hh, h.2.2.2.2⟩
namespace Cdr
def yN : MethodName := ⟨"java/lang/String", "coder", "()B"⟩
abbrev yB : ByteArray := jdk_42_method_152_code
theorem d0 : decode yB 0 = .ok (.getstatic 38, 3) := by decide +kernel
theorem d3 : decode yB 3 = .ok (.ifCond (.eq) 10, 3) := by decide +kernel
theorem d6 : decode yB 6 = .ok (.aload_n 0, 1) := by decide +kernel
theorem d7 : decode yB 7 = .ok (.getfield 15, 3) := by decide +kernel
theorem d10 : decode yB 10 = .ok (.goto 4, 3) := by decide +kernel
theorem d14 : decode yB 14 = .ok (.ireturn, 1) := by decide +kernel
def site : List Cond := [.fieldLink "java/lang/String" 38 "java/lang/String" "COMPACT_STRINGS" "Z", .fieldLink "java/lang/String" 15 "java/lang/String" "coder" "B"]
def tab : Cond := tabOf yN yB 1 (some .byte) site
def P (x : Addr) (cd z : Int32) (args : Array Value) (s : State) : Prop := args = #[.ref x] ∧ Has x "java/lang/String" "coder" "B" (.int cd) s ∧ (cd = 0 ∨ cd = 1) ∧ StaticIs s "java/lang/String" "COMPACT_STRINGS" "Z" (.int z) ∧ ¬ z = 0
def E (cd : Int32) (r : Option Value) (s u : State) : Prop := XT.PureE (some (.int cd)) r s u
theorem law (l : Launch) (x : Addr) (cd z : Int32) : Law l yN 1 0 0 0 yB 1 (some .byte) site (P x cd z) (E cd) [] 0 0 := by
  refine Law.of_walk (plainFor_of_name (by decide +kernel)) (by decide +kernel) (by decide +kernel) (by decide) (fun _ _ h => by rw [h.1]; rfl) (fun _ U U' hal hh h => ⟨h.1, h.2.1.mv hal hh, h.2.2.1, h.2.2.2.1.there hal hh, h.2.2.2.2⟩) (fun r U U' V V' h1 hal h2 h => XT.PureE.mv r U U' V V' h1 hal h2 h) ?_
  intro p e s m args below meth c s₁ X0 hexec hbytes hml hret hlk hnm hown hh0 W hP
  obtain ⟨rfl, hx, hc, s1, hz⟩ := hP
  have c1 : Steps p.tables e below (s₁.setTop (entryFrame m #[.ref x] 1)) (s₁.setTop (mkF m 0 #[.val (.ref x)] [])) := entry rfl
  obtain ⟨T2, X2, q2, st2⟩ := X0.sget hexec hown (wk W (.fieldLink "java/lang/String" 38 "java/lang/String" "COMPACT_STRINGS" "Z")) s1 (fun _ _ h => by rw [hh0]; exact h) (g := (mkF m 0 #[.val (.ref x)] [])) rfl (hb hbytes d0)
  have hh2 := q2.trans hh0
  have c3 : Steps p.tables e below (s₁.setTop (entryFrame m #[.ref x] 1)) (T2.setTop (mkF m 7 #[.val (.ref x)] [.ref x])) := (c1.trans (st2 _ (Steps.refl _))).trans (by
    refine XS.ifNo X2.here hexec rfl (hb hbytes d3) rfl (i0_eq_f hz) ?_
    refine XS.aloadN X2.here hexec rfl (hb hbytes d6) rfl rfl ?_
    exact Steps.refl _)
  obtain ⟨T4, X4, q4, st4⟩ := X2.hget hexec hown (wk W (.fieldLink "java/lang/String" 15 "java/lang/String" "coder" "B")) (hx.mv X2.warmed.alike hh2) (g := (mkF m 7 #[.val (.ref x)] [.ref x])) rfl (rest := []) rfl (hb hbytes d7)
  have c5 : Steps p.tables e below (s₁.setTop (entryFrame m #[.ref x] 1)) (T4.setTop (mkF m 14 #[.val (.ref x)] [.int cd])) := (c3.trans (st4 _ (Steps.refl _))).trans (by
    refine XS.goto X4.here hexec rfl (pc0 := 10) rfl (hb hbytes d10) (by decide) rfl ?_
    exact Steps.refl _)
  exact ⟨T4, some (.int cd), _, _, _, X4, rfl, rfl, rfl, (fun h => by cases h), ⟨rfl, q4.trans hh2⟩, fun fs hl => c5.trans (X4.ireturnOut hexec hret (by rcases hc with rfl | rfl <;> rfl) (Or.inr (Or.inr (Or.inl rfl))) (hb hbytes d14) hl)⟩
end Cdr
namespace Len
def yN : MethodName := ⟨"java/lang/String", "length", "()I"⟩
abbrev yB : ByteArray := jdk_42_method_54_code
theorem d0 : decode yB 0 = .ok (.aload_n 0, 1) := by decide +kernel
theorem d1 : decode yB 1 = .ok (.getfield 9, 3) := by decide +kernel
theorem d4 : decode yB 4 = .ok (.arraylength, 1) := by decide +kernel
theorem d5 : decode yB 5 = .ok (.aload_n 0, 1) := by decide +kernel
theorem d6 : decode yB 6 = .ok (.invokevirtual 335, 3) := by decide +kernel
theorem d9 : decode yB 9 = .ok (.ishr, 1) := by decide +kernel
theorem d10 : decode yB 10 = .ok (.ireturn, 1) := by decide +kernel
def site : List Cond := [.fieldLink "java/lang/String" 9 "java/lang/String" "value" "[B", Cdr.tab] ++ virtW "java/lang/String" 335 "java/lang/String" Cdr.yN Cdr.yN
def tab : Cond := tabOf yN yB 1 (some .int) site
def P (x t : Addr) (V : Cell) (cd : Int32) (n : Nat) (f : Nat → Int32) (z : Int32) (args : Array Value) (s : State) : Prop := args = #[.ref x] ∧ Txt x t V cd n f s ∧ StaticIs s "java/lang/String" "COMPACT_STRINGS" "Z" (.int z) ∧ ¬ z = 0
def E (n : Nat) (r : Option Value) (s u : State) : Prop := XT.PureE (some (.int (Int32.ofNat n))) r s u
/-- length() of a String of n chars, in either coding -/
theorem law (l : Launch) (x t : Addr) (V : Cell) (cd : Int32) (n : Nat) (f : Nat → Int32) (z : Int32) : Law l yN 1 0 1 13 yB 1 (some .int) site (P x t V cd n f z) (E n) [] 0 0 := by
  refine Law.of_walk (plainFor_of_name (by decide +kernel)) (by decide +kernel) (by decide +kernel) (by decide) (fun _ _ h => by rw [h.1]; rfl) (fun _ U U' hal hh h => ⟨h.1, h.2.1.mv hal hh, h.2.2.1.there hal hh, h.2.2.2⟩) (fun r U U' V V' h1 hal h2 h => XT.PureE.mv r U U' V V' h1 hal h2 h) ?_
  intro p e s m args below meth c s₁ X0 hexec hbytes hml hret hlk hnm hown hh0 W hP
  obtain ⟨rfl, hx, s1, hz⟩ := hP
  have v31 := hx.2.2.2.1.2.2.2
  have c1 : Steps p.tables e below (s₁.setTop (entryFrame m #[.ref x] 1)) (s₁.setTop (mkF m 1 #[.val (.ref x)] [.ref x])) := Steps.trans (entry rfl) (by
    show Steps p.tables e below (s₁.setTop (mkF m 0 #[.val (.ref x)] [])) _
    refine XS.aloadN X0.here hexec rfl (hb hbytes d0) rfl rfl ?_
    exact Steps.refl _)
  obtain ⟨T2, X2, q2, st2⟩ := X0.hget hexec hown (wk W (.fieldLink "java/lang/String" 9 "java/lang/String" "value" "[B")) (hx.mv X0.warmed.alike hh0).2.1 (g := (mkF m 1 #[.val (.ref x)] [.ref x])) rfl (rest := []) rfl (hb hbytes d1)
  have hh2 := q2.trans hh0
  have hx2 := hx.mv X2.warmed.alike hh2
  have c3 : Steps p.tables e below (s₁.setTop (entryFrame m #[.ref x] 1)) (T2.setTop (mkF m 6 #[.val (.ref x)] [.ref x, .int (Int32.ofNat V.slots.size)])) := (c1.trans (st2 _ (Steps.refl _))).trans (by
    refine X2.alen hexec hx2.2.2.2.1 rfl rfl (hb hbytes d4) ?_
    refine XS.aloadN X2.here hexec rfl (hb hbytes d5) rfl rfl ?_
    exact Steps.refl _)
  obtain ⟨v4, T4, X4, E4, g4⟩ := X2.callV hexec (Cdr.law l x cd z) hown (wks W (virtW "java/lang/String" 335 "java/lang/String" Cdr.yN Cdr.yN)) rfl (by decide) (wk W Cdr.tab) (W := 1) (Nat.le_of_ble_eq_true rfl) (Nat.le_of_ble_eq_true rfl) (Nat.le_refl _) (Nat.le_refl _) (hx2.1.fc X2.warmed.alike) hx2.1.is (g := (mkF m 6 #[.val (.ref x)] [.ref x, .int (Int32.ofNat V.slots.size)])) rfl (by rw [hml]; rfl) c3 (argsL := []) (rest := [.int (Int32.ofNat V.slots.size)]) rfl rfl (by show 2 * 0 + (1 + 0) ≤ _; decide) (hb hbytes d6) (⟨rfl, hx2.2.2.1, hx.2.2.2.2.1.cd, s1.there X2.warmed.alike hh2, hz⟩)
  obtain ⟨rfl, q4⟩ := E4
  have c5 : Steps p.tables e below (s₁.setTop (entryFrame m #[.ref x] 1)) (T4.setTop (mkF m 10 #[.val (.ref x)] [.int (Int32.ofNat V.slots.size >>> (cd &&& 31))])) := Steps.trans g4 (by
    refine ishr X4.here hexec rfl (hb hbytes d9) rfl ?_
    exact Steps.refl _)
  rw [hx.2.2.2.2.1.len v31] at c5
  exact ⟨T4, some (.int (Int32.ofNat n)), _, _, _, X4, rfl, rfl, rfl, (fun h => by cases h), ⟨rfl, q4.trans hh2⟩, fun fs hl => c5.trans (X4.ireturnOut hexec hret rfl (Or.inl rfl) (hb hbytes d10) hl)⟩
theorem pays {l : Launch} {R : Room} {p : Program} {e : Env} {below : List Frame} {s : State} {sargs : Array Value} {len W : Nat} (x t : Addr) (V : Cell) (cd : Int32) (n : Nat) (f : Nat → Int32) (z : Int32) (htab : tab.before sargs s = true) (hfr : 2 ≤ R.frames) (hlo : W + 25 ≤ R.locals) :
    Back l R p e below s sargs yN len W (fun A₁ a₁ => A₁.cells + 0 ≤ R.cells ∧ A₁.slots + 0 ≤ R.slots ∧ P x t V cd n f z a₁ A₁.U) (fun A₁ _ v₁ B₁ => E n v₁ A₁.U B₁.U ∧ B₁.locs = A₁.locs ++ [] ∧ B₁.cells = A₁.cells + 0 ∧ B₁.slots = A₁.slots + 0) :=
  (law l x t V cd n f z).pays htab hfr (by omega)
end Len
namespace IsL
def yN : MethodName := ⟨"java/lang/String", "isLatin1", "()Z"⟩
abbrev yB : ByteArray := jdk_42_method_154_code
theorem d0 : decode yB 0 = .ok (.getstatic 38, 3) := by decide +kernel
theorem d3 : decode yB 3 = .ok (.ifCond (.eq) 14, 3) := by decide +kernel
theorem d6 : decode yB 6 = .ok (.aload_n 0, 1) := by decide +kernel
theorem d7 : decode yB 7 = .ok (.getfield 15, 3) := by decide +kernel
theorem d10 : decode yB 10 = .ok (.ifCond (.ne) 7, 3) := by decide +kernel
theorem d13 : decode yB 13 = .ok (.iconst 1, 1) := by decide +kernel
theorem d14 : decode yB 14 = .ok (.goto 4, 3) := by decide +kernel
theorem d17 : decode yB 17 = .ok (.iconst 0, 1) := by decide +kernel
theorem d18 : decode yB 18 = .ok (.ireturn, 1) := by decide +kernel
def site : List Cond := [.fieldLink "java/lang/String" 38 "java/lang/String" "COMPACT_STRINGS" "Z", .fieldLink "java/lang/String" 15 "java/lang/String" "coder" "B"]
def tab : Cond := tabOf yN yB 1 (some .boolean) site
def P (x : Addr) (cd z : Int32) (args : Array Value) (s : State) : Prop := args = #[.ref x] ∧ Has x "java/lang/String" "coder" "B" (.int cd) s ∧ (cd = 0 ∨ cd = 1) ∧ StaticIs s "java/lang/String" "COMPACT_STRINGS" "Z" (.int z) ∧ ¬ z = 0
def E (cd : Int32) (r : Option Value) (s u : State) : Prop := XT.PureE (some (.int (1 - cd))) r s u
theorem law (l : Launch) (x : Addr) (cd z : Int32) : Law l yN 1 0 0 0 yB 1 (some .boolean) site (P x cd z) (E cd) [] 0 0 := by
  refine Law.of_walk (plainFor_of_name (by decide +kernel)) (by decide +kernel) (by decide +kernel) (by decide) (fun _ _ h => by rw [h.1]; rfl) (fun _ U U' hal hh h => ⟨h.1, h.2.1.mv hal hh, h.2.2.1, h.2.2.2.1.there hal hh, h.2.2.2.2⟩) (fun r U U' V V' h1 hal h2 h => XT.PureE.mv r U U' V V' h1 hal h2 h) ?_
  intro p e s m args below meth c s₁ X0 hexec hbytes hml hret hlk hnm hown hh0 W hP
  obtain ⟨rfl, hx, hc, s1, hz⟩ := hP
  have c1 : Steps p.tables e below (s₁.setTop (entryFrame m #[.ref x] 1)) (s₁.setTop (mkF m 0 #[.val (.ref x)] [])) := entry rfl
  obtain ⟨T2, X2, q2, st2⟩ := X0.sget hexec hown (wk W (.fieldLink "java/lang/String" 38 "java/lang/String" "COMPACT_STRINGS" "Z")) s1 (fun _ _ h => by rw [hh0]; exact h) (g := (mkF m 0 #[.val (.ref x)] [])) rfl (hb hbytes d0)
  have hh2 := q2.trans hh0
  have c3 : Steps p.tables e below (s₁.setTop (entryFrame m #[.ref x] 1)) (T2.setTop (mkF m 7 #[.val (.ref x)] [.ref x])) := (c1.trans (st2 _ (Steps.refl _))).trans (by
    refine XS.ifNo X2.here hexec rfl (hb hbytes d3) rfl (i0_eq_f hz) ?_
    refine XS.aloadN X2.here hexec rfl (hb hbytes d6) rfl rfl ?_
    exact Steps.refl _)
  obtain ⟨T4, X4, q4, st4⟩ := X2.hget hexec hown (wk W (.fieldLink "java/lang/String" 15 "java/lang/String" "coder" "B")) (hx.mv X2.warmed.alike hh2) (g := (mkF m 7 #[.val (.ref x)] [.ref x])) rfl (rest := []) rfl (hb hbytes d7)
  have c5 : Steps p.tables e below (s₁.setTop (entryFrame m #[.ref x] 1)) (T4.setTop (mkF m 10 #[.val (.ref x)] [.int cd])) := c3.trans (st4 _ (Steps.refl _))
  have c6 : Steps p.tables e below (s₁.setTop (entryFrame m #[.ref x] 1)) (T4.setTop (mkF m 18 #[.val (.ref x)] [.int (1 - cd)])) := by
    rcases hc with rfl | rfl
    · exact c5.trans (by
        refine XS.ifNo X4.here hexec rfl (hb hbytes d10) rfl (i0_ne_f rfl) ?_
        refine iconstV X4.here hexec rfl 1 (hb hbytes d13) (by decide) ?_
        refine XS.goto X4.here hexec rfl (pc0 := 14) rfl (hb hbytes d14) (by decide) rfl ?_
        exact Steps.refl _)
    · exact c5.trans (by
        refine XS.ifYes X4.here hexec rfl (pc0 := 10) rfl (hb hbytes d10) rfl (i0_ne_t (by decide)) (by decide) rfl ?_
        refine iconstV X4.here hexec rfl 0 (hb hbytes d17) (by decide) ?_
        exact Steps.refl _)
  exact ⟨T4, some (.int (1 - cd)), _, _, _, X4, rfl, rfl, rfl, (fun h => by cases h), ⟨rfl, q4.trans hh2⟩, fun fs hl => c6.trans (X4.ireturnOut hexec hret (by rcases hc with rfl | rfl <;> rfl) (Or.inr (Or.inl rfl)) (hb hbytes d18) hl)⟩
end IsL
namespace LChA
def yN : MethodName := ⟨"java/lang/StringLatin1", "charAt", "([BI)C"⟩
abbrev yB : ByteArray := jdk_43_method_2_code
theorem d0 : decode yB 0 = .ok (.iload_n 1, 1) := by decide +kernel
theorem d1 : decode yB 1 = .ok (.aload_n 0, 1) := by decide +kernel
theorem d2 : decode yB 2 = .ok (.arraylength, 1) := by decide +kernel
theorem d3 : decode yB 3 = .ok (.invokestatic 9, 3) := by decide +kernel
theorem d6 : decode yB 6 = .ok (.aload_n 0, 1) := by decide +kernel
theorem d7 : decode yB 7 = .ok (.iload_n 1, 1) := by decide +kernel
theorem d8 : decode yB 8 = .ok (.baload, 1) := by decide +kernel
theorem d9 : decode yB 9 = .ok (.sipush 255, 3) := by decide +kernel
theorem d12 : decode yB 12 = .ok (.iand, 1) := by decide +kernel
theorem d13 : decode yB 13 = .ok (.i2c, 1) := by decide +kernel
theorem d14 : decode yB 14 = .ok (.ireturn, 1) := by decide +kernel
def site : List Cond := [JO.Str_checkIndex.tab] ++ staticW "java/lang/StringLatin1" 9 JO.Str_checkIndex.yN
def tab : Cond := tabOf yN yB 2 (some .char) site
def P (t : Addr) (V : Cell) (i : Nat) (u : Int32) (fm : Value) (args : Array Value) (s : State) : Prop := args = #[.ref t, .int (Int32.ofNat i)] ∧ XT.Arr .byte t V s ∧ V.slots[i]? = some (.int u) ∧ (StaticIs s "jdk/internal/util/Preconditions" "SIOOBE_FORMATTER" "Ljava/util/function/BiFunction;" fm ∧ fm.isRef = true)
def E (u : Int32) (r : Option Value) (s w : State) : Prop := XT.PureE (some (.int (chr8 u))) r s w
theorem law (l : Launch) (t : Addr) (V : Cell) (i : Nat) (u : Int32) (fm : Value) : Law l yN 2 2 2 27 yB 2 (some .char) site (P t V i u fm) (E u) [] 0 0 := by
  refine Law.of_walk (plainFor_of_name (by decide +kernel)) (by decide +kernel) (by decide +kernel) (by decide) (fun _ _ h => by rw [h.1]; rfl) (fun _ U U' hal hh h => ⟨h.1, h.2.1.mv hal hh, h.2.2.1, h.2.2.2.1.there hal hh, h.2.2.2.2⟩) (fun r U U' V V' h1 hal h2 h => XT.PureE.mv r U U' V V' h1 hal h2 h) ?_
  intro p e s m args below meth c s₁ X0 hexec hbytes hml hret hlk hnm hown hh0 W hP
  obtain ⟨rfl, hV, hu, s1, rf⟩ := hP
  have v31 := hV.2.2.2
  have hi : i < V.slots.size := (Array.getElem?_eq_some_iff.mp hu).1
  have c1 : Steps p.tables e below (s₁.setTop (entryFrame m #[.ref t, .int (Int32.ofNat i)] 2)) (s₁.setTop (mkF m 0 #[.val (.ref t), .val (.int (Int32.ofNat i))] [])) := entry rfl
  have c2 : Steps p.tables e below (s₁.setTop (entryFrame m #[.ref t, .int (Int32.ofNat i)] 2)) (s₁.setTop (mkF m 3 #[.val (.ref t), .val (.int (Int32.ofNat i))] [.int (Int32.ofNat V.slots.size), .int (Int32.ofNat i)])) := c1.trans (by
    refine XS.iloadN X0.here hexec rfl (hb hbytes d0) rfl ?_
    refine XS.aloadN X0.here hexec rfl (hb hbytes d1) rfl rfl ?_
    refine X0.alen hexec (hV.mv X0.warmed.alike hh0) rfl rfl (hb hbytes d2) ?_
    exact Steps.refl _)
  obtain ⟨v3, T3, X3, E3, g3⟩ := X0.callS hexec (JO.Str_checkIndex.law l (Int32.ofNat i) (Int32.ofNat V.slots.size) fm) hown (wks W (staticW "java/lang/StringLatin1" 9 JO.Str_checkIndex.yN)) (wk W JO.Str_checkIndex.tab) (W := 0) (Nat.le_of_ble_eq_true rfl) (Nat.le_of_ble_eq_true rfl) (Nat.le_refl _) (Nat.le_refl _) (g := (mkF m 3 #[.val (.ref t), .val (.int (Int32.ofNat i))] [.int (Int32.ofNat V.slots.size), .int (Int32.ofNat i)])) rfl (by rw [hml]; rfl) c2 (argsL := [.int (Int32.ofNat i), .int (Int32.ofNat V.slots.size)]) (rest := []) rfl rfl (by show 2 * 0 + 0 ≤ _; decide) (hb hbytes d3) (⟨rfl, rf, s1.there X0.warmed.alike hh0, Int32.ofNat_not_neg (by omega), lt32 v31 hi⟩)
  obtain ⟨rfl, q3⟩ := E3
  have hh3 := q3.trans hh0
  have c4 : Steps p.tables e below (s₁.setTop (entryFrame m #[.ref t, .int (Int32.ofNat i)] 2)) (T3.setTop (mkF m 14 #[.val (.ref t), .val (.int (Int32.ofNat i))] [.int (chr8 u)])) := Steps.trans g3 (by
    refine XS.aloadN X3.here hexec rfl (hb hbytes d6) rfl rfl ?_
    refine XS.iloadN X3.here hexec rfl (hb hbytes d7) rfl ?_
    refine X3.aget hexec (hV.mv X3.warmed.alike hh3) rfl hu rfl rfl (hb hbytes d8) ?_
    refine sipushV X3.here hexec rfl 255 (hb hbytes d9) (by decide) ?_
    refine XS.iand X3.here hexec rfl (hb hbytes d12) rfl ?_
    refine i2c X3.here hexec rfl (hb hbytes d13) rfl ?_
    exact Steps.refl _)
  exact ⟨T3, some (.int (chr8 u)), _, _, _, X3, rfl, rfl, rfl, (fun h => by cases h), ⟨rfl, hh3⟩, fun fs hl => c4.trans (X3.ireturnOut hexec hret (narrow_c _) (Or.inr (Or.inr (Or.inr (Or.inl rfl)))) (hb hbytes d14) hl)⟩
end LChA
end StrChars
namespace StrChars.Road
open Jvm Sem ClassFile Op Lib Jvm.Stand Jvm.Free Jvm.Free.XT
open Jvm.Lib.Cold (StaticIs)
theorem consq {a : Array Value} {s : State} {c : Jvm.Cond} {L : List Jvm.Cond} (h0 : c.before a s = true) (h : ∀ w ∈ L, w.before a s = true) : ∀ w ∈ c :: L, w.before a s = true := fun w hw => (List.mem_cons.mp hw).elim (fun e => e ▸ h0) (h w)
/-- the words of String.length(), either coding -/
abbrev wordsLen : List Jvm.Cond := [.code Len.yN Len.yB 1 (some .int), .initialized ST, .fieldLink ST 9 ST "value" "[B", .fieldLink ST 38 ST "COMPACT_STRINGS" "Z", .fieldLink ST 15 ST "coder" "B", .code Cdr.yN Cdr.yB 1 (some .byte), .methodLink ST 335 Cdr.yN, .declares Cdr.yN, .selects ST Cdr.yN Cdr.yN, .instanceMethod Cdr.yN]
theorem tabLen_of {a : Array Value} {s : State} (h : ∀ w ∈ wordsLen, w.before a s = true) : Len.tab.before a s = true := by
  have hc : Cdr.tab.before a s = true := unparts (wk h (.code Cdr.yN Cdr.yB 1 (some .byte))) (wks h (.initialized Cdr.yN.cls :: Cdr.site))
  have q := consq hc h
  exact unparts (wk q (.code Len.yN Len.yB 1 (some .int))) (wks q (.initialized Len.yN.cls :: Len.site))
theorem movedLen {Z s : State} {a0 args : Array Value} (hZ : Z.Warmed39 s.vm) (hw : ∀ d ∈ wordsLen, d.before a0 Z = true) : ∀ d ∈ wordsLen, d.before args s = true := fun d hd => by
  have q := hw d hd
  have t : ∀ d ∈ wordsLen, d = .arrayClass .byte ∨ (d.onTables && d.keepsFace) = true := by decide +kernel
  rcases t d hd with rfl | t
  · exact RoadKit.mvA hZ q
  · exact RoadKit.mv hZ q t
/-- the bytes of the chars cs, low before high -/
def wideBytes : List Int32 → List Value
  | [] => []
  | c :: cs => .int (lo8 c) :: .int (hi8 c) :: wideBytes cs
theorem wide_lo (d : Value) : ∀ (cs : List Int32) (j : Nat), j < cs.length → (wideBytes cs).getD (2 * j) d = .int (lo8 (cs.getD j 0))
  | [], j, h => absurd h (Nat.not_lt_zero j)
  | c :: cs, 0, _ => rfl
  | c :: cs, j + 1, h => by
    have q := wide_lo d cs j (by simpa using h)
    rw [show 2 * (j + 1) = 2 * j + 1 + 1 from by omega]
    simpa [wideBytes] using q
theorem wide_hi (d : Value) : ∀ (cs : List Int32) (j : Nat), j < cs.length → (wideBytes cs).getD (2 * j + 1) d = .int (hi8 (cs.getD j 0))
  | [], j, h => absurd h (Nat.not_lt_zero j)
  | c :: cs, 0, _ => rfl
  | c :: cs, j + 1, h => by
    have q := wide_hi d cs j (by simpa using h)
    rw [show 2 * (j + 1) + 1 = 2 * j + 1 + 1 + 1 from by omega]
    simpa [wideBytes] using q
theorem low_at (d : Value) (cs : List Int32) (j : Nat) (h : j < cs.length) : (cs.map fun c => Value.int (lo8 c)).getD j d = .int (lo8 (cs.getD j 0)) := by
  simp [List.getD_eq_getElem?_getD, h]
/-- an array of N2 bytes vs codes the chars cs by the coder cd -/
def CodA (cs : List Int32) (cd N2 : Int32) (vs : List Value) : Prop := (cd = 0 ∧ N2 = Int32.ofNat cs.length ∧ vs = (cs.map fun c => Value.int (lo8 c)) ∧ ∀ c ∈ cs, ¬ 255 < c) ∨ (cd = 1 ∧ N2 = Int32.ofNat (2 * cs.length) ∧ vs = wideBytes cs ∧ ∃ c ∈ cs, 255 < c)
theorem CodA.cod {cs : List Int32} {cd N2 : Int32} {vs : List Value} {V : Cell} (h : CodA cs cd N2 vs) (hn : 2 * cs.length < 2 ^ 31) (hs : V.slots.size = N2.toNatClampNeg) (hv : RoadKit.Has V vs (.int 0)) : Cod cd cs.length (fun j => cs.getD j 0) V := by
  rcases h with ⟨rfl, rfl, rfl, h⟩ | ⟨rfl, rfl, rfl, c, hc, hw⟩
  · rw [n32 (by omega)] at hs
    exact Or.inl ⟨rfl, hs, fun j hj => ⟨by rw [hv j (by omega), low_at _ _ _ hj], by
      have e : cs.getD j 0 = cs[j] := by simp [List.getD_eq_getElem?_getD, hj]
      show ¬ 255 < cs.getD j 0
      rw [e]; exact h _ (List.getElem_mem _)⟩⟩
  · rw [n32 (by omega)] at hs
    obtain ⟨j, hj, rfl⟩ := List.getElem_of_mem hc
    exact Or.inr ⟨rfl, hs, fun j hj => ⟨by rw [hv _ (by omega), wide_lo _ _ _ hj], by rw [hv _ (by omega), wide_hi _ _ _ hj]⟩, j, hj, by
      have e : cs.getD j 0 = cs[j] := by simp [List.getD_eq_getElem?_getD, hj]
      show 255 < cs.getD j 0
      rw [e]; exact hw⟩
/-- an object of exactly java/lang/String, its two fields found: as the laws ask it -/
theorem strObj {Z U : State} {a0 : Array Value} {kI : Nat} (wi : (Jvm.Cond.instantiable ST kI).before a0 Z = true) (al : Z.vm.Alike U.vm) {x : Addr} {v0 c0 : Value} (E : RoadKit.Exa Z U.heap x ST) (V : RoadKit.Fld Z U.heap x ST "value" "[B" v0) (C : RoadKit.Fld Z U.heap x ST "coder" "B" c0) :
    ∃ (D : Cell) (fV fC : Field), Blank ST x D U ∧ Found ST "value" "[B" fV U ∧ Found ST "coder" "B" fC U ∧ D.slots[fV.slot]? = some v0 ∧ D.slots[fC.slot]? = some c0 ∧ RoadKit.slotOf Z ST "value" "[B" = fV.slot ∧ RoadKit.slotOf Z ST "coder" "B" = fC.slot := by
  obtain ⟨D, cfV, kV, iV, fV, hD, gV, stV, knV, obV, asV, slV⟩ := V
  obtain ⟨D', cfC, kC, iC, fC, hD', gC, stC, -, -, asC, slC⟩ := C
  cases hD.symm.trans hD'
  obtain ⟨D2, kD, e1, e2, e3, e4, e5⟩ := E
  cases hD.symm.trans e1
  obtain ⟨c2, k2, i1, i2, i3, -⟩ := Cond.instantiable_spec wi
  cases e2.symm.trans i1
  cases e3.symm.trans i2
  obtain ⟨kU, u1, u2⟩ := al.2.2 _ _ e3
  exact ⟨D, fV, fC, ⟨hD, ⟨knV, fun q hq => by rw [hq] at obV; cases obV⟩, by rw [al.findClass]; exact e2, kU, u1, by rw [u2]; exact i3, by rw [u2]; exact e5 i3⟩, ⟨SBG.found_only al ⟨cfV, kV, iV, gV⟩, stV⟩, ⟨SBG.found_only al ⟨cfC, kC, iC, gC⟩, stC⟩, slV, slC, by simp [RoadKit.slotOf, gV], by simp [RoadKit.slotOf, gC]⟩
theorem sta_is {Z U : State} (al : Z.vm.Alike U.vm) {C n d : String} {v : Value} (S : RoadKit.Sta Z U.heap C n d v) : StaticIs U C n d v := by
  obtain ⟨cfS, iS, kS, fS, st, cS, t1, t2, t3, t4, t5, t6, t7⟩ := S
  exact StaticIs.there (s := { Z with heap := U.heap }) ⟨cfS, iS, kS, fS, st, cS, t1, t2, t3, t4, t5, (fun q => by rw [q] at t6; cases t6), t7⟩ al rfl
/-- **length() OF SUCH A STRING** -/
theorem lenW {p : Program} {l : Launch} {e : Env} {R : Room} {s : State} {args : Array Value} {below : List Frame} {len W : Nat} {Z : State} {a0 : Array Value} {h : Heap} (hZ : Z.Warmed39 s.vm) (hw : ∀ d ∈ wordsLen, d.before a0 Z = true) {kI : Nat} (wi : (Jvm.Cond.instantiable ST kI).before a0 Z = true)
    {x t : Addr} {kb : ClassId} {cs : List Int32} {cd N2 z : Int32} {vs : List Value} (E : RoadKit.Exa Z h x ST) (V : RoadKit.Fld Z h x ST "value" "[B" (.ref t)) (C : RoadKit.Fld Z h x ST "coder" "B" (.int cd)) (K : RoadKit.Arv Z h t kb .byte N2 vs (.int 0)) (hc : CodA cs cd N2 vs) (hb : ∀ c ∈ cs, ¬ c < 0 ∧ ¬ (65535 : Int32) < c)
    (S : RoadKit.Sta Z h ST "COMPACT_STRINGS" "Z" (.int z)) (hz : ¬ z = 0) (l2 : cs.length ≤ 4000) (hfr : 2 ≤ R.frames) (hlo : W + 25 ≤ R.locals) :
    Back l R p e below s args (⟨"java/lang/String", "length", "()I"⟩ : MethodName) len W (fun P a => a = #[.ref x] ∧ P.U.heap = h ∧ P.cells + 0 ≤ R.cells ∧ P.slots + 0 ≤ R.slots)
      (fun P _ v B => ∃ L, (v = some (.int (Int32.ofNat cs.length)) ∧ L = [] ∧ B.U.heap = h) ∧ B.locs = P.locs ++ L ∧ B.cells = P.cells + 0 ∧ B.slots = P.slots + 0) := by
  obtain ⟨A, K1, K2, K3, K4, K5, K6⟩ := K
  have hcod := hc.cod (by omega) K3 K5
  intro m meth c P g ig mk a X hg hsize hdg hW hn hp'
  obtain ⟨rfl, rfl, r1, r2⟩ := hp'
  have al : Z.vm.Alike P.U.vm := hZ.alike.trans X.warmed.alike
  obtain ⟨D, fV, fC, hB, F1, F2, g1, g2, -, -⟩ := strObj wi al E V C
  have hx : Txt x t A cd cs.length (fun j => cs.getD j 0) P.U := ⟨⟨_, hB.2.2.1, D, hB.1, rfl, by cases q : D.vm <;> first | rfl | exact absurd q (hB.2.1.2 _)⟩, Has.of hB F1 g1, Has.of hB F2 g2, ⟨K1.1, State.isArrayOf_alike al K1.2.1, K1.2.2, by rcases hcod with ⟨-, q, -⟩ | ⟨-, q, -⟩ <;> omega⟩, hcod, fun j hj => by
    have e : cs.getD j 0 = cs[j] := by simp [List.getD_eq_getElem?_getD, hj]
    show ¬ cs.getD j 0 < 0 ∧ ¬ 65535 < cs.getD j 0
    rw [e]; exact hb _ (List.getElem_mem _)⟩
  obtain ⟨v, B, X', ⟨⟨hv, hh⟩, hl, hk, hs⟩, st⟩ := Len.pays x t A cd cs.length (fun j => cs.getD j 0) z (tabLen_of (movedLen hZ hw)) hfr hlo m meth c P g ig mk _ X hg hsize hdg hW hn ⟨r1, r2, rfl, hx, sta_is al S, hz⟩
  exact ⟨v, B, X', ⟨[], ⟨hv, rfl, hh⟩, hl, hk, hs⟩, st⟩
end StrChars.Road
namespace StrChars.Road
open Jvm Sem ClassFile Op Lib Jvm.Stand Jvm.Free Jvm.Free.XT
open Jvm.Lib.Cold (StaticIs)
/-- the road's facts of a String, as the laws ask it -/
theorem txt_of {Z U : State} {a0 : Array Value} {kI : Nat} (wi : (Jvm.Cond.instantiable ST kI).before a0 Z = true) (al : Z.vm.Alike U.vm) {x t : Addr} {kb : ClassId} {cs : List Int32} {cd N2 : Int32} {vs : List Value} (E : RoadKit.Exa Z U.heap x ST) (V : RoadKit.Fld Z U.heap x ST "value" "[B" (.ref t)) (C : RoadKit.Fld Z U.heap x ST "coder" "B" (.int cd)) (K : RoadKit.Arv Z U.heap t kb .byte N2 vs (.int 0)) (hc : CodA cs cd N2 vs) (hb : ∀ c ∈ cs, ¬ c < 0 ∧ ¬ (65535 : Int32) < c) (l2 : cs.length ≤ 4000) :
    ∃ A, Txt x t A cd cs.length (fun j => cs.getD j 0) U := by
  obtain ⟨A, K1, K2, K3, K4, K5, K6⟩ := K
  have hcod := hc.cod (by omega) K3 K5
  obtain ⟨D, fV, fC, hB, F1, F2, g1, g2, -, -⟩ := strObj wi al E V C
  exact ⟨A, ⟨_, hB.2.2.1, D, hB.1, rfl, by cases q : D.vm <;> first | rfl | exact absurd q (hB.2.1.2 _)⟩, Has.of hB F1 g1, Has.of hB F2 g2, ⟨K1.1, State.isArrayOf_alike al K1.2.1, K1.2.2, by rcases hcod with ⟨-, q, -⟩ | ⟨-, q, -⟩ <;> omega⟩, hcod, fun j hj => by
    have e : cs.getD j 0 = cs[j] := by simp [List.getD_eq_getElem?_getD, hj]
    show ¬ cs.getD j 0 < 0 ∧ ¬ 65535 < cs.getD j 0
    rw [e]; exact hb _ (List.getElem_mem _)⟩
end StrChars.Road
namespace StrChars
open Jvm Sem ClassFile Op Lib Jvm.Stand Jvm.Free.XT Jvm.Free.ALB Jvm.Free.JM Jvm.Free
open Jvm.Lib.Cold (StaticIs)
namespace ChN
def yN : MethodName := ⟨"java/lang/String", "charAt", "(I)C"⟩
abbrev yB : ByteArray := jdk_42_method_56_code
theorem d0 : decode yB 0 = .ok (.aload_n 0, 1) := by decide +kernel
theorem d1 : decode yB 1 = .ok (.invokevirtual 492, 3) := by decide +kernel
theorem d4 : decode yB 4 = .ok (.ifCond (.eq) 12, 3) := by decide +kernel
theorem d7 : decode yB 7 = .ok (.aload_n 0, 1) := by decide +kernel
theorem d8 : decode yB 8 = .ok (.getfield 9, 3) := by decide +kernel
theorem d11 : decode yB 11 = .ok (.iload_n 1, 1) := by decide +kernel
theorem d12 : decode yB 12 = .ok (.invokestatic 495, 3) := by decide +kernel
theorem d15 : decode yB 15 = .ok (.ireturn, 1) := by decide +kernel
def site : List Cond := [.fieldLink "java/lang/String" 9 "java/lang/String" "value" "[B", IsL.tab, LChA.tab] ++ virtW "java/lang/String" 492 "java/lang/String" IsL.yN IsL.yN ++ staticW "java/lang/String" 495 LChA.yN
def tab : Cond := tabOf yN yB 2 (some .char) site
def P (x t : Addr) (V : Cell) (n : Nat) (f : Nat → Int32) (z : Int32) (fm : Value) (i : Nat) (args : Array Value) (s : State) : Prop := args = #[.ref x, .int (Int32.ofNat i)] ∧ Txt x t V 0 n f s ∧ i < n ∧ StaticIs s "java/lang/String" "COMPACT_STRINGS" "Z" (.int z) ∧ ¬ z = 0 ∧ StaticIs s "jdk/internal/util/Preconditions" "SIOOBE_FORMATTER" "Ljava/util/function/BiFunction;" fm ∧ fm.isRef = true
def E (f : Nat → Int32) (i : Nat) (r : Option Value) (s u : State) : Prop := XT.PureE (some (.int (f i))) r s u
/-- charAt(i) of a Latin-1 String of n chars, i < n: f i -/
theorem law (l : Launch) (x t : Addr) (V : Cell) (n : Nat) (f : Nat → Int32) (z : Int32) (fm : Value) (i : Nat) : Law l yN 2 1 3 40 yB 2 (some .char) site (P x t V n f z fm i) (E f i) [] 0 0 := by
  refine Law.of_walk (plainFor_of_name (by decide +kernel)) (by decide +kernel) (by decide +kernel) (by decide) (fun _ _ h => by rw [h.1]; rfl) (fun _ U U' hal hh h => ⟨h.1, h.2.1.mv hal hh, h.2.2.1, h.2.2.2.1.there hal hh, h.2.2.2.2.1, h.2.2.2.2.2.1.there hal hh, h.2.2.2.2.2.2⟩) (fun r U U' V V' h1 hal h2 h => XT.PureE.mv r U U' V V' h1 hal h2 h) ?_
  intro p e s m args below meth c s₁ X0 hexec hbytes hml hret hlk hnm hown hh0 W hP
  obtain ⟨rfl, hx, hi, s1, hz, s3, rf⟩ := hP
  have v31 := hx.2.2.2.1.2.2.2
  have hr := hx.2.2.2.2.2 i hi
  have hx0 := hx.mv X0.warmed.alike hh0
  have c1 : Steps p.tables e below (s₁.setTop (entryFrame m #[.ref x, .int (Int32.ofNat i)] 2)) (s₁.setTop (mkF m 1 #[.val (.ref x), .val (.int (Int32.ofNat i))] [.ref x])) := Steps.trans (entry rfl) (by
    show Steps p.tables e below (s₁.setTop (mkF m 0 #[.val (.ref x), .val (.int (Int32.ofNat i))] [])) _
    refine XS.aloadN X0.here hexec rfl (hb hbytes d0) rfl rfl ?_
    exact Steps.refl _)
  obtain ⟨v2, T2, X2, E2, g2⟩ := X0.callV hexec (IsL.law l x 0 z) hown (wks W (virtW "java/lang/String" 492 "java/lang/String" IsL.yN IsL.yN)) rfl (by decide) (wk W IsL.tab) (W := 0) (Nat.le_of_ble_eq_true rfl) (Nat.le_of_ble_eq_true rfl) (Nat.le_refl _) (Nat.le_refl _) (hx0.1.fc X0.warmed.alike) hx0.1.is (g := (mkF m 1 #[.val (.ref x), .val (.int (Int32.ofNat i))] [.ref x])) rfl (by rw [hml]; rfl) c1 (argsL := []) (rest := []) rfl rfl (by show 2 * 0 + 0 ≤ _; decide) (hb hbytes d1) (⟨rfl, hx0.2.2.1, hx.2.2.2.2.1.cd, s1.there X0.warmed.alike hh0, hz⟩)
  obtain ⟨rfl, q2⟩ := E2
  have hh2 := q2.trans hh0
  have hx2 := hx.mv X2.warmed.alike hh2
  obtain ⟨-, k1, k2⟩ | ⟨k0, -⟩ := hx.2.2.2.2.1
  · have c3 : Steps p.tables e below (s₁.setTop (entryFrame m #[.ref x, .int (Int32.ofNat i)] 2)) (T2.setTop (mkF m 8 #[.val (.ref x), .val (.int (Int32.ofNat i))] [.ref x])) := Steps.trans g2 (by
      refine XS.ifNo X2.here hexec rfl (hb hbytes d4) rfl (i0_eq_f (by decide)) ?_
      refine XS.aloadN X2.here hexec rfl (hb hbytes d7) rfl rfl ?_
      exact Steps.refl _)
    obtain ⟨T4, X4, q4, st4⟩ := X2.hget hexec hown (wk W (.fieldLink "java/lang/String" 9 "java/lang/String" "value" "[B")) hx2.2.1 (g := (mkF m 8 #[.val (.ref x), .val (.int (Int32.ofNat i))] [.ref x])) rfl (rest := []) rfl (hb hbytes d8)
    have hh4 := q4.trans hh2
    have c5 : Steps p.tables e below (s₁.setTop (entryFrame m #[.ref x, .int (Int32.ofNat i)] 2)) (T4.setTop (mkF m 12 #[.val (.ref x), .val (.int (Int32.ofNat i))] [.int (Int32.ofNat i), .ref t])) := (c3.trans (st4 _ (Steps.refl _))).trans (by
      refine XS.iloadN X4.here hexec rfl (hb hbytes d11) rfl ?_
      exact Steps.refl _)
    obtain ⟨v6, T6, X6, E6, g6⟩ := X4.callS hexec (LChA.law l t V i (lo8 (f i)) fm) hown (wks W (staticW "java/lang/String" 495 LChA.yN)) (wk W LChA.tab) (W := 0) (Nat.le_of_ble_eq_true rfl) (Nat.le_of_ble_eq_true rfl) (Nat.le_refl _) (Nat.le_refl _) (g := (mkF m 12 #[.val (.ref x), .val (.int (Int32.ofNat i))] [.int (Int32.ofNat i), .ref t])) rfl (by rw [hml]; rfl) c5 (argsL := [.ref t, .int (Int32.ofNat i)]) (rest := []) rfl rfl (by show 2 * 0 + 0 ≤ _; decide) (hb hbytes d12) (⟨rfl, hx.2.2.2.1.mv X4.warmed.alike hh4, (k2 i hi).1, s3.there X4.warmed.alike hh4, rf⟩)
    obtain ⟨rfl, q6⟩ := E6
    rw [chr8_lo8 hr.1 (k2 i hi).2] at g6
    exact ⟨T6, some (.int (f i)), _, _, _, X6, rfl, rfl, rfl, (fun h => by cases h), ⟨rfl, q6.trans hh4⟩, fun fs hl => Steps.trans g6 (X6.ireturnOut hexec hret (narrow_ch hr.1 hr.2) (Or.inr (Or.inr (Or.inr (Or.inl rfl)))) (hb hbytes d15) hl)⟩
  · exact absurd k0 (by decide)
theorem pays {l : Launch} {R : Room} {p : Program} {e : Env} {below : List Frame} {s : State} {sargs : Array Value} {len W : Nat} (x t : Addr) (V : Cell) (n : Nat) (f : Nat → Int32) (z : Int32) (fm : Value) (i : Nat) (htab : tab.before sargs s = true) (hfr : 4 ≤ R.frames) (hlo : W + 53 ≤ R.locals) :
    Back l R p e below s sargs yN len W (fun A₁ a₁ => A₁.cells + 0 ≤ R.cells ∧ A₁.slots + 0 ≤ R.slots ∧ P x t V n f z fm i a₁ A₁.U) (fun A₁ _ v₁ B₁ => E f i v₁ A₁.U B₁.U ∧ B₁.locs = A₁.locs ++ [] ∧ B₁.cells = A₁.cells + 0 ∧ B₁.slots = A₁.slots + 0) :=
  (law l x t V n f z fm i).pays htab hfr (by omega)
end ChN
end StrChars
namespace StrChars.Road
open Jvm Sem ClassFile Op Lib Jvm.Stand Jvm.Free Jvm.Free.XT
open Jvm.Lib.Cold (StaticIs)
/-- the words of String.charAt(int), the Latin-1 road alone -/
abbrev wordsChN : List Jvm.Cond := [.code ChN.yN ChN.yB 2 (some .char), .initialized ST, .fieldLink ST 9 ST "value" "[B", .fieldLink ST 38 ST "COMPACT_STRINGS" "Z", .fieldLink ST 15 ST "coder" "B", .code IsL.yN IsL.yB 1 (some .boolean), .methodLink ST 492 IsL.yN, .declares IsL.yN, .selects ST IsL.yN IsL.yN, .instanceMethod IsL.yN,
  .methodLink ST 495 LChA.yN, .static LChA.yN, .code LChA.yN LChA.yB 2 (some .char), .initialized "java/lang/StringLatin1", .methodLink "java/lang/StringLatin1" 9 JO.Str_checkIndex.yN, .static JO.Str_checkIndex.yN, .code JO.Str_checkIndex.yN JO.Str_checkIndex.yB 2 none,
  .fieldLink ST 1053 "jdk/internal/util/Preconditions" "SIOOBE_FORMATTER" "Ljava/util/function/BiFunction;", .methodLink ST 1059 JC.PreCheck.yN, .static JC.PreCheck.yN, .code JC.PreCheck.yN JC.PreCheck.yB 3 (some .int), .initialized "jdk/internal/util/Preconditions"]
theorem tabChN_of {a : Array Value} {s : State} (h : ∀ w ∈ wordsChN, w.before a s = true) : ChN.tab.before a s = true := by
  have hp : JC.PreCheck.tab.before a s = true := unparts (wk h (.code JC.PreCheck.yN JC.PreCheck.yB 3 (some .int))) (wks h (.initialized JC.PreCheck.yN.cls :: JC.PreCheck.site))
  have qk := consq hp h
  have hk : JO.Str_checkIndex.tab.before a s = true := unparts (wk qk (.code JO.Str_checkIndex.yN JO.Str_checkIndex.yB 2 none)) (wks qk (.initialized JO.Str_checkIndex.yN.cls :: JO.Str_checkIndex.site))
  have ql := consq hk h
  have hl : LChA.tab.before a s = true := unparts (wk ql (.code LChA.yN LChA.yB 2 (some .char))) (wks ql (.initialized LChA.yN.cls :: LChA.site))
  have hi : IsL.tab.before a s = true := unparts (wk h (.code IsL.yN IsL.yB 1 (some .boolean))) (wks h (.initialized IsL.yN.cls :: IsL.site))
  have q := consq hi (consq hl h)
  exact unparts (wk q (.code ChN.yN ChN.yB 2 (some .char))) (wks q (.initialized ChN.yN.cls :: ChN.site))
theorem movedChN {Z s : State} {a0 args : Array Value} (hZ : Z.Warmed39 s.vm) (hw : ∀ d ∈ wordsChN, d.before a0 Z = true) : ∀ d ∈ wordsChN, d.before args s = true := fun d hd => by
  have t : ∀ d ∈ wordsChN, (d.onTables && d.keepsFace) = true := by decide +kernel
  exact RoadKit.mv hZ (hw d hd) (t d hd)
/-- **charAt(i) OF A LATIN-1 STRING**, i < n: the char -/
theorem chN {p : Program} {l : Launch} {e : Env} {R : Room} {s : State} {args : Array Value} {below : List Frame} {len W : Nat} {Z : State} {a0 : Array Value} {h : Heap} (hZ : Z.Warmed39 s.vm) (hw : ∀ d ∈ wordsChN, d.before a0 Z = true) {kI : Nat} (wi : (Jvm.Cond.instantiable ST kI).before a0 Z = true)
    {x t : Addr} {kb : ClassId} {cs : List Int32} {N2 z : Int32} {vs : List Value} {fm : Value} {i : Nat} {j : Int32} (E : RoadKit.Exa Z h x ST) (V : RoadKit.Fld Z h x ST "value" "[B" (.ref t)) (C : RoadKit.Fld Z h x ST "coder" "B" (.int 0)) (K : RoadKit.Arv Z h t kb .byte N2 vs (.int 0)) (hc : CodA cs 0 N2 vs) (hb : ∀ c ∈ cs, ¬ c < 0 ∧ ¬ (65535 : Int32) < c)
    (S : RoadKit.Sta Z h ST "COMPACT_STRINGS" "Z" (.int z)) (hz : ¬ z = 0) (F : RoadKit.Sta Z h "jdk/internal/util/Preconditions" "SIOOBE_FORMATTER" "Ljava/util/function/BiFunction;" fm) (rf : fm.isRef = true) (l2 : cs.length ≤ 4000) (hi : i < cs.length) (hj : j = Int32.ofNat i) (hfr : 4 ≤ R.frames) (hlo : W + 53 ≤ R.locals) :
    Back l R p e below s args (⟨"java/lang/String", "charAt", "(I)C"⟩ : MethodName) len W (fun P a => a = #[.ref x, .int j] ∧ P.U.heap = h ∧ P.cells + 0 ≤ R.cells ∧ P.slots + 0 ≤ R.slots)
      (fun P _ v B => ∃ L, (v = some (.int (cs.getD i 0)) ∧ L = [] ∧ B.U.heap = h) ∧ B.locs = P.locs ++ L ∧ B.cells = P.cells + 0 ∧ B.slots = P.slots + 0) := by
  subst hj
  intro m meth c P g ig mk a X hg hsize hdg hW hn hp'
  obtain ⟨rfl, rfl, r1, r2⟩ := hp'
  have al : Z.vm.Alike P.U.vm := hZ.alike.trans X.warmed.alike
  obtain ⟨A, hx⟩ := txt_of wi al E V C K hc hb l2
  obtain ⟨v, B, X', ⟨⟨hv, hh⟩, hl, hk, hs⟩, st⟩ := ChN.pays x t A cs.length (fun j => cs.getD j 0) z fm i (tabChN_of (movedChN hZ hw)) hfr hlo m meth c P g ig mk _ X hg hsize hdg hW hn ⟨r1, r2, rfl, hx, hi, sta_is al S, hz, sta_is al F, rf⟩
  exact ⟨v, B, X', ⟨[], ⟨hv, rfl, hh⟩, hl, hk, hs⟩, st⟩
/-- what backV says of its String, as the contracts of this text ask it: cs's low bytes, coder 0 -/
theorem codOf {cs : List Int32} {n : Nat} (hn : cs.length = n) (hb : ∀ c ∈ cs, ¬ 255 < c) : CodA cs 0 (Int32.ofNat n) ((cs.map lo8).map Value.int) := Or.inl ⟨rfl, by rw [hn], by simp [List.map_map, Function.comp_def], hb⟩
end StrChars.Road
end Jvm.Pilot.@@N@@
namespace Jvm.Pilot.@@N@@
open Jvm Jvm.ClassFile Sem Op Lib Jvm.Free Jvm.Stand Jvm.LawKit Jvm.RoadKit Jvm.OwnKit Bundle Jvm.Pilot.@@N@@.Jvm.D
def EL1 : List (String × Nat) := [("java/lang/String", 7)]
abbrev HW (a0 : Array Value) (Z : State) : Prop := ∀ d ∈ tables_1, d.before a0 Z = true
theorem w0 {a0 : Array Value} {Z : State} (hw : HW a0 Z) : (Jvm.Cond.constant "com/example/remora/remora/MethodsIsMethodNamePinLaw" (16 : Nat) (2147483647 : Int32) : Jvm.Cond).before a0 Z = true := hw _ (List.mem_of_getElem? (i := 0) rfl)
theorem w1 {a0 : Array Value} {Z : State} (hw : HW a0 Z) : (Jvm.Cond.constantLong "com/example/remora/remora/MethodsIsMethodNamePinLaw" (17 : Nat) (255 : Int64) : Jvm.Cond).before a0 Z = true := hw _ (List.mem_of_getElem? (i := 1) rfl)
theorem w2 {a0 : Array Value} {Z : State} (hw : HW a0 Z) : (Jvm.Cond.arrayClass Jvm.ClassFile.FieldType.char : Jvm.Cond).before a0 Z = true := hw _ (List.mem_of_getElem? (i := 2) rfl)
theorem w3 {a0 : Array Value} {Z : State} (hw : HW a0 Z) : (Jvm.Cond.classLink "com/example/remora/remora/MethodsIsMethodNamePinLaw" (19 : Nat) "java/lang/String" : Jvm.Cond).before a0 Z = true := hw _ (List.mem_of_getElem? (i := 3) rfl)
theorem w4 {a0 : Array Value} {Z : State} (hw : HW a0 Z) : (Jvm.Cond.instantiable "java/lang/String" (4 : Nat) : Jvm.Cond).before a0 Z = true := hw _ (List.mem_of_getElem? (i := 4) rfl)
theorem w5 {a0 : Array Value} {Z : State} (hw : HW a0 Z) : (Jvm.Cond.initialized "java/lang/String" : Jvm.Cond).before a0 Z = true := hw _ (List.mem_of_getElem? (i := 5) rfl)
theorem w6 {a0 : Array Value} {Z : State} (hw : HW a0 Z) : (Jvm.Cond.methodLink "com/example/remora/remora/MethodsIsMethodNamePinLaw" (21 : Nat) ({ cls := "java/lang/String", name := "<init>", desc := "([C)V" } : Jvm.MethodName) : Jvm.Cond).before a0 Z = true := hw _ (List.mem_of_getElem? (i := 6) rfl)
theorem w7 {a0 : Array Value} {Z : State} (hw : HW a0 Z) : (Jvm.Cond.instanceMethod ({ cls := "java/lang/String", name := "<init>", desc := "([C)V" } : Jvm.MethodName) : Jvm.Cond).before a0 Z = true := hw _ (List.mem_of_getElem? (i := 7) rfl)
theorem w8 {a0 : Array Value} {Z : State} (hw : HW a0 Z) : (Jvm.Cond.code ({ cls := "java/lang/String", name := "<init>", desc := "([C)V" } : Jvm.MethodName) jdk_42_method_3_code (2 : Nat) (Option.none : Option Jvm.ClassFile.FieldType) : Jvm.Cond).before a0 Z = true := hw _ (List.mem_of_getElem? (i := 8) rfl)
theorem w9 {a0 : Array Value} {Z : State} (hw : HW a0 Z) : (Jvm.Cond.methodLink "java/lang/String" (27 : Nat) ({ cls := "java/lang/String", name := "<init>", desc := "([CIILjava/lang/Void;)V" } : Jvm.MethodName) : Jvm.Cond).before a0 Z = true := hw _ (List.mem_of_getElem? (i := 9) rfl)
theorem w10 {a0 : Array Value} {Z : State} (hw : HW a0 Z) : (Jvm.Cond.instanceMethod ({ cls := "java/lang/String", name := "<init>", desc := "([CIILjava/lang/Void;)V" } : Jvm.MethodName) : Jvm.Cond).before a0 Z = true := hw _ (List.mem_of_getElem? (i := 10) rfl)
theorem w12 {a0 : Array Value} {Z : State} (hw : HW a0 Z) : (Jvm.Cond.code ({ cls := "java/lang/String", name := "<init>", desc := "([CIILjava/lang/Void;)V" } : Jvm.MethodName) jdk_42_method_149_code (6 : Nat) (Option.none : Option Jvm.ClassFile.FieldType) : Jvm.Cond).before a0 Z = true := hw _ (List.mem_of_getElem? (i := 12) rfl)
theorem w13 {a0 : Array Value} {Z : State} (hw : HW a0 Z) : (Jvm.Cond.methodLink "java/lang/String" (1 : Nat) ({ cls := "java/lang/Object", name := "<init>", desc := "()V" } : Jvm.MethodName) : Jvm.Cond).before a0 Z = true := hw _ (List.mem_of_getElem? (i := 13) rfl)
theorem w14 {a0 : Array Value} {Z : State} (hw : HW a0 Z) : (Jvm.Cond.instanceMethod ({ cls := "java/lang/Object", name := "<init>", desc := "()V" } : Jvm.MethodName) : Jvm.Cond).before a0 Z = true := hw _ (List.mem_of_getElem? (i := 14) rfl)
theorem w15 {a0 : Array Value} {Z : State} (hw : HW a0 Z) : (Jvm.Cond.code ({ cls := "java/lang/Object", name := "<init>", desc := "()V" } : Jvm.MethodName) object_method_1_code (1 : Nat) (Option.none : Option Jvm.ClassFile.FieldType) : Jvm.Cond).before a0 Z = true := hw _ (List.mem_of_getElem? (i := 15) rfl)
theorem w17 {a0 : Array Value} {Z : State} (hw : HW a0 Z) : (Jvm.Cond.arrayClass Jvm.ClassFile.FieldType.byte : Jvm.Cond).before a0 Z = true := hw _ (List.mem_of_getElem? (i := 17) rfl)
theorem w18 {a0 : Array Value} {Z : State} (hw : HW a0 Z) : (Jvm.Cond.laysFinal "java/lang/String" "java/lang/String" "value" "[B" : Jvm.Cond).before a0 Z = true := hw _ (List.mem_of_getElem? (i := 18) rfl)
theorem w19 {a0 : Array Value} {Z : State} (hw : HW a0 Z) : (Jvm.Cond.laysFinal "java/lang/String" "java/lang/String" "coder" "B" : Jvm.Cond).before a0 Z = true := hw _ (List.mem_of_getElem? (i := 19) rfl)
theorem w22 {a0 : Array Value} {Z : State} (hw : HW a0 Z) : (Jvm.Cond.fieldLink "java/lang/String" (9 : Nat) "java/lang/String" "value" "[B" : Jvm.Cond).before a0 Z = true := hw _ (List.mem_of_getElem? (i := 22) rfl)
theorem w23 {a0 : Array Value} {Z : State} (hw : HW a0 Z) : (Jvm.Cond.fieldLink "java/lang/String" (15 : Nat) "java/lang/String" "coder" "B" : Jvm.Cond).before a0 Z = true := hw _ (List.mem_of_getElem? (i := 23) rfl)
theorem w24 {a0 : Array Value} {Z : State} (hw : HW a0 Z) : (Jvm.Cond.methodLink "com/example/remora/remora/MethodsIsMethodNamePinLaw" (24 : Nat) ({ cls := "com/example/remora/remora/Methods", name := "isMethodName", desc := "(Ljava/lang/String;)Z" } : Jvm.MethodName) : Jvm.Cond).before a0 Z = true := hw _ (List.mem_of_getElem? (i := 24) rfl)
theorem w25 {a0 : Array Value} {Z : State} (hw : HW a0 Z) : (Jvm.Cond.static ({ cls := "com/example/remora/remora/Methods", name := "isMethodName", desc := "(Ljava/lang/String;)Z" } : Jvm.MethodName) : Jvm.Cond).before a0 Z = true := hw _ (List.mem_of_getElem? (i := 25) rfl)
theorem w26 {a0 : Array Value} {Z : State} (hw : HW a0 Z) : (Jvm.Cond.initialized "com/example/remora/remora/Methods" : Jvm.Cond).before a0 Z = true := hw _ (List.mem_of_getElem? (i := 26) rfl)
theorem w27 {a0 : Array Value} {Z : State} (hw : HW a0 Z) : (Jvm.Cond.code ({ cls := "com/example/remora/remora/Methods", name := "isMethodName", desc := "(Ljava/lang/String;)Z" } : Jvm.MethodName) prog_5_method_3_code (4 : Nat) (Option.some Jvm.ClassFile.FieldType.boolean) : Jvm.Cond).before a0 Z = true := hw _ (List.mem_of_getElem? (i := 27) rfl)
theorem w28 {a0 : Array Value} {Z : State} (hw : HW a0 Z) : (Jvm.Cond.methodLink "com/example/remora/remora/Methods" (19 : Nat) ({ cls := "java/lang/String", name := "length", desc := "()I" } : Jvm.MethodName) : Jvm.Cond).before a0 Z = true := hw _ (List.mem_of_getElem? (i := 28) rfl)
theorem w29 {a0 : Array Value} {Z : State} (hw : HW a0 Z) : (Jvm.Cond.declares ({ cls := "java/lang/String", name := "length", desc := "()I" } : Jvm.MethodName) : Jvm.Cond).before a0 Z = true := hw _ (List.mem_of_getElem? (i := 29) rfl)
theorem w30 {a0 : Array Value} {Z : State} (hw : HW a0 Z) : (Jvm.Cond.instanceMethod ({ cls := "java/lang/String", name := "length", desc := "()I" } : Jvm.MethodName) : Jvm.Cond).before a0 Z = true := hw _ (List.mem_of_getElem? (i := 30) rfl)
theorem w31 {a0 : Array Value} {Z : State} (hw : HW a0 Z) : (Jvm.Cond.selects "java/lang/String" ({ cls := "java/lang/String", name := "length", desc := "()I" } : Jvm.MethodName) ({ cls := "java/lang/String", name := "length", desc := "()I" } : Jvm.MethodName) : Jvm.Cond).before a0 Z = true := hw _ (List.mem_of_getElem? (i := 31) rfl)
theorem w49 {a0 : Array Value} {Z : State} (hw : HW a0 Z) : (Jvm.Cond.methodLink "com/example/remora/remora/Methods" (23 : Nat) ({ cls := "java/lang/String", name := "charAt", desc := "(I)C" } : Jvm.MethodName) : Jvm.Cond).before a0 Z = true := hw _ (List.mem_of_getElem? (i := 49) rfl)
theorem w50 {a0 : Array Value} {Z : State} (hw : HW a0 Z) : (Jvm.Cond.declares ({ cls := "java/lang/String", name := "charAt", desc := "(I)C" } : Jvm.MethodName) : Jvm.Cond).before a0 Z = true := hw _ (List.mem_of_getElem? (i := 50) rfl)
theorem w51 {a0 : Array Value} {Z : State} (hw : HW a0 Z) : (Jvm.Cond.instanceMethod ({ cls := "java/lang/String", name := "charAt", desc := "(I)C" } : Jvm.MethodName) : Jvm.Cond).before a0 Z = true := hw _ (List.mem_of_getElem? (i := 51) rfl)
theorem w52 {a0 : Array Value} {Z : State} (hw : HW a0 Z) : (Jvm.Cond.selects "java/lang/String" ({ cls := "java/lang/String", name := "charAt", desc := "(I)C" } : Jvm.MethodName) ({ cls := "java/lang/String", name := "charAt", desc := "(I)C" } : Jvm.MethodName) : Jvm.Cond).before a0 Z = true := hw _ (List.mem_of_getElem? (i := 52) rfl)
theorem w71 {a0 : Array Value} {Z : State} (hw : HW a0 Z) : (Jvm.Cond.methodLink "com/example/remora/remora/MethodsIsMethodNamePinLaw" (7 : Nat) ({ cls := "com/example/remora/remora/MethodsIsMethodNamePinLaw", name := "isL", desc := "(C)Z" } : Jvm.MethodName) : Jvm.Cond).before a0 Z = true := hw _ (List.mem_of_getElem? (i := 71) rfl)
theorem w72 {a0 : Array Value} {Z : State} (hw : HW a0 Z) : (Jvm.Cond.static ({ cls := "com/example/remora/remora/MethodsIsMethodNamePinLaw", name := "isL", desc := "(C)Z" } : Jvm.MethodName) : Jvm.Cond).before a0 Z = true := hw _ (List.mem_of_getElem? (i := 72) rfl)
theorem w73 {a0 : Array Value} {Z : State} (hw : HW a0 Z) : (Jvm.Cond.initialized "com/example/remora/remora/MethodsIsMethodNamePinLaw" : Jvm.Cond).before a0 Z = true := hw _ (List.mem_of_getElem? (i := 73) rfl)
theorem w74 {a0 : Array Value} {Z : State} (hw : HW a0 Z) : (Jvm.Cond.code ({ cls := "com/example/remora/remora/MethodsIsMethodNamePinLaw", name := "isL", desc := "(C)Z" } : Jvm.MethodName) method_2_code (1 : Nat) (Option.some Jvm.ClassFile.FieldType.boolean) : Jvm.Cond).before a0 Z = true := hw _ (List.mem_of_getElem? (i := 74) rfl)
theorem w75 {a0 : Array Value} {Z : State} (hw : HW a0 Z) : (Jvm.Cond.methodLink "com/example/remora/remora/MethodsIsMethodNamePinLaw" (30 : Nat) ({ cls := "com/example/remora/remora/MethodsIsMethodNamePinLaw", name := "fine", desc := "(IIC)Z" } : Jvm.MethodName) : Jvm.Cond).before a0 Z = true := hw _ (List.mem_of_getElem? (i := 75) rfl)
theorem w76 {a0 : Array Value} {Z : State} (hw : HW a0 Z) : (Jvm.Cond.static ({ cls := "com/example/remora/remora/MethodsIsMethodNamePinLaw", name := "fine", desc := "(IIC)Z" } : Jvm.MethodName) : Jvm.Cond).before a0 Z = true := hw _ (List.mem_of_getElem? (i := 76) rfl)
theorem w77 {a0 : Array Value} {Z : State} (hw : HW a0 Z) : (Jvm.Cond.code ({ cls := "com/example/remora/remora/MethodsIsMethodNamePinLaw", name := "fine", desc := "(IIC)Z" } : Jvm.MethodName) method_4_code (3 : Nat) (Option.some Jvm.ClassFile.FieldType.boolean) : Jvm.Cond).before a0 Z = true := hw _ (List.mem_of_getElem? (i := 77) rfl)
theorem w78 {a0 : Array Value} {Z : State} (hw : HW a0 Z) : (Jvm.Cond.methodLink "com/example/remora/remora/MethodsIsMethodNamePinLaw" (34 : Nat) ({ cls := "com/example/remora/remora/MethodsIsMethodNamePinLaw", name := "noPair", desc := "(IICC)Z" } : Jvm.MethodName) : Jvm.Cond).before a0 Z = true := hw _ (List.mem_of_getElem? (i := 78) rfl)
theorem w79 {a0 : Array Value} {Z : State} (hw : HW a0 Z) : (Jvm.Cond.static ({ cls := "com/example/remora/remora/MethodsIsMethodNamePinLaw", name := "noPair", desc := "(IICC)Z" } : Jvm.MethodName) : Jvm.Cond).before a0 Z = true := hw _ (List.mem_of_getElem? (i := 79) rfl)
theorem w80 {a0 : Array Value} {Z : State} (hw : HW a0 Z) : (Jvm.Cond.code ({ cls := "com/example/remora/remora/MethodsIsMethodNamePinLaw", name := "noPair", desc := "(IICC)Z" } : Jvm.MethodName) method_5_code (4 : Nat) (Option.some Jvm.ClassFile.FieldType.boolean) : Jvm.Cond).before a0 Z = true := hw _ (List.mem_of_getElem? (i := 80) rfl)
theorem w81 {a0 : Array Value} {Z : State} (hw : HW a0 Z) : (Jvm.Cond.methodLink "com/example/remora/remora/MethodsIsMethodNamePinLaw" (13 : Nat) ({ cls := "com/example/remora/remora/MethodsIsMethodNamePinLaw", name := "isH", desc := "(C)Z" } : Jvm.MethodName) : Jvm.Cond).before a0 Z = true := hw _ (List.mem_of_getElem? (i := 81) rfl)
theorem w82 {a0 : Array Value} {Z : State} (hw : HW a0 Z) : (Jvm.Cond.static ({ cls := "com/example/remora/remora/MethodsIsMethodNamePinLaw", name := "isH", desc := "(C)Z" } : Jvm.MethodName) : Jvm.Cond).before a0 Z = true := hw _ (List.mem_of_getElem? (i := 82) rfl)
theorem w83 {a0 : Array Value} {Z : State} (hw : HW a0 Z) : (Jvm.Cond.code ({ cls := "com/example/remora/remora/MethodsIsMethodNamePinLaw", name := "isH", desc := "(C)Z" } : Jvm.MethodName) method_3_code (1 : Nat) (Option.some Jvm.ClassFile.FieldType.boolean) : Jvm.Cond).before a0 Z = true := hw _ (List.mem_of_getElem? (i := 83) rfl)
theorem pd0 : parseMethodDescriptor "([CIILjava/lang/Void;)V" = some ⟨[(.array .char), .int, .int, (.object "java/lang/Void")], none⟩ := by decide +kernel
theorem pd1 : parseMethodDescriptor "(C)Z" = some ⟨[.char], some .boolean⟩ := by decide +kernel
theorem pd2 : parseMethodDescriptor "([C)V" = some ⟨[(.array .char)], none⟩ := by decide +kernel
theorem pd3 : parseMethodDescriptor "(Ljava/lang/String;)Z" = some ⟨[(.object "java/lang/String")], some .boolean⟩ := by decide +kernel
theorem pd4 : parseMethodDescriptor "(IIC)Z" = some ⟨[.int, .int, .char], some .boolean⟩ := by decide +kernel
theorem pd5 : parseMethodDescriptor "(IICC)Z" = some ⟨[.int, .int, .char, .char], some .boolean⟩ := by decide +kernel
theorem pd6 : parseMethodDescriptor "()I" = some ⟨[], some .int⟩ := by decide +kernel
theorem pd7 : parseMethodDescriptor "(I)C" = some ⟨[.int], some .char⟩ := by decide +kernel
theorem pn0 : plainName "java/lang/String" = true := by first | (simp [plainName, overriddenIn]; done) | decide +kernel
theorem pn1 : plainName "com/example/remora/remora/MethodsIsMethodNamePinLaw" = true := by first | (simp [plainName, overriddenIn]; done) | decide +kernel
theorem pn2 : plainName "com/example/remora/remora/Methods" = true := by first | (simp [plainName, overriddenIn]; done) | decide +kernel
theorem efN4 (m : MethodId) (x0 : Addr) (x1 : Addr) (x2 : Int32) (x3 : Int32) : entryFrame m #[(.ref x0), (.ref x1), (.int x2), (.int x3), .null] 6 = mkF m 0 #[.val (.ref x0), .val (.ref x1), .val (.int x2), .val (.int x3), .val .null, .unset] [] := by first | (simp [entryFrame, mkF, argsToLocals, Value.category]; done) | rfl
theorem ef1 (m : MethodId) (x0 : Addr) (x1 : Addr) : entryFrame m #[(.ref x0), (.ref x1)] 2 = mkF m 0 #[.val (.ref x0), .val (.ref x1)] [] := by first | (simp [entryFrame, mkF, argsToLocals, Value.category]; done) | rfl
theorem ef2 (m : MethodId) (x0 : Int32) : entryFrame m #[(.int x0)] 1 = mkF m 0 #[.val (.int x0)] [] := by first | (simp [entryFrame, mkF, argsToLocals, Value.category]; done) | rfl
theorem ef3 (m : MethodId) (x0 : Int32) (x1 : Int32) (x2 : Int32) : entryFrame m #[(.int x0), (.int x1), (.int x2)] 3 = mkF m 0 #[.val (.int x0), .val (.int x1), .val (.int x2)] [] := by first | (simp [entryFrame, mkF, argsToLocals, Value.category]; done) | rfl
theorem ef4 (m : MethodId) (x0 : Int32) (x1 : Int32) (x2 : Int32) (x3 : Int32) : entryFrame m #[(.int x0), (.int x1), (.int x2), (.int x3)] 4 = mkF m 0 #[.val (.int x0), .val (.int x1), .val (.int x2), .val (.int x3)] [] := by first | (simp [entryFrame, mkF, argsToLocals, Value.category]; done) | rfl
theorem ef5 (m : MethodId) (x0 : Addr) : entryFrame m #[(.ref x0)] 4 = mkF m 0 #[.val (.ref x0), .unset, .unset, .unset] [] := by first | (simp [entryFrame, mkF, argsToLocals, Value.category]; done) | rfl
theorem ef6 (m : MethodId) (x0 : Int32) (x1 : Int64) (x2 : Int64) : entryFrame m #[(.int x0), (.long x1), (.long x2)] maxLocals = mkF m 0 #[.val (.int x0), .val (.long x1), .second, .val (.long x2), .second, .unset, .unset, .unset, .unset, .unset, .unset, .unset, .unset, .unset, .unset, .unset] [] := by first | (simp [entryFrame, mkF, argsToLocals, Value.category, maxLocals]; done) | rfl
abbrev ST : String := "java/lang/String"
def Ctx (Z : State) (a0 : Array Value) : Prop := HW a0 Z ∧ EW Z a0 EL1 ∧ (∃ z1 : Int32, Sta Z Z.heap "java/lang/String" "COMPACT_STRINGS" "Z" (.int z1) ∧ ¬ z1 = 0) ∧ (∃ fm : Value, Sta Z Z.heap "jdk/internal/util/Preconditions" "SIOOBE_FORMATTER" "Ljava/util/function/BiFunction;" fm ∧ fm.isRef = true)
theorem Ctx.hw {Z : State} {a0 : Array Value} (X : Ctx Z a0) : HW a0 Z := X.1
theorem Ctx.ew {Z : State} {a0 : Array Value} (X : Ctx Z a0) : EW Z a0 EL1 := X.2.1
theorem sAtoms {Z : State} {a0 : Array Value} (hw : HW a0 Z) : ∀ a ∈ Bundle.stringAtoms, a.before a0 Z = true := fun d hd => hw d ((by decide +kernel : ∀ d ∈ Bundle.stringAtoms, d ∈ tables_1) d hd)
/-- the String at a spells cs -/
def StrF (Z : State) (h : Heap) (a : Addr) (cs : List Int32) : Prop := ∃ (t : Addr) (kb : ClassId) (cd N2 : Int32) (vs : List Value), Exa Z h a ST ∧ Fld Z h a ST "value" "[B" (.ref t) ∧ Fld Z h a ST "coder" "B" (.int cd) ∧ Arv Z h t kb .byte N2 vs (.int 0) ∧ StrChars.Road.CodA cs cd N2 vs ∧ (∀ c ∈ cs, ¬ c < 0 ∧ ¬ (65535 : Int32) < c) ∧ cs.length ≤ 4000
theorem StrF.ext {Z : State} {h h' : Heap} {a : Addr} {cs : List Int32} (F : StrF Z h a cs) (E : Ext h h') : StrF Z h' a cs := by
  obtain ⟨t, kb, cd, N2, vs, f1, f2, f3, f4, r⟩ := F; exact ⟨t, kb, cd, N2, vs, f1.ext E, f2.ext E, f3.ext E, f4.ext E, r⟩
theorem StrF.keep {Z : State} {h h' : Heap} {a x : Addr} {cs : List Int32} {C : String} {a0 : Array Value} {kk : Nat} (F : StrF Z h a cs) (K : Keep h h' [x]) (Ex : Exa Z h x C) (hC : C ≠ "java/lang/String") (wi : (Jvm.Cond.instantiable C kk).before a0 Z = true) : StrF Z h' a cs := by
  obtain ⟨t, kb, cd, N2, vs, f1, f2, f3, f4, r⟩ := F
  have n1 : a ∉ [x] := ninS (fun e => ne_exa Ex f1 hC e.symm) nin0
  have n2 : t ∉ [x] := ninS (fun e => by obtain ⟨c, A, -⟩ := f4; exact ne_arr Ex wi A e.symm) nin0
  exact ⟨t, kb, cd, N2, vs, f1.keep K, f2.keep K n1, f3.keep K n1, f4.keep K n2, r⟩
theorem StrF.exa {Z : State} {h : Heap} {a : Addr} {cs : List Int32} (F : StrF Z h a cs) : Exa Z h a ST := by obtain ⟨t, kb, cd, N2, vs, f1, r⟩ := F; exact f1
theorem StrF.lt {Z : State} {h : Heap} {a : Addr} {cs : List Int32} (F : StrF Z h a cs) : a < h.size := F.exa.lt
theorem up255 {cs : List Int32} (h : ∀ c ∈ cs, ¬ c < 0 ∧ ¬ (255 : Int32) < c) : ∀ c ∈ cs, ¬ c < 0 ∧ ¬ (65535 : Int32) < c := fun c hc => ⟨(h c hc).1, fun q => (h c hc).2 (by rw [Int32.lt_iff_toInt_lt] at q ⊢; have e1 : (65535 : Int32).toInt = 65535 := rfl; have e2 : (255 : Int32).toInt = 255 := rfl; omega)⟩
/-- a literal of EL1 is such a String -/
theorem StrF.lit {Z : State} {h : Heap} {a t : Addr} {kt : ClassId} {cs : List Int32} {z : Int32} {vs : List Value} (f1 : Exa Z h a ST) (f2 : Fld Z h a ST "coder" "B" (.int 0)) (f3 : Fld Z h a ST "value" "[B" (.ref t)) (f4 : Arv Z h t kt .byte z vs (.int 0)) (hz : z = Int32.ofNat cs.length) (hv : vs = (cs.map StrChars.lo8).map Value.int) (hp : ∀ c ∈ cs, ¬ c < 0 ∧ ¬ (255 : Int32) < c) (hl : cs.length ≤ 4000) : StrF Z h a cs := by
  subst hz hv
  exact ⟨t, kt, 0, _, _, f1, f3, f2, f4, StrChars.Road.codOf rfl (fun c hc => (hp c hc).2), up255 hp, hl⟩
theorem wdsV {Z : State} {a0 : Array Value} (hw : HW a0 Z) : ∀ d ∈ StrChars.Road.words, d.before a0 Z = true := fun d hd => hw d ((by decide +kernel : ∀ d ∈ StrChars.Road.words, d ∈ tables_1) d hd)
theorem g_newStr {p : Program} {l : Launch} {e : Env} {R : Room} {s : State} {m : MethodId} {args : Array Value} {below : List Frame} {meth : Method} {c : Code} {Z : State} {a0 : Array Value} {EL : List (String × Nat)} {n0 : Nat} {own : String} {T : State} {V : Vm} {h : Heap} {k n : Nat} {Q : Outcome → State → Prop} {pc : Nat} {Ls : Array Slot} {rest : List Value} (S : St p l e R s m args below meth c Z a0 EL n0 own T V h k n) (X : Ctx Z a0) {x b : Addr} {kC : ClassId} {cs : List Int32} {N : Int32} {dv v0 c0 : Value} {index : Nat} (l0 : 0 < cs.length) (l2 : cs.length ≤ 4000) (hN : N = Int32.ofNat cs.length) (na : n0 ≤ x) (sf : Safe Z EL V h x) (E : Exa Z h x ST) (Fv : Fld Z h x ST "value" "[B" v0) (Fc : Fld Z h x ST "coder" "B" c0) (K : Arv Z h b kC .char N (cs.map Value.int) dv) (hp : ∀ c ∈ cs, ¬ c < 0 ∧ ¬ (255 : Int32) < c)
    (wl : (Jvm.Cond.methodLink own index (⟨"java/lang/String", "<init>", "([C)V"⟩ : MethodName)).before a0 Z = true) (hd : decode c.code pc = .ok (.invokespecial index, 3)) (hsz : Ls.size = c.maxLocals) (hfr : 4 ≤ R.frames) (hlo : (rest.map fun v => v.category).sum + 65 ≤ R.locals) (hc : k + 1 ≤ R.cells) (hs : n + cs.length ≤ R.slots)
    (go : ∀ T' h', St p l e R s m args below meth c Z a0 EL n0 own T' V h' (k + 1) (n + cs.length) → Keep h h' [x] → StrF Z h' x cs → Go p e below Q (T'.setTop (mkF m (pc + 3) Ls rest))) : Go p e below Q (T.setTop (mkF m pc Ls (.ref b :: .ref x :: rest))) := by
  have hw := X.hw
  obtain ⟨z1, hz1, hz2⟩ := X.2.2.1
  refine g_specialB S (rc := 1) (rs := cs.length) (as' := #[.ref x, .ref b]) (W := (rest.map fun v => v.category).sum) (fun s' hZ' => StrChars.Road.backV hZ' (wdsV hw) (w4 hw) (n0 := n0) na S.le E Fv Fc K (hz1.ext S.old.2) hz2 rfl hN l0 l2 hp rfl hfr hlo) rfl wl (w7 hw) (w8 hw) (by decide) hd hsz x [.ref b] (lenOf pd2 rfl) rfl rfl (Nat.le_refl _) hc hs ?_ ?_
  · intro v h' L q
    exact ⟨q.2.1, [x], q.2.2.1, sfS sf sf0, allS na all0⟩
  · intro v T' h' L S' q
    obtain ⟨rfl, -, K', f1, f2, t, kb, -, -, -, f3, f4⟩ := q
    refine go T' h' S' K' ?_
    subst hN
    exact ⟨t, kb, 0, _, _, f1, f3, f2, f4, StrChars.Road.codOf rfl (fun c hc => (hp c hc).2), up255 hp, l2⟩
theorem wdsLen {Z : State} {a0 : Array Value} (hw : HW a0 Z) : ∀ d ∈ StrChars.Road.wordsLen, d.before a0 Z = true := fun d hd => hw d ((by decide +kernel : ∀ d ∈ StrChars.Road.wordsLen, d ∈ tables_1) d hd)
theorem g_strLen {p : Program} {l : Launch} {e : Env} {R : Room} {s : State} {m : MethodId} {args : Array Value} {below : List Frame} {meth : Method} {c : Code} {Z : State} {a0 : Array Value} {EL : List (String × Nat)} {n0 : Nat} {own : String} {T : State} {V : Vm} {h : Heap} {k n : Nat} {Q : Outcome → State → Prop} {pc : Nat} {Ls : Array Slot} {rest : List Value} (S : St p l e R s m args below meth c Z a0 EL n0 own T V h k n) (X : Ctx Z a0) {x : Addr} {cs : List Int32} {index : Nat} (F : StrF Z h x cs) (wl : (Jvm.Cond.methodLink own index (⟨"java/lang/String", "length", "()I"⟩ : MethodName)).before a0 Z = true) (hd : decode c.code pc = .ok (.invokevirtual index, 3)) (hsz : Ls.size = c.maxLocals) (hfr : 2 ≤ R.frames) (hlo : (rest.map fun v => v.category).sum + 25 ≤ R.locals) (hc : k ≤ R.cells) (hs : n ≤ R.slots)
    (go : ∀ T', St p l e R s m args below meth c Z a0 EL n0 own T' V h k n → Go p e below Q (T'.setTop (mkF m (pc + 3) Ls (.int (Int32.ofNat cs.length) :: rest)))) : Go p e below Q (T.setTop (mkF m pc Ls (.ref x :: rest))) := by
  have hw := X.hw
  obtain ⟨z1, hz1, hz2⟩ := X.2.2.1
  obtain ⟨t, kb, cd, N2, vs, f1, f2, f3, f4, f5, f6, f7⟩ := F
  refine g_virtualB S (rc := 0) (rs := 0) (QB := fun v h' L => v = some (.int (Int32.ofNat cs.length)) ∧ L = [] ∧ h' = h) (as' := #[.ref x]) (W := (rest.map fun v => v.category).sum) (fun s' hZ' => StrChars.Road.lenW hZ' (wdsLen hw) (w4 hw) f1 f2 f3 f4 f5 f6 (hz1.ext S.old.2) hz2 f7 hfr hlo) wl (w29 hw) (w31 hw) (w30 hw) (by decide) (fun _ h => notFace_of_selects h) hd hsz x f1 [] (lenOf pd6 rfl) rfl rfl (Nat.le_refl _) hc hs ?_ ?_
  · intro v h' L q
    obtain ⟨-, rfl, rfl⟩ := q
    exact ⟨Fr.nil n0, [], Keep.refl _ _, sf0, all0⟩
  · intro v T' h' L S' q
    obtain ⟨rfl, rfl, rfl⟩ := q
    exact go T' S'
theorem wdsCh {Z : State} {a0 : Array Value} (hw : HW a0 Z) : ∀ d ∈ StrChars.Road.wordsChN, d.before a0 Z = true := fun d hd => hw d ((by decide +kernel : ∀ d ∈ StrChars.Road.wordsChN, d ∈ tables_1) d hd)
theorem g_strChar {p : Program} {l : Launch} {e : Env} {R : Room} {s : State} {m : MethodId} {args : Array Value} {below : List Frame} {meth : Method} {c : Code} {Z : State} {a0 : Array Value} {EL : List (String × Nat)} {n0 : Nat} {own : String} {T : State} {V : Vm} {h : Heap} {k n : Nat} {Q : Outcome → State → Prop} {pc : Nat} {Ls : Array Slot} {rest : List Value} (S : St p l e R s m args below meth c Z a0 EL n0 own T V h k n) (X : Ctx Z a0) {x : Addr} {cs : List Int32} {index i : Nat} {j : Int32} (F : StrF Z h x cs) (hlat : ∀ c ∈ cs, ¬ (255 : Int32) < c) (hi : i < cs.length) (hj : j = Int32.ofNat i) (wl : (Jvm.Cond.methodLink own index (⟨"java/lang/String", "charAt", "(I)C"⟩ : MethodName)).before a0 Z = true) (hd : decode c.code pc = .ok (.invokevirtual index, 3)) (hsz : Ls.size = c.maxLocals) (hfr : 4 ≤ R.frames) (hlo : (rest.map fun v => v.category).sum + 53 ≤ R.locals) (hc : k ≤ R.cells) (hs : n ≤ R.slots)
    (go : ∀ T', St p l e R s m args below meth c Z a0 EL n0 own T' V h k n → Go p e below Q (T'.setTop (mkF m (pc + 3) Ls (.int (cs.getD i 0) :: rest)))) : Go p e below Q (T.setTop (mkF m pc Ls (.int j :: .ref x :: rest))) := by
  have hw := X.hw
  obtain ⟨z1, hz1, hz2⟩ := X.2.2.1
  obtain ⟨fm, hfm, rfm⟩ := X.2.2.2
  obtain ⟨t, kb, cd, N2, vs, f1, f2, f3, f4, f5, f6, f7⟩ := F
  have hcd : cd = 0 := by
    rcases f5 with ⟨q, -⟩ | ⟨-, -, -, c, hc, hb⟩
    · exact q
    · exact absurd hb (hlat c hc)
  subst hcd
  refine g_virtualB S (rc := 0) (rs := 0) (QB := fun v h' L => v = some (.int (cs.getD i 0)) ∧ L = [] ∧ h' = h) (as' := #[.ref x, .int j]) (W := (rest.map fun v => v.category).sum) (fun s' hZ' => StrChars.Road.chN hZ' (wdsCh hw) (w4 hw) f1 f2 f3 f4 f5 f6 (hz1.ext S.old.2) hz2 (hfm.ext S.old.2) rfm f7 hi hj hfr hlo) wl (w50 hw) (w52 hw) (w51 hw) (by decide) (fun _ h => notFace_of_selects h) hd hsz x f1 [.int j] (lenOf pd7 rfl) rfl rfl (Nat.le_refl _) hc hs ?_ ?_
  · intro v h' L q
    obtain ⟨-, rfl, rfl⟩ := q
    exact ⟨Fr.nil n0, [], Keep.refl _ _, sf0, all0⟩
  · intro v T' h' L S' q
    obtain ⟨rfl, rfl, rfl⟩ := q
    exact go T' S'
theorem own_l255 (x : Int64) : ¬ (x &&& (255 : Int64)).toInt32.toUInt32.toUInt16.toUInt32.toInt32 < 0 ∧ ¬ (255 : Int32) < (x &&& (255 : Int64)).toInt32.toUInt32.toUInt16.toUInt32.toInt32 := by
  have q := and255L x
  have e : (x &&& (255 : Int64)).toInt32.toUInt32.toUInt16.toUInt32.toInt32 = (x &&& (255 : Int64)).toInt32 := narC8 q
  rw [e]; exact q
theorem own_mod7 (k n : Int32) (e : (k &&& (2147483647 : Int32)) % (7 : Int32) = n) : n = 0 ∨ n = 1 ∨ n = 2 ∨ n = 3 ∨ n = 4 ∨ n = 5 ∨ n = 6 := by
  subst e
  have q := c_mask k 2147483647 31 (by decide) (by decide)
  have r := (c_irem (k &&& 2147483647) 7 7 rfl).1
  have hlt : ∀ x : Int32, 0 ≤ x.toInt → x.toInt < 7 → x = 0 ∨ x = 1 ∨ x = 2 ∨ x = 3 ∨ x = 4 ∨ x = 5 ∨ x = 6 := fun x h1 h2 => by
    have e0 : (0 : Int32).toInt = 0 := rfl
    have e1 : (1 : Int32).toInt = 1 := rfl
    have e2 : (2 : Int32).toInt = 2 := rfl
    have e3 : (3 : Int32).toInt = 3 := rfl
    have e4 : (4 : Int32).toInt = 4 := rfl
    have e5 : (5 : Int32).toInt = 5 := rfl
    have e6 : (6 : Int32).toInt = 6 := rfl
    simp only [← Int32.toInt_inj, e0, e1, e2, e3, e4, e5, e6]
    omega
  exact hlt _ (by rw [r (by omega)]; omega) (by rw [r (by omega)]; omega)
def Lp (c : Int32) : Prop := ¬ c < 65 ∧ ¬ (90 : Int32) < c
instance (c : Int32) : Decidable (Lp c) := inferInstanceAs (Decidable (_ ∧ _))
theorem LpH {c : Int32} (h : Lp c) (e : c = 45) : False := by subst e; exact h.1 (by decide)
def imF : Bool → List Int32 → Bool
  | b, [] => b
  | b, c :: cs => if Lp c then imF true cs else if c = 45 ∧ b = true then imF false cs else false
def fineA : List Int32 → Prop
  | [] => True
  | c :: cs => (Lp c ∨ c = 45) ∧ fineA cs
def npA : List Int32 → Prop
  | [] => True
  | [_] => True
  | c :: d :: cs => (¬ (c = 45 ∧ d = 45)) ∧ npA (d :: cs)
def lastA : List Int32 → Prop
  | [] => True
  | [c] => Lp c
  | _ :: d :: cs => lastA (d :: cs)
theorem own_imL {b : Bool} {x : Int32} {rs : List Int32} (h : Lp x) : imF b (x :: rs) = imF true rs := by simp [imF, h]
theorem own_imH {b : Bool} {x : Int32} {rs : List Int32} (h : ¬ Lp x) (e : x = 45) (hb : b = true) : imF b (x :: rs) = imF false rs := by subst e hb; simp [imF, h]
theorem own_imR {b : Bool} {x : Int32} {rs : List Int32} (h : ¬ Lp x) (e : ¬ x = 45 ∨ b = false) : imF b (x :: rs) = false := by
  rcases e with e | e <;> simp [imF, h, e]
theorem own_notL_1 {x : Int32} (h : x < 65) : ¬ Lp x := fun q => q.1 h
theorem own_notL_2 {x : Int32} (h : ¬ x < 65) (h2 : (90 : Int32) < x) : ¬ Lp x := fun q => q.2 h2
theorem own_b0 {bb : Bool} {b : Int32} (hb : b = (if bb = true then 1 else 0)) (h : b = 0) : bb = false := by cases bb <;> simp_all
theorem own_b1 {bb : Bool} {b : Int32} (hb : b = (if bb = true then 1 else 0)) (h : ¬ b = 0) : bb = true := by cases bb <;> simp_all
theorem own_narb (bb : Bool) : nar .boolean (if bb = true then (1 : Int32) else 0) = (if bb = true then 1 else 0) := by cases bb <;> rfl
theorem imFc (c : Int32) (cs : List Int32) : imF false (c :: cs) = true ↔ Lp c ∧ imF true cs = true := by
  by_cases h : Lp c <;> simp [imF, h]
theorem imT : ∀ cs : List Int32, imF true cs = true ↔ fineA cs ∧ npA cs ∧ lastA cs
  | [] => by simp [imF, fineA, npA, lastA]
  | [c] => by
    by_cases h : Lp c
    · simp [imF, fineA, npA, lastA, h]
    · simp [imF, fineA, npA, lastA, h]
  | c :: d :: cs => by
    by_cases h : Lp c
    · rw [own_imL h, imT (d :: cs)]
      exact ⟨fun q => ⟨⟨Or.inl h, q.1⟩, ⟨fun z => LpH h z.1, q.2.1⟩, q.2.2⟩, fun q => ⟨q.1.2, q.2.1.2, q.2.2⟩⟩
    · by_cases e : c = 45
      · rw [own_imH h e rfl, imFc]
        by_cases hd : Lp d
        · have r := imT (d :: cs)
          rw [own_imL hd] at r
          rw [r]
          exact ⟨fun q => ⟨⟨Or.inr e, q.2.1⟩, ⟨fun z => LpH hd z.2, q.2.2.1⟩, q.2.2.2⟩, fun q => ⟨hd, q.1.2, q.2.1.2, q.2.2⟩⟩
        · exact ⟨fun q => absurd q.1 hd, fun q => absurd (q.1.2.1.resolve_left hd) fun z => q.2.1.1 ⟨e, z⟩⟩
      · rw [own_imR h (Or.inl e)]
        exact ⟨fun q => absurd q Bool.false_ne_true, fun q => absurd (q.1.1) (fun z => z.elim h e)⟩
theorem own_if {b : Bool} {W : Prop} (h : b = true ↔ W) {wx : Int32} (q : (wx = 1 ∧ W) ∨ (wx = 0 ∧ ¬ W)) : wx = (if b = true then 1 else 0) := by
  rcases q with ⟨rfl, q⟩ | ⟨rfl, q⟩
  · rw [if_pos (h.mpr q)]
  · rw [if_neg (fun z => q (h.mp z))]
theorem own_eq0 : imF false [] = true ↔ False := by simp [imF]
theorem own_succ (n : Nat) : (Int32.ofNat n) + (1 : Int32) = Int32.ofNat (n + [0].length) := by
  show Int32.ofNat n + Int32.ofNat 1 = Int32.ofNat (n + 1)
  exact (Int32.ofNat_add n 1).symm
theorem own_ltN {i n : Nat} (h : i < n) (hn : n ≤ 4000) : Int32.ofNat i < Int32.ofNat n := by
  rw [Int32.lt_iff_toInt_lt, Int32.toInt_ofNat_small (by omega), Int32.toInt_ofNat_small (by omega)]
  omega
theorem own_st3 {a b i : Value} {s3 : Slot} {x : Int32} (h : One s3) : storeLocals #[.val a, .val b, .val i, s3] 3 (.int x) = some #[.val a, .val b, .val i, .val (.int x)] := by
  rcases h with rfl | ⟨w, rfl, hw⟩
  · cases i <;> rfl
  · cases i <;> cases w <;> first | rfl | (simp [Value.category] at hw)
abbrev own_W1 (c0 : Int32) : Prop := Lp c0 ∧ Lp c0 ∧ (Lp c0 ∨ c0 = 45)
theorem own_eq1 (c0 : Int32) : imF false [c0] = true ↔ own_W1 c0 := by
  rw [imFc, imT]; exact ⟨fun h => ⟨h.1, h.1, Or.inl h.1⟩, fun h => ⟨h.1, trivial, trivial, trivial⟩⟩
abbrev own_W2 (c0 c1 : Int32) : Prop := Lp c0 ∧ Lp c1 ∧ (Lp c0 ∨ c0 = 45) ∧ (Lp c1 ∨ c1 = 45) ∧ (¬ (c0 = 45 ∧ c1 = 45))
theorem own_eq2 (c0 c1 : Int32) : imF false [c0, c1] = true ↔ own_W2 c0 c1 := by
  rw [imFc, imT]
  constructor
  · rintro ⟨h1, ⟨f1, -⟩, -, hl⟩
    exact ⟨h1, hl, Or.inl h1, f1, fun q => LpH h1 q.1⟩
  · rintro ⟨h1, hl, f0, f1, q0⟩
    exact ⟨h1, ⟨f1, trivial⟩, trivial, hl⟩
abbrev own_W3 (c0 c1 c2 : Int32) : Prop := Lp c0 ∧ Lp c2 ∧ (Lp c0 ∨ c0 = 45) ∧ (Lp c1 ∨ c1 = 45) ∧ (Lp c2 ∨ c2 = 45) ∧ (¬ (c0 = 45 ∧ c1 = 45)) ∧ (¬ (c1 = 45 ∧ c2 = 45))
theorem own_eq3 (c0 c1 c2 : Int32) : imF false [c0, c1, c2] = true ↔ own_W3 c0 c1 c2 := by
  rw [imFc, imT]
  constructor
  · rintro ⟨h1, ⟨f1, f2, -⟩, ⟨q1, -⟩, hl⟩
    exact ⟨h1, hl, Or.inl h1, f1, f2, fun q => LpH h1 q.1, q1⟩
  · rintro ⟨h1, hl, f0, f1, f2, q0, q1⟩
    exact ⟨h1, ⟨f1, f2, trivial⟩, ⟨q1, trivial⟩, hl⟩
abbrev own_W4 (c0 c1 c2 c3 : Int32) : Prop := Lp c0 ∧ Lp c3 ∧ (Lp c0 ∨ c0 = 45) ∧ (Lp c1 ∨ c1 = 45) ∧ (Lp c2 ∨ c2 = 45) ∧ (Lp c3 ∨ c3 = 45) ∧ (¬ (c0 = 45 ∧ c1 = 45)) ∧ (¬ (c1 = 45 ∧ c2 = 45)) ∧ (¬ (c2 = 45 ∧ c3 = 45))
theorem own_eq4 (c0 c1 c2 c3 : Int32) : imF false [c0, c1, c2, c3] = true ↔ own_W4 c0 c1 c2 c3 := by
  rw [imFc, imT]
  constructor
  · rintro ⟨h1, ⟨f1, f2, f3, -⟩, ⟨q1, q2, -⟩, hl⟩
    exact ⟨h1, hl, Or.inl h1, f1, f2, f3, fun q => LpH h1 q.1, q1, q2⟩
  · rintro ⟨h1, hl, f0, f1, f2, f3, q0, q1, q2⟩
    exact ⟨h1, ⟨f1, f2, f3, trivial⟩, ⟨q1, q2, trivial⟩, hl⟩
abbrev own_W5 (c0 c1 c2 c3 c4 : Int32) : Prop := Lp c0 ∧ Lp c4 ∧ (Lp c0 ∨ c0 = 45) ∧ (Lp c1 ∨ c1 = 45) ∧ (Lp c2 ∨ c2 = 45) ∧ (Lp c3 ∨ c3 = 45) ∧ (Lp c4 ∨ c4 = 45) ∧ (¬ (c0 = 45 ∧ c1 = 45)) ∧ (¬ (c1 = 45 ∧ c2 = 45)) ∧ (¬ (c2 = 45 ∧ c3 = 45)) ∧ (¬ (c3 = 45 ∧ c4 = 45))
theorem own_eq5 (c0 c1 c2 c3 c4 : Int32) : imF false [c0, c1, c2, c3, c4] = true ↔ own_W5 c0 c1 c2 c3 c4 := by
  rw [imFc, imT]
  constructor
  · rintro ⟨h1, ⟨f1, f2, f3, f4, -⟩, ⟨q1, q2, q3, -⟩, hl⟩
    exact ⟨h1, hl, Or.inl h1, f1, f2, f3, f4, fun q => LpH h1 q.1, q1, q2, q3⟩
  · rintro ⟨h1, hl, f0, f1, f2, f3, f4, q0, q1, q2, q3⟩
    exact ⟨h1, ⟨f1, f2, f3, f4, trivial⟩, ⟨q1, q2, q3, trivial⟩, hl⟩
abbrev own_W6 (c0 c1 c2 c3 c4 c5 : Int32) : Prop := Lp c0 ∧ Lp c5 ∧ (Lp c0 ∨ c0 = 45) ∧ (Lp c1 ∨ c1 = 45) ∧ (Lp c2 ∨ c2 = 45) ∧ (Lp c3 ∨ c3 = 45) ∧ (Lp c4 ∨ c4 = 45) ∧ (Lp c5 ∨ c5 = 45) ∧ (¬ (c0 = 45 ∧ c1 = 45)) ∧ (¬ (c1 = 45 ∧ c2 = 45)) ∧ (¬ (c2 = 45 ∧ c3 = 45)) ∧ (¬ (c3 = 45 ∧ c4 = 45)) ∧ (¬ (c4 = 45 ∧ c5 = 45))
theorem own_eq6 (c0 c1 c2 c3 c4 c5 : Int32) : imF false [c0, c1, c2, c3, c4, c5] = true ↔ own_W6 c0 c1 c2 c3 c4 c5 := by
  rw [imFc, imT]
  constructor
  · rintro ⟨h1, ⟨f1, f2, f3, f4, f5, -⟩, ⟨q1, q2, q3, q4, -⟩, hl⟩
    exact ⟨h1, hl, Or.inl h1, f1, f2, f3, f4, f5, fun q => LpH h1 q.1, q1, q2, q3, q4⟩
  · rintro ⟨h1, hl, f0, f1, f2, f3, f4, f5, q0, q1, q2, q3, q4⟩
    exact ⟨h1, ⟨f1, f2, f3, f4, f5, trivial⟩, ⟨q1, q2, q3, q4, trivial⟩, hl⟩
end Jvm.Pilot.@@N@@

namespace Jvm.Pilot.@@N@@
open Jvm Jvm.ClassFile Sem Op Lib Jvm.Free Jvm.Stand Jvm.LawKit Jvm.RoadKit Jvm.OwnKit Bundle Jvm.Pilot.@@N@@.Jvm.D
theorem dN4_0 : decode jdk_42_method_149_code 0 = .ok (.aload_n 0, 1) := by decide +kernel
theorem dN4_1 : decode jdk_42_method_149_code 1 = .ok (.invokespecial 1, 3) := by decide +kernel
theorem dN4_4 : decode jdk_42_method_149_code 4 = .ok (.iload_n 3, 1) := by decide +kernel
theorem dN4_5 : decode jdk_42_method_149_code 5 = .ok (.ifCond .ne 22, 3) := by decide +kernel
theorem dN4_8 : decode jdk_42_method_149_code 8 = .ok (.aload_n 0, 1) := by decide +kernel
theorem dN4_9 : decode jdk_42_method_149_code 9 = .ok (.ldc 7, 2) := by decide +kernel
theorem dN4_11 : decode jdk_42_method_149_code 11 = .ok (.getfield 9, 3) := by decide +kernel
theorem dN4_14 : decode jdk_42_method_149_code 14 = .ok (.putfield 9, 3) := by decide +kernel
theorem dN4_17 : decode jdk_42_method_149_code 17 = .ok (.aload_n 0, 1) := by decide +kernel
theorem dN4_18 : decode jdk_42_method_149_code 18 = .ok (.ldc 7, 2) := by decide +kernel
theorem dN4_20 : decode jdk_42_method_149_code 20 = .ok (.getfield 15, 3) := by decide +kernel
theorem dN4_23 : decode jdk_42_method_149_code 23 = .ok (.putfield 15, 3) := by decide +kernel
theorem dN4_26 : decode jdk_42_method_149_code 26 = .ok (.return_, 1) := by decide +kernel
set_option maxRecDepth 65536 in
set_option maxHeartbeats 40000000 in
theorem rmN4 {l : Launch} {Z : State} {a0 : Array Value} {n0 : Nat} (X : Ctx Z a0) {x b : Addr} {v0 c0 : Value} (na : n0 ≤ x) {h : Heap} (hO : Old Z n0 h) (E : Exa Z h x ST) (Fv : Fld Z h x ST "value" "[B" v0) (Fc : Fld Z h x ST "coder" "B" c0) :
    Ctr l Z EL1 n0 (⟨"java/lang/String", "<init>", "([CIILjava/lang/Void;)V"⟩ : MethodName) jdk_42_method_149_code 6 none ({ frames := 1, cells := 4, slots := 8, locals := 14 } : Room) #[(.ref x), (.ref b), (.int (0 : Int32)), (.int (0 : Int32)), .null] h [x] (fun v h' => v = none ∧ Keep h h' [x] ∧ StrF Z h' x []) := by
  have hw := X.hw
  obtain ⟨z1, hz1, hz2⟩ := X.2.2.1
  refine Ctr.intro (a0 := a0) (plainFor_of_name pn0) hO X.ew ?_
  intro p e s m below meth c T0 V0 S0 hby hml hret hnm hsf
  rw [efN4]
  refine s_aloadN S0 (hb hby dN4_0) rfl rfl (pc' := 1) rfl ?_
  refine g_initO S0 (w13 hw) (w14 hw) (w15 hw) (by rw [hml]; rfl) (hb hby dN4_1) (Nat.le_of_ble_eq_true rfl) (Nat.le_of_ble_eq_true rfl) ?_
  intro T1 ST1
  show Go p e below _ (T1.setTop (mkF m 4 #[.val (.ref x), .val (.ref b), .val (.int (0 : Int32)), .val (.int (0 : Int32)), .val .null, .unset] []))
  refine s_iloadN ST1 (hb hby dN4_4) rfl (pc' := 5) rfl ?_
  refine s_ifN ST1 (hb hby dN4_5) (by decide) (pc' := 8) rfl ?_
  refine s_aloadN ST1 (hb hby dN4_8) rfl rfl (pc' := 9) rfl ?_
  show Go p e below _ (T1.setTop (mkF m 9 #[.val (.ref x), .val (.ref b), .val (.int (0 : Int32)), .val (.int (0 : Int32)), .val .null, .unset] [(.ref x)]))
  refine g_ldcS ST1 (hw _ (List.mem_of_getElem? (i := 16) rfl)) (sAtoms hw) (by decide) (vs := []) (z := (0 : Int32)) ⟨by decide +kernel, by decide +kernel⟩ (by decide) rfl (hb hby dN4_9) (b := 0) (by decide +kernel) (by decide) (Nat.le_of_ble_eq_true rfl) (Nat.le_of_ble_eq_true rfl) ?_
  intro b2 T2 V2 h2 t2 kt2 S2 E2 C2 f2a f2b f2c f2d f2e
  have sf3 := C2.safe E.lt (hsf x List.mem_cons_self)
  have F2 : StrF Z h2 b2 [] := StrF.lit f2a f2b f2c f2d rfl rfl (by decide) (by decide)
  show Go p e below _ (T2.setTop (mkF m 11 #[.val (.ref x), .val (.ref b), .val (.int (0 : Int32)), .val (.int (0 : Int32)), .val .null, .unset] [(.ref b2), (.ref x)]))
  refine g_getF S2 (w22 hw) Via.refl f2c (hb hby dN4_11) ?_
  intro T91 S91
  show Go p e below _ (T91.setTop (mkF m 14 #[.val (.ref x), .val (.ref b), .val (.int (0 : Int32)), .val (.int (0 : Int32)), .val .null, .unset] [(.ref t2), (.ref x)]))
  have Ex1 := E.ext E2
  have Fv1 := Fv.ext E2
  have Fc1 := Fc.ext E2
  have ne1 := f2e x sf3
  refine g_putF S91 (w22 hw) Via.refl Fv1 Ex1 (Or.inr ⟨(w18 hw), rfl, hnm⟩) (w4 hw) (ty := .array .byte) (by decide) rfl rfl na sf3 (hb hby dN4_14) ?_
  intro T92 h92 S92 K92 W92 Ex2 Fv2 sf92
  have Fc2 := Fc1.other W92 (Or.inr (slot_ne (Or.inr (w19 hw)) (Or.inr (w18 hw)) (by decide) (t := .byte) (t' := .array .byte) (by decide) (by decide)))
  have At2 := f2d.keep K92 (ninS (Ne.symm ne1.2) nin0)
  show Go p e below _ (T92.setTop (mkF m 17 #[.val (.ref x), .val (.ref b), .val (.int (0 : Int32)), .val (.int (0 : Int32)), .val .null, .unset] []))
  refine s_aloadN S92 (hb hby dN4_17) rfl rfl (pc' := 18) rfl ?_
  show Go p e below _ (T92.setTop (mkF m 18 #[.val (.ref x), .val (.ref b), .val (.int (0 : Int32)), .val (.int (0 : Int32)), .val .null, .unset] [(.ref x)]))
  refine g_ldcS S92 (hw _ (List.mem_of_getElem? (i := 16) rfl)) (sAtoms hw) (by decide) (vs := []) (z := (0 : Int32)) ⟨by decide +kernel, by decide +kernel⟩ (by decide) rfl (hb hby dN4_18) (b := 0) (by decide +kernel) (by decide) (Nat.le_of_ble_eq_true rfl) (Nat.le_of_ble_eq_true rfl) ?_
  intro b4 T4 V4 h4 t4 kt4 S4 E4 C4 f4a f4b f4c f4d f4e
  have sf5 := C4.safe Ex2.lt sf92
  have F4 : StrF Z h4 b4 [] := StrF.lit f4a f4b f4c f4d rfl rfl (by decide) (by decide)
  show Go p e below _ (T4.setTop (mkF m 20 #[.val (.ref x), .val (.ref b), .val (.int (0 : Int32)), .val (.int (0 : Int32)), .val .null, .unset] [(.ref b4), (.ref x)]))
  refine g_getF S4 (w23 hw) Via.refl f4b (hb hby dN4_20) ?_
  intro T93 S93
  show Go p e below _ (T93.setTop (mkF m 23 #[.val (.ref x), .val (.ref b), .val (.int (0 : Int32)), .val (.int (0 : Int32)), .val .null, .unset] [(.int (0 : Int32)), (.ref x)]))
  refine g_putF S93 (w23 hw) Via.refl (Fc2.ext E4) (Ex2.ext E4) (Or.inr ⟨(w19 hw), rfl, hnm⟩) (w4 hw) (ty := .byte) (v' := .int 0) (by decide) rfl rfl na sf5 (hb hby dN4_23) ?_
  intro T94 h94 S94 K94 W94 Ex4 Fc4 sf94
  have Fv4 := (Fv2.ext E4).other W94 (Or.inr (slot_ne (Or.inr (w18 hw)) (Or.inr (w19 hw)) (by decide) (t := .array .byte) (t' := .byte) (by decide) (by decide)))
  have ne2 : t2 ≠ x := Ne.symm ne1.2
  have At4 := (At2.ext E4).keep K94 (ninS ne2 nin0)
  have KK : Keep h h94 [x] := ((((Keep.refl h [x]).ext E2).trans K92 (fun y hy => Or.inl hy)).ext E4).trans K94 (fun y hy => Or.inl hy)
  show Go p e below _ (T94.setTop (mkF m 26 #[.val (.ref x), .val (.ref b), .val (.int (0 : Int32)), .val (.int (0 : Int32)), .val .null, .unset] []))
  exact g_ret S94 (hb hby dN4_26) hret ⟨rfl, KK, t2, kt2, 0, _, _, Ex4, Fv4, Fc4, At4, StrChars.Road.codOf (cs := []) rfl fa0, fa0, by decide⟩
theorem dN1_0 : decode jdk_42_method_3_code 0 = .ok (.aload_n 0, 1) := by decide +kernel
theorem dN1_1 : decode jdk_42_method_3_code 1 = .ok (.aload_n 1, 1) := by decide +kernel
theorem dN1_2 : decode jdk_42_method_3_code 2 = .ok (.iconst 0, 1) := by decide +kernel
theorem dN1_3 : decode jdk_42_method_3_code 3 = .ok (.aload_n 1, 1) := by decide +kernel
theorem dN1_4 : decode jdk_42_method_3_code 4 = .ok (.arraylength, 1) := by decide +kernel
theorem dN1_5 : decode jdk_42_method_3_code 5 = .ok (.aconst_null, 1) := by decide +kernel
theorem dN1_6 : decode jdk_42_method_3_code 6 = .ok (.invokespecial 27, 3) := by decide +kernel
theorem dN1_9 : decode jdk_42_method_3_code 9 = .ok (.return_, 1) := by decide +kernel
set_option maxRecDepth 65536 in
set_option maxHeartbeats 40000000 in
theorem rmN1 {l : Launch} {Z : State} {a0 : Array Value} {n0 : Nat} (X : Ctx Z a0) {x b : Addr} {kb : ClassId} {v0 c0 dv : Value} {vs : List Value} (na : n0 ≤ x) {h : Heap} (hO : Old Z n0 h) (E : Exa Z h x ST) (Fv : Fld Z h x ST "value" "[B" v0) (Fc : Fld Z h x ST "coder" "B" c0) (Vb : Arv Z h b kb .char (0 : Int32) vs dv) :
    Ctr l Z EL1 n0 (⟨"java/lang/String", "<init>", "([C)V"⟩ : MethodName) jdk_42_method_3_code 2 none ({ frames := 2, cells := 4, slots := 8, locals := 33 } : Room) #[(.ref x), (.ref b)] h [x] (fun v h' => v = none ∧ Keep h h' [x] ∧ StrF Z h' x []) := by
  have hw := X.hw
  obtain ⟨z1, hz1, hz2⟩ := X.2.2.1
  refine Ctr.intro (a0 := a0) (plainFor_of_name pn0) hO X.ew ?_
  intro p e s m below meth c T0 V0 S0 hby hml hret hnm hsf
  rw [ef1]
  refine s_aloadN S0 (hb hby dN1_0) rfl rfl (pc' := 1) rfl ?_
  refine s_aloadN S0 (hb hby dN1_1) rfl rfl (pc' := 2) rfl ?_
  refine s_iconst S0 (hb hby dN1_2) (v := (0 : Int32)) rfl (pc' := 3) rfl ?_
  refine s_aloadN S0 (hb hby dN1_3) rfl rfl (pc' := 4) rfl ?_
  refine g_len S0 Vb (hb hby dN1_4) ?_
  show Go p e below _ (T0.setTop (mkF m 5 #[.val (.ref x), .val (.ref b)] [(.int (0 : Int32)), (.int (0 : Int32)), (.ref b), (.ref x)]))
  refine s_null S0 (hb hby dN1_5) (pc' := 6) rfl ?_
  show Go p e below _ (T0.setTop (mkF m 6 #[.val (.ref x), .val (.ref b)] [.null, (.int (0 : Int32)), (.int (0 : Int32)), (.ref b), (.ref x)]))
  refine g_special S0 (rmN4 X na S0.old E Fv Fc) (sf1 E.lt (hsf x List.mem_cons_self)) rfl (w9 hw) (w10 hw) (w5 hw) (w12 hw) (by decide) (hb hby dN1_6) (by rw [hml]; rfl) x [(.ref b), (.int (0 : Int32)), (.int (0 : Int32)), .null] (lenOf pd0 rfl) rfl rfl (Nat.le_of_ble_eq_true rfl) (Nat.le_of_ble_eq_true rfl) (Nat.le_of_ble_eq_true rfl) (Nat.le_of_ble_eq_true rfl) ?_
  intro v6 T6 V6 h6 S6 C6 q6
  obtain ⟨rfl, K61, F61⟩ := q6
  show Go p e below _ (T6.setTop (mkF m 9 #[.val (.ref x), .val (.ref b)] []))
  exact g_ret S6 (hb hby dN1_9) hret ⟨rfl, K61, F61⟩
theorem dIL_0 : decode method_2_code 0 = .ok (.iload_n 0, 1) := by decide +kernel
theorem dIL_1 : decode method_2_code 1 = .ok (.bipush 65, 2) := by decide +kernel
theorem dIL_3 : decode method_2_code 3 = .ok (.if_icmp .lt 13, 3) := by decide +kernel
theorem dIL_6 : decode method_2_code 6 = .ok (.iload_n 0, 1) := by decide +kernel
theorem dIL_7 : decode method_2_code 7 = .ok (.bipush 90, 2) := by decide +kernel
theorem dIL_9 : decode method_2_code 9 = .ok (.if_icmp .gt 7, 3) := by decide +kernel
theorem dIL_12 : decode method_2_code 12 = .ok (.iconst 1, 1) := by decide +kernel
theorem dIL_13 : decode method_2_code 13 = .ok (.goto 4, 3) := by decide +kernel
theorem dIL_16 : decode method_2_code 16 = .ok (.iconst 0, 1) := by decide +kernel
theorem dIL_17 : decode method_2_code 17 = .ok (.ireturn, 1) := by decide +kernel
set_option maxRecDepth 65536 in
set_option maxHeartbeats 40000000 in
theorem rmIL {l : Launch} {Z : State} {a0 : Array Value} {n0 : Nat} (X : Ctx Z a0) (ch : Int32) {h : Heap} (hO : Old Z n0 h)  :
    Ctr l Z EL1 n0 (⟨"com/example/remora/remora/MethodsIsMethodNamePinLaw", "isL", "(C)Z"⟩ : MethodName) method_2_code 1 (some .boolean) ({ frames := 0, cells := 0, slots := 0, locals := 0 } : Room) #[(.int ch)] h [] (fun v h' => ∃ r : Int32, v = some (.int r) ∧ ((r = 1 ∧ (Lp ch)) ∨ (r = 0 ∧ ¬ (Lp ch))) ∧ h' = h) := by
  have hw := X.hw
  obtain ⟨z1, hz1, hz2⟩ := X.2.2.1
  refine Ctr.intro (a0 := a0) (plainFor_of_name pn1) hO X.ew ?_
  intro p e s m below meth c T0 V0 S0 hby hml hret hnm hsf
  rw [ef2]
  refine s_iloadN S0 (hb hby dIL_0) rfl (pc' := 1) rfl ?_
  refine s_bipush S0 (hb hby dIL_1) (v := (65 : Int32)) rfl (pc' := 3) rfl ?_
  refine g_icmp S0 (hb hby dIL_3) (by decide) (pcT := 16) (by decide) (fun q => ?_) (fun q => ?_)
  · have hc3_7 : ch < (65 : Int32) := icT_lt q
    show Go p e below _ (T0.setTop (mkF m 16 #[.val (.int ch)] []))
    refine s_iconst S0 (hb hby dIL_16) (v := (0 : Int32)) rfl (pc' := 17) rfl ?_
    show Go p e below _ (T0.setTop (mkF m 17 #[.val (.int ch)] [(.int (0 : Int32))]))
    exact g_iretN S0 (hb hby dIL_17) hret (by simp) ⟨_, rfl, Or.inr ⟨rfl, fun q => q.1 hc3_7⟩, rfl⟩
  · have hc3_7 : ¬ ch < (65 : Int32) := icF_lt q
    show Go p e below _ (T0.setTop (mkF m 6 #[.val (.int ch)] []))
    refine s_iloadN S0 (hb hby dIL_6) rfl (pc' := 7) rfl ?_
    refine s_bipush S0 (hb hby dIL_7) (v := (90 : Int32)) rfl (pc' := 9) rfl ?_
    refine g_icmp S0 (hb hby dIL_9) (by decide) (pcT := 16) (by decide) (fun q => ?_) (fun q => ?_)
    · have hc9_8 : (90 : Int32) < ch := icT_gt q
      show Go p e below _ (T0.setTop (mkF m 16 #[.val (.int ch)] []))
      refine s_iconst S0 (hb hby dIL_16) (v := (0 : Int32)) rfl (pc' := 17) rfl ?_
      show Go p e below _ (T0.setTop (mkF m 17 #[.val (.int ch)] [(.int (0 : Int32))]))
      exact g_iretN S0 (hb hby dIL_17) hret (by simp) ⟨_, rfl, Or.inr ⟨rfl, fun q => q.2 hc9_8⟩, rfl⟩
    · have hc9_8 : ¬ (90 : Int32) < ch := icF_gt q
      show Go p e below _ (T0.setTop (mkF m 12 #[.val (.int ch)] []))
      refine s_iconst S0 (hb hby dIL_12) (v := (1 : Int32)) rfl (pc' := 13) rfl ?_
      refine s_goto S0 (hb hby dIL_13) (by decide) (pcT := 17) (by decide) ?_
      show Go p e below _ (T0.setTop (mkF m 17 #[.val (.int ch)] [(.int (1 : Int32))]))
      exact g_iretN S0 (hb hby dIL_17) hret (by simp) ⟨_, rfl, Or.inl ⟨rfl, hc3_7, hc9_8⟩, rfl⟩
theorem dIH_0 : decode method_3_code 0 = .ok (.iload_n 0, 1) := by decide +kernel
theorem dIH_1 : decode method_3_code 1 = .ok (.bipush 45, 2) := by decide +kernel
theorem dIH_3 : decode method_3_code 3 = .ok (.if_icmp .ne 7, 3) := by decide +kernel
theorem dIH_6 : decode method_3_code 6 = .ok (.iconst 1, 1) := by decide +kernel
theorem dIH_7 : decode method_3_code 7 = .ok (.goto 4, 3) := by decide +kernel
theorem dIH_10 : decode method_3_code 10 = .ok (.iconst 0, 1) := by decide +kernel
theorem dIH_11 : decode method_3_code 11 = .ok (.ireturn, 1) := by decide +kernel
set_option maxRecDepth 65536 in
set_option maxHeartbeats 40000000 in
theorem rmIH {l : Launch} {Z : State} {a0 : Array Value} {n0 : Nat} (X : Ctx Z a0) (ch : Int32) {h : Heap} (hO : Old Z n0 h)  :
    Ctr l Z EL1 n0 (⟨"com/example/remora/remora/MethodsIsMethodNamePinLaw", "isH", "(C)Z"⟩ : MethodName) method_3_code 1 (some .boolean) ({ frames := 0, cells := 0, slots := 0, locals := 0 } : Room) #[(.int ch)] h [] (fun v h' => ∃ r : Int32, v = some (.int r) ∧ ((r = 1 ∧ (ch = 45)) ∨ (r = 0 ∧ ¬ (ch = 45))) ∧ h' = h) := by
  have hw := X.hw
  obtain ⟨z1, hz1, hz2⟩ := X.2.2.1
  refine Ctr.intro (a0 := a0) (plainFor_of_name pn1) hO X.ew ?_
  intro p e s m below meth c T0 V0 S0 hby hml hret hnm hsf
  rw [ef2]
  refine s_iloadN S0 (hb hby dIH_0) rfl (pc' := 1) rfl ?_
  refine s_bipush S0 (hb hby dIH_1) (v := (45 : Int32)) rfl (pc' := 3) rfl ?_
  refine g_icmp S0 (hb hby dIH_3) (by decide) (pcT := 10) (by decide) (fun q => ?_) (fun q => ?_)
  · have hc3_9 : ¬ ch = (45 : Int32) := icT_ne q
    show Go p e below _ (T0.setTop (mkF m 10 #[.val (.int ch)] []))
    refine s_iconst S0 (hb hby dIH_10) (v := (0 : Int32)) rfl (pc' := 11) rfl ?_
    show Go p e below _ (T0.setTop (mkF m 11 #[.val (.int ch)] [(.int (0 : Int32))]))
    exact g_iretN S0 (hb hby dIH_11) hret (by simp) ⟨_, rfl, Or.inr ⟨rfl, hc3_9⟩, rfl⟩
  · have hc3_9 : ch = (45 : Int32) := icF_ne q
    show Go p e below _ (T0.setTop (mkF m 6 #[.val (.int ch)] []))
    refine s_iconst S0 (hb hby dIH_6) (v := (1 : Int32)) rfl (pc' := 7) rfl ?_
    refine s_goto S0 (hb hby dIH_7) (by decide) (pcT := 11) (by decide) ?_
    show Go p e below _ (T0.setTop (mkF m 11 #[.val (.int ch)] [(.int (1 : Int32))]))
    exact g_iretN S0 (hb hby dIH_11) hret (by simp) ⟨_, rfl, Or.inl ⟨rfl, hc3_9⟩, rfl⟩
theorem dFI_0 : decode method_4_code 0 = .ok (.iload_n 0, 1) := by decide +kernel
theorem dFI_1 : decode method_4_code 1 = .ok (.iload_n 1, 1) := by decide +kernel
theorem dFI_2 : decode method_4_code 2 = .ok (.if_icmp .ge 17, 3) := by decide +kernel
theorem dFI_5 : decode method_4_code 5 = .ok (.iload_n 2, 1) := by decide +kernel
theorem dFI_6 : decode method_4_code 6 = .ok (.invokestatic 7, 3) := by decide +kernel
theorem dFI_9 : decode method_4_code 9 = .ok (.ifCond .ne 10, 3) := by decide +kernel
theorem dFI_12 : decode method_4_code 12 = .ok (.iload_n 2, 1) := by decide +kernel
theorem dFI_13 : decode method_4_code 13 = .ok (.invokestatic 13, 3) := by decide +kernel
theorem dFI_16 : decode method_4_code 16 = .ok (.ifCond .eq 7, 3) := by decide +kernel
theorem dFI_19 : decode method_4_code 19 = .ok (.iconst 1, 1) := by decide +kernel
theorem dFI_20 : decode method_4_code 20 = .ok (.goto 4, 3) := by decide +kernel
theorem dFI_23 : decode method_4_code 23 = .ok (.iconst 0, 1) := by decide +kernel
theorem dFI_24 : decode method_4_code 24 = .ok (.ireturn, 1) := by decide +kernel
set_option maxRecDepth 65536 in
set_option maxHeartbeats 40000000 in
theorem rmFI {l : Launch} {Z : State} {a0 : Array Value} {n0 : Nat} (X : Ctx Z a0) {i n : Int32} (ch : Int32) {h : Heap} (hO : Old Z n0 h) (hi : i < n) :
    Ctr l Z EL1 n0 (⟨"com/example/remora/remora/MethodsIsMethodNamePinLaw", "fine", "(IIC)Z"⟩ : MethodName) method_4_code 3 (some .boolean) ({ frames := 1, cells := 0, slots := 0, locals := 12 } : Room) #[(.int i), (.int n), (.int ch)] h [] (fun v h' => ∃ r : Int32, v = some (.int r) ∧ ((r = 1 ∧ (Lp ch ∨ ch = 45)) ∨ (r = 0 ∧ ¬ (Lp ch ∨ ch = 45))) ∧ h' = h) := by
  have hw := X.hw
  obtain ⟨z1, hz1, hz2⟩ := X.2.2.1
  refine Ctr.intro (a0 := a0) (plainFor_of_name pn1) hO X.ew ?_
  intro p e s m below meth c T0 V0 S0 hby hml hret hnm hsf
  rw [ef3]
  refine s_iloadN S0 (hb hby dFI_0) rfl (pc' := 1) rfl ?_
  refine s_iloadN S0 (hb hby dFI_1) rfl (pc' := 2) rfl ?_
  refine s_icmpN S0 (hb hby dFI_2) ((tlt hi).2.1) (pc' := 5) rfl ?_
  refine s_iloadN S0 (hb hby dFI_5) rfl (pc' := 6) rfl ?_
  show Go p e below _ (T0.setTop (mkF m 6 #[.val (.int i), .val (.int n), .val (.int ch)] [(.int ch)]))
  refine g_static S0 (rmIL X ch S0.old) (fun _ q => nomatch q) (w71 hw) (w72 hw) (w73 hw) (w74 hw) (by decide) (hb hby dFI_6) (by rw [hml]; rfl) [(.int ch)] (lenOf pd1 rfl) rfl rfl (Nat.le_of_ble_eq_true rfl) (Nat.le_of_ble_eq_true rfl) (Nat.le_of_ble_eq_true rfl) (Nat.le_of_ble_eq_true rfl) ?_
  intro v11 T11 V11 h11 S11 C11 q11
  obtain ⟨r10, rfl, hr10, rfl⟩ := q11
  rcases hr10 with ⟨rfl, hr10⟩ | ⟨rfl, hr10⟩
  · skip
    show Go p e below _ (T11.setTop (mkF m 9 #[.val (.int i), .val (.int n), .val (.int ch)] [(.int (1 : Int32))]))
    refine s_ifY S11 (hb hby dFI_9) (by decide) (by decide) (pcT := 19) (by decide) ?_
    refine s_iconst S11 (hb hby dFI_19) (v := (1 : Int32)) rfl (pc' := 20) rfl ?_
    refine s_goto S11 (hb hby dFI_20) (by decide) (pcT := 24) (by decide) ?_
    show Go p e below _ (T11.setTop (mkF m 24 #[.val (.int i), .val (.int n), .val (.int ch)] [(.int (1 : Int32))]))
    exact g_iretN S11 (hb hby dFI_24) hret (by simp) ⟨_, rfl, Or.inl ⟨rfl, Or.inl hr10⟩, rfl⟩
  · skip
    show Go p e below _ (T11.setTop (mkF m 9 #[.val (.int i), .val (.int n), .val (.int ch)] [(.int (0 : Int32))]))
    refine s_ifN S11 (hb hby dFI_9) (by decide) (pc' := 12) rfl ?_
    refine s_iloadN S11 (hb hby dFI_12) rfl (pc' := 13) rfl ?_
    show Go p e below _ (T11.setTop (mkF m 13 #[.val (.int i), .val (.int n), .val (.int ch)] [(.int ch)]))
    refine g_static S11 (rmIH X ch S11.old) (fun _ q => nomatch q) (w81 hw) (w82 hw) (w73 hw) (w83 hw) (by decide) (hb hby dFI_13) (by rw [hml]; rfl) [(.int ch)] (lenOf pd1 rfl) rfl rfl (Nat.le_of_ble_eq_true rfl) (Nat.le_of_ble_eq_true rfl) (Nat.le_of_ble_eq_true rfl) (Nat.le_of_ble_eq_true rfl) ?_
    intro v13 T13 V13 h13 S13 C13 q13
    obtain ⟨r12, rfl, hr12, rfl⟩ := q13
    rcases hr12 with ⟨rfl, hr12⟩ | ⟨rfl, hr12⟩
    · skip
      show Go p e below _ (T13.setTop (mkF m 16 #[.val (.int i), .val (.int n), .val (.int ch)] [(.int (1 : Int32))]))
      refine s_ifN S13 (hb hby dFI_16) (by decide) (pc' := 19) rfl ?_
      refine s_iconst S13 (hb hby dFI_19) (v := (1 : Int32)) rfl (pc' := 20) rfl ?_
      refine s_goto S13 (hb hby dFI_20) (by decide) (pcT := 24) (by decide) ?_
      show Go p e below _ (T13.setTop (mkF m 24 #[.val (.int i), .val (.int n), .val (.int ch)] [(.int (1 : Int32))]))
      exact g_iretN S13 (hb hby dFI_24) hret (by simp) ⟨_, rfl, Or.inl ⟨rfl, Or.inr hr12⟩, rfl⟩
    · skip
      show Go p e below _ (T13.setTop (mkF m 16 #[.val (.int i), .val (.int n), .val (.int ch)] [(.int (0 : Int32))]))
      refine s_ifY S13 (hb hby dFI_16) (by decide) (by decide) (pcT := 23) (by decide) ?_
      refine s_iconst S13 (hb hby dFI_23) (v := (0 : Int32)) rfl (pc' := 24) rfl ?_
      show Go p e below _ (T13.setTop (mkF m 24 #[.val (.int i), .val (.int n), .val (.int ch)] [(.int (0 : Int32))]))
      exact g_iretN S13 (hb hby dFI_24) hret (by simp) ⟨_, rfl, Or.inr ⟨rfl, fun q => q.elim hr10 hr12⟩, rfl⟩
theorem dFO_0 : decode method_4_code 0 = .ok (.iload_n 0, 1) := by decide +kernel
theorem dFO_1 : decode method_4_code 1 = .ok (.iload_n 1, 1) := by decide +kernel
theorem dFO_2 : decode method_4_code 2 = .ok (.if_icmp .ge 17, 3) := by decide +kernel
theorem dFO_19 : decode method_4_code 19 = .ok (.iconst 1, 1) := by decide +kernel
theorem dFO_20 : decode method_4_code 20 = .ok (.goto 4, 3) := by decide +kernel
theorem dFO_24 : decode method_4_code 24 = .ok (.ireturn, 1) := by decide +kernel
set_option maxRecDepth 65536 in
set_option maxHeartbeats 40000000 in
theorem rmFO {l : Launch} {Z : State} {a0 : Array Value} {n0 : Nat} (X : Ctx Z a0) {i n : Int32} (ch : Int32) {h : Heap} (hO : Old Z n0 h) (hi : ¬ i < n) :
    Ctr l Z EL1 n0 (⟨"com/example/remora/remora/MethodsIsMethodNamePinLaw", "fine", "(IIC)Z"⟩ : MethodName) method_4_code 3 (some .boolean) ({ frames := 1, cells := 0, slots := 0, locals := 12 } : Room) #[(.int i), (.int n), (.int ch)] h [] (fun v h' => v = some (.int 1) ∧ h' = h) := by
  have hw := X.hw
  obtain ⟨z1, hz1, hz2⟩ := X.2.2.1
  refine Ctr.intro (a0 := a0) (plainFor_of_name pn1) hO X.ew ?_
  intro p e s m below meth c T0 V0 S0 hby hml hret hnm hsf
  rw [ef3]
  refine s_iloadN S0 (hb hby dFO_0) rfl (pc' := 1) rfl ?_
  refine s_iloadN S0 (hb hby dFO_1) rfl (pc' := 2) rfl ?_
  refine s_icmpY S0 (hb hby dFO_2) ((flt hi).2.1) (by decide) (pcT := 19) (by decide) ?_
  refine s_iconst S0 (hb hby dFO_19) (v := (1 : Int32)) rfl (pc' := 20) rfl ?_
  refine s_goto S0 (hb hby dFO_20) (by decide) (pcT := 24) (by decide) ?_
  show Go p e below _ (T0.setTop (mkF m 24 #[.val (.int i), .val (.int n), .val (.int ch)] [(.int (1 : Int32))]))
  exact g_iretN S0 (hb hby dFO_24) hret (by simp) ⟨rfl, rfl⟩
theorem dNP_0 : decode method_5_code 0 = .ok (.iload_n 0, 1) := by decide +kernel
theorem dNP_1 : decode method_5_code 1 = .ok (.iload_n 1, 1) := by decide +kernel
theorem dNP_2 : decode method_5_code 2 = .ok (.if_icmp .ge 17, 3) := by decide +kernel
theorem dNP_5 : decode method_5_code 5 = .ok (.iload_n 2, 1) := by decide +kernel
theorem dNP_6 : decode method_5_code 6 = .ok (.invokestatic 13, 3) := by decide +kernel
theorem dNP_9 : decode method_5_code 9 = .ok (.ifCond .eq 10, 3) := by decide +kernel
theorem dNP_12 : decode method_5_code 12 = .ok (.iload_n 3, 1) := by decide +kernel
theorem dNP_13 : decode method_5_code 13 = .ok (.invokestatic 13, 3) := by decide +kernel
theorem dNP_16 : decode method_5_code 16 = .ok (.ifCond .ne 7, 3) := by decide +kernel
theorem dNP_19 : decode method_5_code 19 = .ok (.iconst 1, 1) := by decide +kernel
theorem dNP_20 : decode method_5_code 20 = .ok (.goto 4, 3) := by decide +kernel
theorem dNP_23 : decode method_5_code 23 = .ok (.iconst 0, 1) := by decide +kernel
theorem dNP_24 : decode method_5_code 24 = .ok (.ireturn, 1) := by decide +kernel
set_option maxRecDepth 65536 in
set_option maxHeartbeats 40000000 in
theorem rmNP {l : Launch} {Z : State} {a0 : Array Value} {n0 : Nat} (X : Ctx Z a0) {i n : Int32} (pr ch : Int32) {h : Heap} (hO : Old Z n0 h) (hi : i < n) :
    Ctr l Z EL1 n0 (⟨"com/example/remora/remora/MethodsIsMethodNamePinLaw", "noPair", "(IICC)Z"⟩ : MethodName) method_5_code 4 (some .boolean) ({ frames := 1, cells := 0, slots := 0, locals := 12 } : Room) #[(.int i), (.int n), (.int pr), (.int ch)] h [] (fun v h' => ∃ r : Int32, v = some (.int r) ∧ ((r = 1 ∧ (¬ (pr = 45 ∧ ch = 45))) ∨ (r = 0 ∧ ¬ (¬ (pr = 45 ∧ ch = 45)))) ∧ h' = h) := by
  have hw := X.hw
  obtain ⟨z1, hz1, hz2⟩ := X.2.2.1
  refine Ctr.intro (a0 := a0) (plainFor_of_name pn1) hO X.ew ?_
  intro p e s m below meth c T0 V0 S0 hby hml hret hnm hsf
  rw [ef4]
  refine s_iloadN S0 (hb hby dNP_0) rfl (pc' := 1) rfl ?_
  refine s_iloadN S0 (hb hby dNP_1) rfl (pc' := 2) rfl ?_
  refine s_icmpN S0 (hb hby dNP_2) ((tlt hi).2.1) (pc' := 5) rfl ?_
  refine s_iloadN S0 (hb hby dNP_5) rfl (pc' := 6) rfl ?_
  show Go p e below _ (T0.setTop (mkF m 6 #[.val (.int i), .val (.int n), .val (.int pr), .val (.int ch)] [(.int pr)]))
  refine g_static S0 (rmIH X pr S0.old) (fun _ q => nomatch q) (w81 hw) (w82 hw) (w73 hw) (w83 hw) (by decide) (hb hby dNP_6) (by rw [hml]; rfl) [(.int pr)] (lenOf pd1 rfl) rfl rfl (Nat.le_of_ble_eq_true rfl) (Nat.le_of_ble_eq_true rfl) (Nat.le_of_ble_eq_true rfl) (Nat.le_of_ble_eq_true rfl) ?_
  intro v15 T15 V15 h15 S15 C15 q15
  obtain ⟨r14, rfl, hr14, rfl⟩ := q15
  rcases hr14 with ⟨rfl, hr14⟩ | ⟨rfl, hr14⟩
  · skip
    show Go p e below _ (T15.setTop (mkF m 9 #[.val (.int i), .val (.int n), .val (.int pr), .val (.int ch)] [(.int (1 : Int32))]))
    refine s_ifN S15 (hb hby dNP_9) (by decide) (pc' := 12) rfl ?_
    refine s_iloadN S15 (hb hby dNP_12) rfl (pc' := 13) rfl ?_
    show Go p e below _ (T15.setTop (mkF m 13 #[.val (.int i), .val (.int n), .val (.int pr), .val (.int ch)] [(.int ch)]))
    refine g_static S15 (rmIH X ch S15.old) (fun _ q => nomatch q) (w81 hw) (w82 hw) (w73 hw) (w83 hw) (by decide) (hb hby dNP_13) (by rw [hml]; rfl) [(.int ch)] (lenOf pd1 rfl) rfl rfl (Nat.le_of_ble_eq_true rfl) (Nat.le_of_ble_eq_true rfl) (Nat.le_of_ble_eq_true rfl) (Nat.le_of_ble_eq_true rfl) ?_
    intro v17 T17 V17 h17 S17 C17 q17
    obtain ⟨r16, rfl, hr16, rfl⟩ := q17
    rcases hr16 with ⟨rfl, hr16⟩ | ⟨rfl, hr16⟩
    · skip
      show Go p e below _ (T17.setTop (mkF m 16 #[.val (.int i), .val (.int n), .val (.int pr), .val (.int ch)] [(.int (1 : Int32))]))
      refine s_ifY S17 (hb hby dNP_16) (by decide) (by decide) (pcT := 23) (by decide) ?_
      refine s_iconst S17 (hb hby dNP_23) (v := (0 : Int32)) rfl (pc' := 24) rfl ?_
      show Go p e below _ (T17.setTop (mkF m 24 #[.val (.int i), .val (.int n), .val (.int pr), .val (.int ch)] [(.int (0 : Int32))]))
      exact g_iretN S17 (hb hby dNP_24) hret (by simp) ⟨_, rfl, Or.inr ⟨rfl, fun q => q ⟨hr14, hr16⟩⟩, rfl⟩
    · skip
      show Go p e below _ (T17.setTop (mkF m 16 #[.val (.int i), .val (.int n), .val (.int pr), .val (.int ch)] [(.int (0 : Int32))]))
      refine s_ifN S17 (hb hby dNP_16) (by decide) (pc' := 19) rfl ?_
      refine s_iconst S17 (hb hby dNP_19) (v := (1 : Int32)) rfl (pc' := 20) rfl ?_
      refine s_goto S17 (hb hby dNP_20) (by decide) (pcT := 24) (by decide) ?_
      show Go p e below _ (T17.setTop (mkF m 24 #[.val (.int i), .val (.int n), .val (.int pr), .val (.int ch)] [(.int (1 : Int32))]))
      exact g_iretN S17 (hb hby dNP_24) hret (by simp) ⟨_, rfl, Or.inl ⟨rfl, fun q => hr16 q.2⟩, rfl⟩
  · skip
    show Go p e below _ (T15.setTop (mkF m 9 #[.val (.int i), .val (.int n), .val (.int pr), .val (.int ch)] [(.int (0 : Int32))]))
    refine s_ifY S15 (hb hby dNP_9) (by decide) (by decide) (pcT := 19) (by decide) ?_
    refine s_iconst S15 (hb hby dNP_19) (v := (1 : Int32)) rfl (pc' := 20) rfl ?_
    refine s_goto S15 (hb hby dNP_20) (by decide) (pcT := 24) (by decide) ?_
    show Go p e below _ (T15.setTop (mkF m 24 #[.val (.int i), .val (.int n), .val (.int pr), .val (.int ch)] [(.int (1 : Int32))]))
    exact g_iretN S15 (hb hby dNP_24) hret (by simp) ⟨_, rfl, Or.inl ⟨rfl, fun q => hr14 q.1⟩, rfl⟩
theorem dNO_0 : decode method_5_code 0 = .ok (.iload_n 0, 1) := by decide +kernel
theorem dNO_1 : decode method_5_code 1 = .ok (.iload_n 1, 1) := by decide +kernel
theorem dNO_2 : decode method_5_code 2 = .ok (.if_icmp .ge 17, 3) := by decide +kernel
theorem dNO_19 : decode method_5_code 19 = .ok (.iconst 1, 1) := by decide +kernel
theorem dNO_20 : decode method_5_code 20 = .ok (.goto 4, 3) := by decide +kernel
theorem dNO_24 : decode method_5_code 24 = .ok (.ireturn, 1) := by decide +kernel
set_option maxRecDepth 65536 in
set_option maxHeartbeats 40000000 in
theorem rmNO {l : Launch} {Z : State} {a0 : Array Value} {n0 : Nat} (X : Ctx Z a0) {i n : Int32} (pr ch : Int32) {h : Heap} (hO : Old Z n0 h) (hi : ¬ i < n) :
    Ctr l Z EL1 n0 (⟨"com/example/remora/remora/MethodsIsMethodNamePinLaw", "noPair", "(IICC)Z"⟩ : MethodName) method_5_code 4 (some .boolean) ({ frames := 1, cells := 0, slots := 0, locals := 12 } : Room) #[(.int i), (.int n), (.int pr), (.int ch)] h [] (fun v h' => v = some (.int 1) ∧ h' = h) := by
  have hw := X.hw
  obtain ⟨z1, hz1, hz2⟩ := X.2.2.1
  refine Ctr.intro (a0 := a0) (plainFor_of_name pn1) hO X.ew ?_
  intro p e s m below meth c T0 V0 S0 hby hml hret hnm hsf
  rw [ef4]
  refine s_iloadN S0 (hb hby dNO_0) rfl (pc' := 1) rfl ?_
  refine s_iloadN S0 (hb hby dNO_1) rfl (pc' := 2) rfl ?_
  refine s_icmpY S0 (hb hby dNO_2) ((flt hi).2.1) (by decide) (pcT := 19) (by decide) ?_
  refine s_iconst S0 (hb hby dNO_19) (v := (1 : Int32)) rfl (pc' := 20) rfl ?_
  refine s_goto S0 (hb hby dNO_20) (by decide) (pcT := 24) (by decide) ?_
  show Go p e below _ (T0.setTop (mkF m 24 #[.val (.int i), .val (.int n), .val (.int pr), .val (.int ch)] [(.int (1 : Int32))]))
  exact g_iretN S0 (hb hby dNO_24) hret (by simp) ⟨rfl, rfl⟩
theorem dIM_0 : decode prog_5_method_3_code 0 = .ok (.iconst 0, 1) := by decide +kernel
theorem dIM_1 : decode prog_5_method_3_code 1 = .ok (.istore_n 1, 1) := by decide +kernel
theorem dIM_2 : decode prog_5_method_3_code 2 = .ok (.iconst 0, 1) := by decide +kernel
theorem dIM_3 : decode prog_5_method_3_code 3 = .ok (.istore_n 2, 1) := by decide +kernel
theorem dIM_4 : decode prog_5_method_3_code 4 = .ok (.iload_n 2, 1) := by decide +kernel
theorem dIM_5 : decode prog_5_method_3_code 5 = .ok (.aload_n 0, 1) := by decide +kernel
theorem dIM_6 : decode prog_5_method_3_code 6 = .ok (.invokevirtual 19, 3) := by decide +kernel
theorem dIM_9 : decode prog_5_method_3_code 9 = .ok (.if_icmp .ge 49, 3) := by decide +kernel
theorem dIM_12 : decode prog_5_method_3_code 12 = .ok (.aload_n 0, 1) := by decide +kernel
theorem dIM_13 : decode prog_5_method_3_code 13 = .ok (.iload_n 2, 1) := by decide +kernel
theorem dIM_14 : decode prog_5_method_3_code 14 = .ok (.invokevirtual 23, 3) := by decide +kernel
theorem dIM_17 : decode prog_5_method_3_code 17 = .ok (.istore_n 3, 1) := by decide +kernel
theorem dIM_18 : decode prog_5_method_3_code 18 = .ok (.iload_n 3, 1) := by decide +kernel
theorem dIM_19 : decode prog_5_method_3_code 19 = .ok (.bipush 65, 2) := by decide +kernel
theorem dIM_21 : decode prog_5_method_3_code 21 = .ok (.if_icmp .lt 14, 3) := by decide +kernel
theorem dIM_24 : decode prog_5_method_3_code 24 = .ok (.iload_n 3, 1) := by decide +kernel
theorem dIM_25 : decode prog_5_method_3_code 25 = .ok (.bipush 90, 2) := by decide +kernel
theorem dIM_27 : decode prog_5_method_3_code 27 = .ok (.if_icmp .gt 8, 3) := by decide +kernel
theorem dIM_30 : decode prog_5_method_3_code 30 = .ok (.iconst 1, 1) := by decide +kernel
theorem dIM_31 : decode prog_5_method_3_code 31 = .ok (.istore_n 1, 1) := by decide +kernel
theorem dIM_32 : decode prog_5_method_3_code 32 = .ok (.goto 20, 3) := by decide +kernel
theorem dIM_35 : decode prog_5_method_3_code 35 = .ok (.iload_n 3, 1) := by decide +kernel
theorem dIM_36 : decode prog_5_method_3_code 36 = .ok (.bipush 45, 2) := by decide +kernel
theorem dIM_38 : decode prog_5_method_3_code 38 = .ok (.if_icmp .ne 12, 3) := by decide +kernel
theorem dIM_41 : decode prog_5_method_3_code 41 = .ok (.iload_n 1, 1) := by decide +kernel
theorem dIM_42 : decode prog_5_method_3_code 42 = .ok (.ifCond .eq 8, 3) := by decide +kernel
theorem dIM_45 : decode prog_5_method_3_code 45 = .ok (.iconst 0, 1) := by decide +kernel
theorem dIM_46 : decode prog_5_method_3_code 46 = .ok (.istore_n 1, 1) := by decide +kernel
theorem dIM_47 : decode prog_5_method_3_code 47 = .ok (.goto 5, 3) := by decide +kernel
theorem dIM_50 : decode prog_5_method_3_code 50 = .ok (.iconst 0, 1) := by decide +kernel
theorem dIM_51 : decode prog_5_method_3_code 51 = .ok (.ireturn, 1) := by decide +kernel
theorem dIM_52 : decode prog_5_method_3_code 52 = .ok (.iinc 2 1, 3) := by decide +kernel
theorem dIM_55 : decode prog_5_method_3_code 55 = .ok (.goto (-51), 3) := by decide +kernel
theorem dIM_58 : decode prog_5_method_3_code 58 = .ok (.iload_n 1, 1) := by decide +kernel
theorem dIM_59 : decode prog_5_method_3_code 59 = .ok (.ireturn, 1) := by decide +kernel
set_option maxRecDepth 65536 in
set_option maxHeartbeats 40000000 in
theorem rmIM {l : Launch} {Z : State} {a0 : Array Value} {n0 : Nat} (X : Ctx Z a0) {a : Addr} {cs : List Int32} {h : Heap} (hO : Old Z n0 h) (F : StrF Z h a cs) (lat : ∀ c ∈ cs, ¬ (255 : Int32) < c) :
    Ctr l Z EL1 n0 (⟨"com/example/remora/remora/Methods", "isMethodName", "(Ljava/lang/String;)Z"⟩ : MethodName) prog_5_method_3_code 4 (some .boolean) ({ frames := 4, cells := 0, slots := 0, locals := 53 } : Room) #[(.ref a)] h [] (fun v h' => v = some (.int (if imF false cs = true then 1 else 0)) ∧ h' = h) := by
  have hw := X.hw
  obtain ⟨z1, hz1, hz2⟩ := X.2.2.1
  refine Ctr.intro (a0 := a0) (plainFor_of_name pn2) hO X.ew ?_
  intro p e s m below meth c T0 V0 S0 hby hml hret hnm hsf
  rw [ef5]
  have hlen : cs.length ≤ 4000 := by obtain ⟨t, kb, cd, N2, vs, -, -, -, -, -, -, q⟩ := F; exact q
  have loop : ∀ (rs pr : List Int32), cs = pr ++ rs → ∀ (bb : Bool), imF false cs = imF bb rs → ∀ (b : Int32), b = (if bb = true then 1 else 0) → ∀ (s3 : Slot), One s3 → ∀ (T : State) (V : Vm), St p l e ({ frames := 4, cells := 0, slots := 0, locals := 53 } : Room) s m #[(.ref a)] below meth c Z a0 EL1 n0 "com/example/remora/remora/Methods" T V h 0 0 → Go p e below (Fini Z EL1 n0 s ({ frames := 4, cells := 0, slots := 0, locals := 53 } : Room) (fun v h' => v = some (.int (if imF false cs = true then 1 else 0)) ∧ h' = h)) (T.setTop (mkF m 4 #[.val (.ref a), .val (.int b), .val (.int (Int32.ofNat pr.length)), s3] [])) := by
    intro rs
    induction rs with
    | nil =>
      intro pr hcs bb hI b hbq s3 h3 T V S
      have hn : pr.length = cs.length := by rw [hcs]; simp
      show Go p e below _ (T.setTop (mkF m 4 #[.val (.ref a), .val (.int b), .val (.int (Int32.ofNat pr.length)), s3] []))
      refine s_iloadN S (hb hby dIM_4) rfl (pc' := 5) rfl ?_
      refine s_aloadN S (hb hby dIM_5) rfl rfl (pc' := 6) rfl ?_
      show Go p e below _ (T.setTop (mkF m 6 #[.val (.ref a), .val (.int b), .val (.int (Int32.ofNat pr.length)), s3] [(.ref a), (.int (Int32.ofNat pr.length))]))
      refine g_strLen S X F (w28 hw) (hb hby dIM_6) (by rw [hml]; rfl) (Nat.le_of_ble_eq_true rfl) (Nat.le_of_ble_eq_true rfl) (Nat.le_of_ble_eq_true rfl) (Nat.le_of_ble_eq_true rfl) ?_
      intro T18 S18
      show Go p e below _ (T18.setTop (mkF m 9 #[.val (.ref a), .val (.int b), .val (.int (Int32.ofNat pr.length)), s3] [(.int (Int32.ofNat cs.length)), (.int (Int32.ofNat pr.length))]))
      show Go p e below _ (T18.setTop (mkF m 9 #[.val (.ref a), .val (.int b), .val (.int (Int32.ofNat pr.length)), s3] [(.int (Int32.ofNat cs.length)), (.int (Int32.ofNat pr.length))]))
      refine s_icmpY S18 (hb hby dIM_9) ((flt (by rw [hn]; exact fun q => Int32.lt_irrefl q)).2.1) (by decide) (pcT := 58) (by decide) ?_
      refine s_iloadN S18 (hb hby dIM_58) rfl (pc' := 59) rfl ?_
      exact g_iretN S18 (hb hby dIM_59) hret (by simp) ⟨by rw [hI, hbq, own_narb]; rfl, rfl⟩
    | cons x rs ih =>
      intro pr hcs bb hI b hbq s3 h3 T V S
      have hn : pr.length < cs.length := by rw [hcs]; simp
      have hx : cs.getD pr.length 0 = x := by rw [hcs]; simp
      have hpl : (Int32.ofNat pr.length) + (1 : Int32) = Int32.ofNat (pr ++ [x]).length := by rw [List.length_append]; exact own_succ _
      have hcs2 : cs = (pr ++ [x]) ++ rs := by rw [hcs]; simp
      show Go p e below _ (T.setTop (mkF m 4 #[.val (.ref a), .val (.int b), .val (.int (Int32.ofNat pr.length)), s3] []))
      refine s_iloadN S (hb hby dIM_4) rfl (pc' := 5) rfl ?_
      refine s_aloadN S (hb hby dIM_5) rfl rfl (pc' := 6) rfl ?_
      show Go p e below _ (T.setTop (mkF m 6 #[.val (.ref a), .val (.int b), .val (.int (Int32.ofNat pr.length)), s3] [(.ref a), (.int (Int32.ofNat pr.length))]))
      refine g_strLen S X F (w28 hw) (hb hby dIM_6) (by rw [hml]; rfl) (Nat.le_of_ble_eq_true rfl) (Nat.le_of_ble_eq_true rfl) (Nat.le_of_ble_eq_true rfl) (Nat.le_of_ble_eq_true rfl) ?_
      intro T19 S19
      show Go p e below _ (T19.setTop (mkF m 9 #[.val (.ref a), .val (.int b), .val (.int (Int32.ofNat pr.length)), s3] [(.int (Int32.ofNat cs.length)), (.int (Int32.ofNat pr.length))]))
      show Go p e below _ (T19.setTop (mkF m 9 #[.val (.ref a), .val (.int b), .val (.int (Int32.ofNat pr.length)), s3] [(.int (Int32.ofNat cs.length)), (.int (Int32.ofNat pr.length))]))
      refine s_icmpN S19 (hb hby dIM_9) ((tlt (own_ltN hn hlen)).2.1) (pc' := 12) rfl ?_
      refine s_aloadN S19 (hb hby dIM_12) rfl rfl (pc' := 13) rfl ?_
      refine s_iloadN S19 (hb hby dIM_13) rfl (pc' := 14) rfl ?_
      show Go p e below _ (T19.setTop (mkF m 14 #[.val (.ref a), .val (.int b), .val (.int (Int32.ofNat pr.length)), s3] [(.int (Int32.ofNat pr.length)), (.ref a)]))
      refine g_strChar S19 X (i := pr.length) F lat hn rfl (w49 hw) (hb hby dIM_14) (by rw [hml]; rfl) (Nat.le_of_ble_eq_true rfl) (Nat.le_of_ble_eq_true rfl) (Nat.le_of_ble_eq_true rfl) (Nat.le_of_ble_eq_true rfl) ?_
      intro T20 S20
      rw [hx]
      show Go p e below _ (T20.setTop (mkF m 17 #[.val (.ref a), .val (.int b), .val (.int (Int32.ofNat pr.length)), s3] [(.int x)]))
      refine s_istoreN S20 (hb hby dIM_17) (L' := #[.val (.ref a), .val (.int b), .val (.int (Int32.ofNat pr.length)), .val (.int x)]) (own_st3 h3) (pc' := 18) rfl ?_
      refine s_iloadN S20 (hb hby dIM_18) rfl (pc' := 19) rfl ?_
      refine s_bipush S20 (hb hby dIM_19) (v := (65 : Int32)) rfl (pc' := 21) rfl ?_
      refine g_icmp S20 (hb hby dIM_21) (by decide) (pcT := 35) (by decide) (fun q => ?_) (fun q => ?_)
      · have hc21_21 : x < (65 : Int32) := icT_lt q
        show Go p e below _ (T20.setTop (mkF m 35 #[.val (.ref a), .val (.int b), .val (.int (Int32.ofNat pr.length)), .val (.int x)] []))
        refine s_iloadN S20 (hb hby dIM_35) rfl (pc' := 36) rfl ?_
        refine s_bipush S20 (hb hby dIM_36) (v := (45 : Int32)) rfl (pc' := 38) rfl ?_
        refine g_icmp S20 (hb hby dIM_38) (by decide) (pcT := 50) (by decide) (fun q => ?_) (fun q => ?_)
        · have hc38_22 : ¬ x = (45 : Int32) := icT_ne q
          show Go p e below _ (T20.setTop (mkF m 50 #[.val (.ref a), .val (.int b), .val (.int (Int32.ofNat pr.length)), .val (.int x)] []))
          refine s_iconst S20 (hb hby dIM_50) (v := (0 : Int32)) rfl (pc' := 51) rfl ?_
          show Go p e below _ (T20.setTop (mkF m 51 #[.val (.ref a), .val (.int b), .val (.int (Int32.ofNat pr.length)), .val (.int x)] [(.int (0 : Int32))]))
          refine g_iretN S20 (hb hby dIM_51) hret (by simp) ⟨?_, rfl⟩
          rw [hI, own_imR (by exact own_notL_1 hc21_21) (Or.inl hc38_22)]; rfl
        · have hc38_22 : x = (45 : Int32) := icF_ne q
          show Go p e below _ (T20.setTop (mkF m 41 #[.val (.ref a), .val (.int b), .val (.int (Int32.ofNat pr.length)), .val (.int x)] []))
          refine s_iloadN S20 (hb hby dIM_41) rfl (pc' := 42) rfl ?_
          refine g_if S20 (hb hby dIM_42) (by decide) (pcT := 50) (by decide) (fun q => ?_) (fun q => ?_)
          · have hc42_23 : b = (0 : Int32) := icT_eq q
            show Go p e below _ (T20.setTop (mkF m 50 #[.val (.ref a), .val (.int b), .val (.int (Int32.ofNat pr.length)), .val (.int x)] []))
            refine s_iconst S20 (hb hby dIM_50) (v := (0 : Int32)) rfl (pc' := 51) rfl ?_
            show Go p e below _ (T20.setTop (mkF m 51 #[.val (.ref a), .val (.int b), .val (.int (Int32.ofNat pr.length)), .val (.int x)] [(.int (0 : Int32))]))
            refine g_iretN S20 (hb hby dIM_51) hret (by simp) ⟨?_, rfl⟩
            rw [hI, own_imR (by exact own_notL_1 hc21_21) (Or.inr (own_b0 hbq hc42_23))]; rfl
          · have hc42_23 : ¬ b = (0 : Int32) := icF_eq q
            show Go p e below _ (T20.setTop (mkF m 45 #[.val (.ref a), .val (.int b), .val (.int (Int32.ofNat pr.length)), .val (.int x)] []))
            refine s_iconst S20 (hb hby dIM_45) (v := (0 : Int32)) rfl (pc' := 46) rfl ?_
            refine s_istoreN S20 (hb hby dIM_46) (L' := #[.val (.ref a), .val (.int (0 : Int32)), .val (.int (Int32.ofNat pr.length)), .val (.int x)]) rfl (pc' := 47) rfl ?_
            refine s_goto S20 (hb hby dIM_47) (by decide) (pcT := 52) (by decide) ?_
            show Go p e below _ (T20.setTop (mkF m 52 #[.val (.ref a), .val (.int (0 : Int32)), .val (.int (Int32.ofNat pr.length)), .val (.int x)] []))
            refine s_iinc S20 (hb hby dIM_52) rfl (z := Int32.ofNat (pr ++ [x]).length) hpl (L' := #[.val (.ref a), .val (.int (0 : Int32)), .val (.int (Int32.ofNat (pr ++ [x]).length)), .val (.int x)]) rfl (pc' := 55) rfl ?_
            refine s_goto S20 (hb hby dIM_55) (by decide) (pcT := 4) (by decide) ?_
            exact ih (pr ++ [x]) hcs2 false (by rw [hI, own_imH (own_notL_1 hc21_21) hc38_22 (own_b1 hbq hc42_23)]) _ rfl _ (One.val rfl) _ _ S20
      · have hc21_21 : ¬ x < (65 : Int32) := icF_lt q
        show Go p e below _ (T20.setTop (mkF m 24 #[.val (.ref a), .val (.int b), .val (.int (Int32.ofNat pr.length)), .val (.int x)] []))
        refine s_iloadN S20 (hb hby dIM_24) rfl (pc' := 25) rfl ?_
        refine s_bipush S20 (hb hby dIM_25) (v := (90 : Int32)) rfl (pc' := 27) rfl ?_
        refine g_icmp S20 (hb hby dIM_27) (by decide) (pcT := 35) (by decide) (fun q => ?_) (fun q => ?_)
        · have hc27_24 : (90 : Int32) < x := icT_gt q
          show Go p e below _ (T20.setTop (mkF m 35 #[.val (.ref a), .val (.int b), .val (.int (Int32.ofNat pr.length)), .val (.int x)] []))
          refine s_iloadN S20 (hb hby dIM_35) rfl (pc' := 36) rfl ?_
          refine s_bipush S20 (hb hby dIM_36) (v := (45 : Int32)) rfl (pc' := 38) rfl ?_
          refine g_icmp S20 (hb hby dIM_38) (by decide) (pcT := 50) (by decide) (fun q => ?_) (fun q => ?_)
          · have hc38_25 : ¬ x = (45 : Int32) := icT_ne q
            show Go p e below _ (T20.setTop (mkF m 50 #[.val (.ref a), .val (.int b), .val (.int (Int32.ofNat pr.length)), .val (.int x)] []))
            refine s_iconst S20 (hb hby dIM_50) (v := (0 : Int32)) rfl (pc' := 51) rfl ?_
            show Go p e below _ (T20.setTop (mkF m 51 #[.val (.ref a), .val (.int b), .val (.int (Int32.ofNat pr.length)), .val (.int x)] [(.int (0 : Int32))]))
            refine g_iretN S20 (hb hby dIM_51) hret (by simp) ⟨?_, rfl⟩
            rw [hI, own_imR (by exact own_notL_2 hc21_21 hc27_24) (Or.inl hc38_25)]; rfl
          · have hc38_25 : x = (45 : Int32) := icF_ne q
            show Go p e below _ (T20.setTop (mkF m 41 #[.val (.ref a), .val (.int b), .val (.int (Int32.ofNat pr.length)), .val (.int x)] []))
            refine s_iloadN S20 (hb hby dIM_41) rfl (pc' := 42) rfl ?_
            refine g_if S20 (hb hby dIM_42) (by decide) (pcT := 50) (by decide) (fun q => ?_) (fun q => ?_)
            · have hc42_26 : b = (0 : Int32) := icT_eq q
              show Go p e below _ (T20.setTop (mkF m 50 #[.val (.ref a), .val (.int b), .val (.int (Int32.ofNat pr.length)), .val (.int x)] []))
              refine s_iconst S20 (hb hby dIM_50) (v := (0 : Int32)) rfl (pc' := 51) rfl ?_
              show Go p e below _ (T20.setTop (mkF m 51 #[.val (.ref a), .val (.int b), .val (.int (Int32.ofNat pr.length)), .val (.int x)] [(.int (0 : Int32))]))
              refine g_iretN S20 (hb hby dIM_51) hret (by simp) ⟨?_, rfl⟩
              rw [hI, own_imR (by exact own_notL_2 hc21_21 hc27_24) (Or.inr (own_b0 hbq hc42_26))]; rfl
            · have hc42_26 : ¬ b = (0 : Int32) := icF_eq q
              show Go p e below _ (T20.setTop (mkF m 45 #[.val (.ref a), .val (.int b), .val (.int (Int32.ofNat pr.length)), .val (.int x)] []))
              refine s_iconst S20 (hb hby dIM_45) (v := (0 : Int32)) rfl (pc' := 46) rfl ?_
              refine s_istoreN S20 (hb hby dIM_46) (L' := #[.val (.ref a), .val (.int (0 : Int32)), .val (.int (Int32.ofNat pr.length)), .val (.int x)]) rfl (pc' := 47) rfl ?_
              refine s_goto S20 (hb hby dIM_47) (by decide) (pcT := 52) (by decide) ?_
              show Go p e below _ (T20.setTop (mkF m 52 #[.val (.ref a), .val (.int (0 : Int32)), .val (.int (Int32.ofNat pr.length)), .val (.int x)] []))
              refine s_iinc S20 (hb hby dIM_52) rfl (z := Int32.ofNat (pr ++ [x]).length) hpl (L' := #[.val (.ref a), .val (.int (0 : Int32)), .val (.int (Int32.ofNat (pr ++ [x]).length)), .val (.int x)]) rfl (pc' := 55) rfl ?_
              refine s_goto S20 (hb hby dIM_55) (by decide) (pcT := 4) (by decide) ?_
              exact ih (pr ++ [x]) hcs2 false (by rw [hI, own_imH (own_notL_2 hc21_21 hc27_24) hc38_25 (own_b1 hbq hc42_26)]) _ rfl _ (One.val rfl) _ _ S20
        · have hc27_24 : ¬ (90 : Int32) < x := icF_gt q
          show Go p e below _ (T20.setTop (mkF m 30 #[.val (.ref a), .val (.int b), .val (.int (Int32.ofNat pr.length)), .val (.int x)] []))
          refine s_iconst S20 (hb hby dIM_30) (v := (1 : Int32)) rfl (pc' := 31) rfl ?_
          refine s_istoreN S20 (hb hby dIM_31) (L' := #[.val (.ref a), .val (.int (1 : Int32)), .val (.int (Int32.ofNat pr.length)), .val (.int x)]) rfl (pc' := 32) rfl ?_
          refine s_goto S20 (hb hby dIM_32) (by decide) (pcT := 52) (by decide) ?_
          show Go p e below _ (T20.setTop (mkF m 52 #[.val (.ref a), .val (.int (1 : Int32)), .val (.int (Int32.ofNat pr.length)), .val (.int x)] []))
          refine s_iinc S20 (hb hby dIM_52) rfl (z := Int32.ofNat (pr ++ [x]).length) hpl (L' := #[.val (.ref a), .val (.int (1 : Int32)), .val (.int (Int32.ofNat (pr ++ [x]).length)), .val (.int x)]) rfl (pc' := 55) rfl ?_
          refine s_goto S20 (hb hby dIM_55) (by decide) (pcT := 4) (by decide) ?_
          exact ih (pr ++ [x]) hcs2 true (by rw [hI, own_imL ⟨hc21_21, hc27_24⟩]) _ rfl _ (One.val rfl) _ _ S20
  refine s_iconst S0 (hb hby dIM_0) (v := (0 : Int32)) rfl (pc' := 1) rfl ?_
  refine s_istoreN S0 (hb hby dIM_1) (L' := #[.val (.ref a), .val (.int (0 : Int32)), .unset, .unset]) rfl (pc' := 2) rfl ?_
  refine s_iconst S0 (hb hby dIM_2) (v := (0 : Int32)) rfl (pc' := 3) rfl ?_
  refine s_istoreN S0 (hb hby dIM_3) (L' := #[.val (.ref a), .val (.int (0 : Int32)), .val (.int (0 : Int32)), .unset]) rfl (pc' := 4) rfl ?_
  exact loop cs [] rfl false rfl _ rfl _ One.u _ _ S0
end Jvm.Pilot.@@N@@

namespace Jvm.Pilot.@@N@@
open Jvm Jvm.ClassFile Sem Op Lib Jvm.Free Jvm.Stand Jvm.LawKit Jvm.RoadKit Jvm.OwnKit Bundle Jvm.Pilot.@@N@@.Jvm.D
set_option maxRecDepth 65536 in
set_option maxHeartbeats 40000000 in
theorem rmL {l : Launch} {Z : State} {a0 : Array Value} {n0 : Nat} (X : Ctx Z a0) (len : Int32) (la lb : Int64) {h : Heap} (hO : Old Z n0 h)  :
    Ctr l Z EL1 n0 x code maxLocals ret room_1 #[(.int len), (.long la), (.long lb)] h [] (fun v h' => v = some (.int 1) ∧ True) := by
  have hw := X.hw
  obtain ⟨z1, hz1, hz2⟩ := X.2.2.1
  refine Ctr.intro (a0 := a0) (plainFor_of_name pn1) hO X.ew ?_
  intro p e s m below meth c T0 V0 S0 hby hml hret hnm hsf
  rw [ef6]
  refine s_iloadN S0 (hb hby at_0) rfl (pc' := 1) rfl ?_
  refine g_ldcI S0 (w0 hw) (hb hby at_1) ?_
  show Go p e below _ (T0.setTop (mkF m 3 #[.val (.int len), .val (.long la), .second, .val (.long lb), .second, .unset, .unset, .unset, .unset, .unset, .unset, .unset, .unset, .unset, .unset, .unset] [(.int (2147483647 : Int32)), (.int len)]))
  refine s_iand S0 (hb hby at_3) (z := (len &&& (2147483647 : Int32))) rfl (pc' := 4) rfl ?_
  refine s_bipush S0 (hb hby at_4) (v := (7 : Int32)) rfl (pc' := 6) rfl ?_
  refine s_irem S0 (hb hby at_6) (by decide) (z := ((len &&& (2147483647 : Int32)) % (7 : Int32))) rfl (pc' := 7) rfl ?_
  generalize enn27 : ((len &&& (2147483647 : Int32)) % (7 : Int32)) = nn27
  refine s_istore S0 (hb hby at_7) (L' := #[.val (.int len), .val (.long la), .second, .val (.long lb), .second, .val (.int nn27), .unset, .unset, .unset, .unset, .unset, .unset, .unset, .unset, .unset, .unset]) rfl (pc' := 9) rfl ?_
  refine s_lloadN S0 (hb hby at_9) rfl (pc' := 10) rfl ?_
  refine g_ldcJ S0 (w1 hw) (hb hby at_10) ?_
  show Go p e below _ (T0.setTop (mkF m 13 #[.val (.int len), .val (.long la), .second, .val (.long lb), .second, .val (.int nn27), .unset, .unset, .unset, .unset, .unset, .unset, .unset, .unset, .unset, .unset] [(.long (255 : Int64)), (.long la)]))
  refine s_land S0 (hb hby at_13) (z := (la &&& (255 : Int64))) rfl (pc' := 14) rfl ?_
  refine s_l2i S0 (hb hby at_14) (z := ((la &&& (255 : Int64)).toInt32)) rfl (pc' := 15) rfl ?_
  refine s_i2c S0 (hb hby at_15) (z := (((la &&& (255 : Int64)).toInt32).toUInt32.toUInt16.toUInt32.toInt32)) rfl (pc' := 16) rfl ?_
  generalize ec28 : (((la &&& (255 : Int64)).toInt32).toUInt32.toUInt16.toUInt32.toInt32) = c28
  refine s_istore S0 (hb hby at_16) (L' := #[.val (.int len), .val (.long la), .second, .val (.long lb), .second, .val (.int nn27), .val (.int c28), .unset, .unset, .unset, .unset, .unset, .unset, .unset, .unset, .unset]) rfl (pc' := 18) rfl ?_
  have rc28 : ¬ c28 < 0 ∧ ¬ (255 : Int32) < c28 := by rw [← ec28]; exact own_l255 _
  refine s_lloadN S0 (hb hby at_18) rfl (pc' := 19) rfl ?_
  refine s_bipush S0 (hb hby at_19) (v := (16 : Int32)) rfl (pc' := 21) rfl ?_
  refine s_lushr S0 (hb hby at_21) (z := ((la.toUInt64 >>> ((16 : Int32) &&& 0x3f).toInt64.toUInt64).toInt64)) rfl (pc' := 22) rfl ?_
  refine g_ldcJ S0 (w1 hw) (hb hby at_22) ?_
  show Go p e below _ (T0.setTop (mkF m 25 #[.val (.int len), .val (.long la), .second, .val (.long lb), .second, .val (.int nn27), .val (.int c28), .unset, .unset, .unset, .unset, .unset, .unset, .unset, .unset, .unset] [(.long (255 : Int64)), (.long ((la.toUInt64 >>> ((16 : Int32) &&& 0x3f).toInt64.toUInt64).toInt64))]))
  refine s_land S0 (hb hby at_25) (z := (((la.toUInt64 >>> ((16 : Int32) &&& 0x3f).toInt64.toUInt64).toInt64) &&& (255 : Int64))) rfl (pc' := 26) rfl ?_
  refine s_l2i S0 (hb hby at_26) (z := ((((la.toUInt64 >>> ((16 : Int32) &&& 0x3f).toInt64.toUInt64).toInt64) &&& (255 : Int64)).toInt32)) rfl (pc' := 27) rfl ?_
  refine s_i2c S0 (hb hby at_27) (z := (((((la.toUInt64 >>> ((16 : Int32) &&& 0x3f).toInt64.toUInt64).toInt64) &&& (255 : Int64)).toInt32).toUInt32.toUInt16.toUInt32.toInt32)) rfl (pc' := 28) rfl ?_
  generalize ec29 : (((((la.toUInt64 >>> ((16 : Int32) &&& 0x3f).toInt64.toUInt64).toInt64) &&& (255 : Int64)).toInt32).toUInt32.toUInt16.toUInt32.toInt32) = c29
  refine s_istore S0 (hb hby at_28) (L' := #[.val (.int len), .val (.long la), .second, .val (.long lb), .second, .val (.int nn27), .val (.int c28), .val (.int c29), .unset, .unset, .unset, .unset, .unset, .unset, .unset, .unset]) rfl (pc' := 30) rfl ?_
  have rc29 : ¬ c29 < 0 ∧ ¬ (255 : Int32) < c29 := by rw [← ec29]; exact own_l255 _
  refine s_lloadN S0 (hb hby at_30) rfl (pc' := 31) rfl ?_
  refine s_bipush S0 (hb hby at_31) (v := (32 : Int32)) rfl (pc' := 33) rfl ?_
  refine s_lushr S0 (hb hby at_33) (z := ((la.toUInt64 >>> ((32 : Int32) &&& 0x3f).toInt64.toUInt64).toInt64)) rfl (pc' := 34) rfl ?_
  refine g_ldcJ S0 (w1 hw) (hb hby at_34) ?_
  show Go p e below _ (T0.setTop (mkF m 37 #[.val (.int len), .val (.long la), .second, .val (.long lb), .second, .val (.int nn27), .val (.int c28), .val (.int c29), .unset, .unset, .unset, .unset, .unset, .unset, .unset, .unset] [(.long (255 : Int64)), (.long ((la.toUInt64 >>> ((32 : Int32) &&& 0x3f).toInt64.toUInt64).toInt64))]))
  refine s_land S0 (hb hby at_37) (z := (((la.toUInt64 >>> ((32 : Int32) &&& 0x3f).toInt64.toUInt64).toInt64) &&& (255 : Int64))) rfl (pc' := 38) rfl ?_
  refine s_l2i S0 (hb hby at_38) (z := ((((la.toUInt64 >>> ((32 : Int32) &&& 0x3f).toInt64.toUInt64).toInt64) &&& (255 : Int64)).toInt32)) rfl (pc' := 39) rfl ?_
  refine s_i2c S0 (hb hby at_39) (z := (((((la.toUInt64 >>> ((32 : Int32) &&& 0x3f).toInt64.toUInt64).toInt64) &&& (255 : Int64)).toInt32).toUInt32.toUInt16.toUInt32.toInt32)) rfl (pc' := 40) rfl ?_
  generalize ec30 : (((((la.toUInt64 >>> ((32 : Int32) &&& 0x3f).toInt64.toUInt64).toInt64) &&& (255 : Int64)).toInt32).toUInt32.toUInt16.toUInt32.toInt32) = c30
  refine s_istore S0 (hb hby at_40) (L' := #[.val (.int len), .val (.long la), .second, .val (.long lb), .second, .val (.int nn27), .val (.int c28), .val (.int c29), .val (.int c30), .unset, .unset, .unset, .unset, .unset, .unset, .unset]) rfl (pc' := 42) rfl ?_
  have rc30 : ¬ c30 < 0 ∧ ¬ (255 : Int32) < c30 := by rw [← ec30]; exact own_l255 _
  refine s_lloadN S0 (hb hby at_42) rfl (pc' := 43) rfl ?_
  refine s_bipush S0 (hb hby at_43) (v := (48 : Int32)) rfl (pc' := 45) rfl ?_
  refine s_lushr S0 (hb hby at_45) (z := ((la.toUInt64 >>> ((48 : Int32) &&& 0x3f).toInt64.toUInt64).toInt64)) rfl (pc' := 46) rfl ?_
  refine g_ldcJ S0 (w1 hw) (hb hby at_46) ?_
  show Go p e below _ (T0.setTop (mkF m 49 #[.val (.int len), .val (.long la), .second, .val (.long lb), .second, .val (.int nn27), .val (.int c28), .val (.int c29), .val (.int c30), .unset, .unset, .unset, .unset, .unset, .unset, .unset] [(.long (255 : Int64)), (.long ((la.toUInt64 >>> ((48 : Int32) &&& 0x3f).toInt64.toUInt64).toInt64))]))
  refine s_land S0 (hb hby at_49) (z := (((la.toUInt64 >>> ((48 : Int32) &&& 0x3f).toInt64.toUInt64).toInt64) &&& (255 : Int64))) rfl (pc' := 50) rfl ?_
  refine s_l2i S0 (hb hby at_50) (z := ((((la.toUInt64 >>> ((48 : Int32) &&& 0x3f).toInt64.toUInt64).toInt64) &&& (255 : Int64)).toInt32)) rfl (pc' := 51) rfl ?_
  refine s_i2c S0 (hb hby at_51) (z := (((((la.toUInt64 >>> ((48 : Int32) &&& 0x3f).toInt64.toUInt64).toInt64) &&& (255 : Int64)).toInt32).toUInt32.toUInt16.toUInt32.toInt32)) rfl (pc' := 52) rfl ?_
  generalize ec31 : (((((la.toUInt64 >>> ((48 : Int32) &&& 0x3f).toInt64.toUInt64).toInt64) &&& (255 : Int64)).toInt32).toUInt32.toUInt16.toUInt32.toInt32) = c31
  refine s_istore S0 (hb hby at_52) (L' := #[.val (.int len), .val (.long la), .second, .val (.long lb), .second, .val (.int nn27), .val (.int c28), .val (.int c29), .val (.int c30), .val (.int c31), .unset, .unset, .unset, .unset, .unset, .unset]) rfl (pc' := 54) rfl ?_
  have rc31 : ¬ c31 < 0 ∧ ¬ (255 : Int32) < c31 := by rw [← ec31]; exact own_l255 _
  refine s_lloadN S0 (hb hby at_54) rfl (pc' := 55) rfl ?_
  refine g_ldcJ S0 (w1 hw) (hb hby at_55) ?_
  show Go p e below _ (T0.setTop (mkF m 58 #[.val (.int len), .val (.long la), .second, .val (.long lb), .second, .val (.int nn27), .val (.int c28), .val (.int c29), .val (.int c30), .val (.int c31), .unset, .unset, .unset, .unset, .unset, .unset] [(.long (255 : Int64)), (.long lb)]))
  refine s_land S0 (hb hby at_58) (z := (lb &&& (255 : Int64))) rfl (pc' := 59) rfl ?_
  refine s_l2i S0 (hb hby at_59) (z := ((lb &&& (255 : Int64)).toInt32)) rfl (pc' := 60) rfl ?_
  refine s_i2c S0 (hb hby at_60) (z := (((lb &&& (255 : Int64)).toInt32).toUInt32.toUInt16.toUInt32.toInt32)) rfl (pc' := 61) rfl ?_
  generalize ec32 : (((lb &&& (255 : Int64)).toInt32).toUInt32.toUInt16.toUInt32.toInt32) = c32
  refine s_istore S0 (hb hby at_61) (L' := #[.val (.int len), .val (.long la), .second, .val (.long lb), .second, .val (.int nn27), .val (.int c28), .val (.int c29), .val (.int c30), .val (.int c31), .val (.int c32), .unset, .unset, .unset, .unset, .unset]) rfl (pc' := 63) rfl ?_
  have rc32 : ¬ c32 < 0 ∧ ¬ (255 : Int32) < c32 := by rw [← ec32]; exact own_l255 _
  refine s_lloadN S0 (hb hby at_63) rfl (pc' := 64) rfl ?_
  refine s_bipush S0 (hb hby at_64) (v := (16 : Int32)) rfl (pc' := 66) rfl ?_
  refine s_lushr S0 (hb hby at_66) (z := ((lb.toUInt64 >>> ((16 : Int32) &&& 0x3f).toInt64.toUInt64).toInt64)) rfl (pc' := 67) rfl ?_
  refine g_ldcJ S0 (w1 hw) (hb hby at_67) ?_
  show Go p e below _ (T0.setTop (mkF m 70 #[.val (.int len), .val (.long la), .second, .val (.long lb), .second, .val (.int nn27), .val (.int c28), .val (.int c29), .val (.int c30), .val (.int c31), .val (.int c32), .unset, .unset, .unset, .unset, .unset] [(.long (255 : Int64)), (.long ((lb.toUInt64 >>> ((16 : Int32) &&& 0x3f).toInt64.toUInt64).toInt64))]))
  refine s_land S0 (hb hby at_70) (z := (((lb.toUInt64 >>> ((16 : Int32) &&& 0x3f).toInt64.toUInt64).toInt64) &&& (255 : Int64))) rfl (pc' := 71) rfl ?_
  refine s_l2i S0 (hb hby at_71) (z := ((((lb.toUInt64 >>> ((16 : Int32) &&& 0x3f).toInt64.toUInt64).toInt64) &&& (255 : Int64)).toInt32)) rfl (pc' := 72) rfl ?_
  refine s_i2c S0 (hb hby at_72) (z := (((((lb.toUInt64 >>> ((16 : Int32) &&& 0x3f).toInt64.toUInt64).toInt64) &&& (255 : Int64)).toInt32).toUInt32.toUInt16.toUInt32.toInt32)) rfl (pc' := 73) rfl ?_
  generalize ec33 : (((((lb.toUInt64 >>> ((16 : Int32) &&& 0x3f).toInt64.toUInt64).toInt64) &&& (255 : Int64)).toInt32).toUInt32.toUInt16.toUInt32.toInt32) = c33
  refine s_istore S0 (hb hby at_73) (L' := #[.val (.int len), .val (.long la), .second, .val (.long lb), .second, .val (.int nn27), .val (.int c28), .val (.int c29), .val (.int c30), .val (.int c31), .val (.int c32), .val (.int c33), .unset, .unset, .unset, .unset]) rfl (pc' := 75) rfl ?_
  have rc33 : ¬ c33 < 0 ∧ ¬ (255 : Int32) < c33 := by rw [← ec33]; exact own_l255 _
  rcases own_mod7 len nn27 enn27 with rfl | rfl | rfl | rfl | rfl | rfl | rfl
  · skip
    show Go p e below _ (T0.setTop (mkF m 75 #[.val (.int len), .val (.long la), .second, .val (.long lb), .second, .val (.int (0 : Int32)), .val (.int c28), .val (.int c29), .val (.int c30), .val (.int c31), .val (.int c32), .val (.int c33), .unset, .unset, .unset, .unset] []))
    refine s_bipush S0 (hb hby at_75) (v := (6 : Int32)) rfl (pc' := 77) rfl ?_
    refine g_newarr (aty := .char) S0 (w2 hw) (hb hby at_77) (by decide) (cap := 6) (by decide) (by decide) (Nat.le_of_ble_eq_true rfl) (Nat.le_of_ble_eq_true rfl) ?_
    intro T34 h34 b34 kc34 S34 E34 fr34 lt34 na34 sf34 A34
    have V34 : Arv Z h34 b34 kc34 .char (6 : Int32) [(.int (0 : Int32)), (.int (0 : Int32)), (.int (0 : Int32)), (.int (0 : Int32)), (.int (0 : Int32)), (.int (0 : Int32))] (.int (0 : Int32)) := A34 6
    show Go p e below _ (T34.setTop (mkF m 79 #[.val (.int len), .val (.long la), .second, .val (.long lb), .second, .val (.int (0 : Int32)), .val (.int c28), .val (.int c29), .val (.int c30), .val (.int c31), .val (.int c32), .val (.int c33), .unset, .unset, .unset, .unset] [(.ref b34)]))
    refine s_astore S34 (hb hby at_79) rfl (L' := #[.val (.int len), .val (.long la), .second, .val (.long lb), .second, .val (.int (0 : Int32)), .val (.int c28), .val (.int c29), .val (.int c30), .val (.int c31), .val (.int c32), .val (.int c33), .val (.ref b34), .unset, .unset, .unset]) rfl (pc' := 81) rfl ?_
    refine s_aload S34 (hb hby at_81) rfl rfl (pc' := 83) rfl ?_
    refine s_iconst S34 (hb hby at_83) (v := (0 : Int32)) rfl (pc' := 84) rfl ?_
    refine s_iload S34 (hb hby at_84) rfl (pc' := 86) rfl ?_
    refine g_castore S34 V34 ⟨by decide, by decide⟩ 0 rfl (Nat.le_of_ble_eq_true rfl) na34 (hb hby at_86) ?_
    intro T35 h35 S35 K35 V35
    rw [narC8 rc28] at V35
    have V35 : Arv Z h35 b34 kc34 .char (6 : Int32) [(.int c28), (.int (0 : Int32)), (.int (0 : Int32)), (.int (0 : Int32)), (.int (0 : Int32)), (.int (0 : Int32))] (.int (0 : Int32)) := V35
    show Go p e below _ (T35.setTop (mkF m 87 #[.val (.int len), .val (.long la), .second, .val (.long lb), .second, .val (.int (0 : Int32)), .val (.int c28), .val (.int c29), .val (.int c30), .val (.int c31), .val (.int c32), .val (.int c33), .val (.ref b34), .unset, .unset, .unset] []))
    refine s_aload S35 (hb hby at_87) rfl rfl (pc' := 89) rfl ?_
    refine s_iconst S35 (hb hby at_89) (v := (1 : Int32)) rfl (pc' := 90) rfl ?_
    refine s_iload S35 (hb hby at_90) rfl (pc' := 92) rfl ?_
    refine g_castore S35 V35 ⟨by decide, by decide⟩ 1 rfl (Nat.le_of_ble_eq_true rfl) na34 (hb hby at_92) ?_
    intro T36 h36 S36 K36 V36
    rw [narC8 rc29] at V36
    have V36 : Arv Z h36 b34 kc34 .char (6 : Int32) [(.int c28), (.int c29), (.int (0 : Int32)), (.int (0 : Int32)), (.int (0 : Int32)), (.int (0 : Int32))] (.int (0 : Int32)) := V36
    show Go p e below _ (T36.setTop (mkF m 93 #[.val (.int len), .val (.long la), .second, .val (.long lb), .second, .val (.int (0 : Int32)), .val (.int c28), .val (.int c29), .val (.int c30), .val (.int c31), .val (.int c32), .val (.int c33), .val (.ref b34), .unset, .unset, .unset] []))
    refine s_aload S36 (hb hby at_93) rfl rfl (pc' := 95) rfl ?_
    refine s_iconst S36 (hb hby at_95) (v := (2 : Int32)) rfl (pc' := 96) rfl ?_
    refine s_iload S36 (hb hby at_96) rfl (pc' := 98) rfl ?_
    refine g_castore S36 V36 ⟨by decide, by decide⟩ 2 rfl (Nat.le_of_ble_eq_true rfl) na34 (hb hby at_98) ?_
    intro T37 h37 S37 K37 V37
    rw [narC8 rc30] at V37
    have V37 : Arv Z h37 b34 kc34 .char (6 : Int32) [(.int c28), (.int c29), (.int c30), (.int (0 : Int32)), (.int (0 : Int32)), (.int (0 : Int32))] (.int (0 : Int32)) := V37
    show Go p e below _ (T37.setTop (mkF m 99 #[.val (.int len), .val (.long la), .second, .val (.long lb), .second, .val (.int (0 : Int32)), .val (.int c28), .val (.int c29), .val (.int c30), .val (.int c31), .val (.int c32), .val (.int c33), .val (.ref b34), .unset, .unset, .unset] []))
    refine s_aload S37 (hb hby at_99) rfl rfl (pc' := 101) rfl ?_
    refine s_iconst S37 (hb hby at_101) (v := (3 : Int32)) rfl (pc' := 102) rfl ?_
    refine s_iload S37 (hb hby at_102) rfl (pc' := 104) rfl ?_
    refine g_castore S37 V37 ⟨by decide, by decide⟩ 3 rfl (Nat.le_of_ble_eq_true rfl) na34 (hb hby at_104) ?_
    intro T38 h38 S38 K38 V38
    rw [narC8 rc31] at V38
    have V38 : Arv Z h38 b34 kc34 .char (6 : Int32) [(.int c28), (.int c29), (.int c30), (.int c31), (.int (0 : Int32)), (.int (0 : Int32))] (.int (0 : Int32)) := V38
    show Go p e below _ (T38.setTop (mkF m 105 #[.val (.int len), .val (.long la), .second, .val (.long lb), .second, .val (.int (0 : Int32)), .val (.int c28), .val (.int c29), .val (.int c30), .val (.int c31), .val (.int c32), .val (.int c33), .val (.ref b34), .unset, .unset, .unset] []))
    refine s_aload S38 (hb hby at_105) rfl rfl (pc' := 107) rfl ?_
    refine s_iconst S38 (hb hby at_107) (v := (4 : Int32)) rfl (pc' := 108) rfl ?_
    refine s_iload S38 (hb hby at_108) rfl (pc' := 110) rfl ?_
    refine g_castore S38 V38 ⟨by decide, by decide⟩ 4 rfl (Nat.le_of_ble_eq_true rfl) na34 (hb hby at_110) ?_
    intro T39 h39 S39 K39 V39
    rw [narC8 rc32] at V39
    have V39 : Arv Z h39 b34 kc34 .char (6 : Int32) [(.int c28), (.int c29), (.int c30), (.int c31), (.int c32), (.int (0 : Int32))] (.int (0 : Int32)) := V39
    show Go p e below _ (T39.setTop (mkF m 111 #[.val (.int len), .val (.long la), .second, .val (.long lb), .second, .val (.int (0 : Int32)), .val (.int c28), .val (.int c29), .val (.int c30), .val (.int c31), .val (.int c32), .val (.int c33), .val (.ref b34), .unset, .unset, .unset] []))
    refine s_aload S39 (hb hby at_111) rfl rfl (pc' := 113) rfl ?_
    refine s_iconst S39 (hb hby at_113) (v := (5 : Int32)) rfl (pc' := 114) rfl ?_
    refine s_iload S39 (hb hby at_114) rfl (pc' := 116) rfl ?_
    refine g_castore S39 V39 ⟨by decide, by decide⟩ 5 rfl (Nat.le_of_ble_eq_true rfl) na34 (hb hby at_116) ?_
    intro T40 h40 S40 K40 V40
    rw [narC8 rc33] at V40
    have V40 : Arv Z h40 b34 kc34 .char (6 : Int32) [(.int c28), (.int c29), (.int c30), (.int c31), (.int c32), (.int c33)] (.int (0 : Int32)) := V40
    show Go p e below _ (T40.setTop (mkF m 117 #[.val (.int len), .val (.long la), .second, .val (.long lb), .second, .val (.int (0 : Int32)), .val (.int c28), .val (.int c29), .val (.int c30), .val (.int c31), .val (.int c32), .val (.int c33), .val (.ref b34), .unset, .unset, .unset] []))
    refine s_iload S40 (hb hby at_117) rfl (pc' := 119) rfl ?_
    refine s_ifN S40 (hb hby at_119) (by decide) (pc' := 122) rfl ?_
    refine s_iconst S40 (hb hby at_122) (v := (0 : Int32)) rfl (pc' := 123) rfl ?_
    refine g_newarr (aty := .char) S40 (w2 hw) (hb hby at_123) (by decide) (cap := 0) (by decide) (by decide) (Nat.le_of_ble_eq_true rfl) (Nat.le_of_ble_eq_true rfl) ?_
    intro T41 h41 b41 kc41 S41 E41 fr41 lt41 na41 sf41 A41
    have V41 : Arv Z h41 b41 kc41 .char (0 : Int32) [] (.int (0 : Int32)) := A41 0
    show Go p e below _ (T41.setTop (mkF m 125 #[.val (.int len), .val (.long la), .second, .val (.long lb), .second, .val (.int (0 : Int32)), .val (.int c28), .val (.int c29), .val (.int c30), .val (.int c31), .val (.int c32), .val (.int c33), .val (.ref b34), .unset, .unset, .unset] [(.ref b41)]))
    refine s_astore S41 (hb hby at_125) rfl (L' := #[.val (.int len), .val (.long la), .second, .val (.long lb), .second, .val (.int (0 : Int32)), .val (.int c28), .val (.int c29), .val (.int c30), .val (.int c31), .val (.int c32), .val (.int c33), .val (.ref b34), .val (.ref b41), .unset, .unset]) rfl (pc' := 127) rfl ?_
    refine s_goto S41 (hb hby at_127) (by decide) (pcT := 206) (by decide) ?_
    refine s_iload S41 (hb hby at_206) rfl (pc' := 208) rfl ?_
    refine s_ifY S41 (hb hby at_208) (by decide) (by decide) (pcT := 217) (by decide) ?_
    refine s_iload S41 (hb hby at_217) rfl (pc' := 219) rfl ?_
    refine s_iconst S41 (hb hby at_219) (v := (1 : Int32)) rfl (pc' := 220) rfl ?_
    refine s_icmpY S41 (hb hby at_220) (by decide) (by decide) (pcT := 229) (by decide) ?_
    refine s_iload S41 (hb hby at_229) rfl (pc' := 231) rfl ?_
    refine s_iconst S41 (hb hby at_231) (v := (2 : Int32)) rfl (pc' := 232) rfl ?_
    refine s_icmpY S41 (hb hby at_232) (by decide) (by decide) (pcT := 241) (by decide) ?_
    refine s_iload S41 (hb hby at_241) rfl (pc' := 243) rfl ?_
    refine s_iconst S41 (hb hby at_243) (v := (3 : Int32)) rfl (pc' := 244) rfl ?_
    refine s_icmpY S41 (hb hby at_244) (by decide) (by decide) (pcT := 253) (by decide) ?_
    refine s_iload S41 (hb hby at_253) rfl (pc' := 255) rfl ?_
    refine s_iconst S41 (hb hby at_255) (v := (4 : Int32)) rfl (pc' := 256) rfl ?_
    refine s_icmpY S41 (hb hby at_256) (by decide) (by decide) (pcT := 265) (by decide) ?_
    refine s_iload S41 (hb hby at_265) rfl (pc' := 267) rfl ?_
    refine s_iconst S41 (hb hby at_267) (v := (5 : Int32)) rfl (pc' := 268) rfl ?_
    refine s_icmpY S41 (hb hby at_268) (by decide) (by decide) (pcT := 277) (by decide) ?_
    refine g_new S41 (w3 hw) (w4 hw) (w5 hw) (hb hby at_277) (Nat.le_of_ble_eq_true rfl) (Nat.le_of_ble_eq_true rfl) ?_
    intro T42 h42 b42 S42 E42 fr42 lt42 na42 sf42 A42 D42
    have F43 : Fld Z h42 b42 "java/lang/String" "value" "[B" .null := D42 (Or.inr (w18 hw)) (ty := (.array .byte)) (by decide)
    have F44 : Fld Z h42 b42 "java/lang/String" "coder" "B" (.int (0 : Int32)) := D42 (Or.inr (w19 hw)) (ty := .byte) (by decide)
    show Go p e below _ (T42.setTop (mkF m 280 #[.val (.int len), .val (.long la), .second, .val (.long lb), .second, .val (.int (0 : Int32)), .val (.int c28), .val (.int c29), .val (.int c30), .val (.int c31), .val (.int c32), .val (.int c33), .val (.ref b34), .val (.ref b41), .unset, .unset] [(.ref b42)]))
    refine s_dup S42 (hb hby at_280) rfl (pc' := 281) rfl ?_
    refine s_aload S42 (hb hby at_281) rfl rfl (pc' := 283) rfl ?_
    show Go p e below _ (T42.setTop (mkF m 283 #[.val (.int len), .val (.long la), .second, .val (.long lb), .second, .val (.int (0 : Int32)), .val (.int c28), .val (.int c29), .val (.int c30), .val (.int c31), .val (.int c32), .val (.int c33), .val (.ref b34), .val (.ref b41), .unset, .unset] [(.ref b41), (.ref b42), (.ref b42)]))
    have V46 := V41.ext E42
    refine g_special S42 (rmN1 X na42 S42.old A42 F43 F44 V46) (sf1 (A42).lt sf42) rfl (w6 hw) (w7 hw) (w5 hw) (w8 hw) (by decide) (hb hby at_283) (by rw [hml]; rfl) b42 [.ref b41] (lenOf pd2 rfl) rfl rfl (Nat.le_of_ble_eq_true rfl) (Nat.le_of_ble_eq_true rfl) (Nat.le_of_ble_eq_true rfl) (Nat.le_of_ble_eq_true rfl) ?_
    intro v45 T45 V45 h45 S45 C45 q45
    obtain ⟨rfl, K45, F45⟩ := q45
    show Go p e below _ (T45.setTop (mkF m 286 #[.val (.int len), .val (.long la), .second, .val (.long lb), .second, .val (.int (0 : Int32)), .val (.int c28), .val (.int c29), .val (.int c30), .val (.int c31), .val (.int c32), .val (.int c33), .val (.ref b34), .val (.ref b41), .unset, .unset] [(.ref b42)]))
    show Go p e below _ (T45.setTop (mkF m 286 #[.val (.int len), .val (.long la), .second, .val (.long lb), .second, .val (.int (0 : Int32)), .val (.int c28), .val (.int c29), .val (.int c30), .val (.int c31), .val (.int c32), .val (.int c33), .val (.ref b34), .val (.ref b41), .unset, .unset] [(.ref b42)]))
    refine g_static S45 (rmIM X S45.old F45 fa0) (fun _ q => nomatch q) (w24 hw) (w25 hw) (w26 hw) (w27 hw) (by decide) (hb hby at_286) (by rw [hml]; rfl) [(.ref b42)] (lenOf pd3 rfl) rfl rfl (Nat.le_of_ble_eq_true rfl) (Nat.le_of_ble_eq_true rfl) (Nat.le_of_ble_eq_true rfl) (Nat.le_of_ble_eq_true rfl) ?_
    intro v47 T47 V47 h47 S47 C47 q47
    obtain ⟨rfl, rfl⟩ := q47
    show Go p e below _ (T47.setTop (mkF m 289 #[.val (.int len), .val (.long la), .second, .val (.long lb), .second, .val (.int (0 : Int32)), .val (.int c28), .val (.int c29), .val (.int c30), .val (.int c31), .val (.int c32), .val (.int c33), .val (.ref b34), .val (.ref b41), .unset, .unset] [(.int (if imF false [] = true then (1 : Int32) else (0 : Int32)))]))
    generalize egot48 : (if imF false [] = true then (1 : Int32) else (0 : Int32)) = got48
    refine s_istore S47 (hb hby at_289) (L' := #[.val (.int len), .val (.long la), .second, .val (.long lb), .second, .val (.int (0 : Int32)), .val (.int c28), .val (.int c29), .val (.int c30), .val (.int c31), .val (.int c32), .val (.int c33), .val (.ref b34), .val (.ref b41), .val (.int got48), .unset]) rfl (pc' := 291) rfl ?_
    have X50 : Ext h40 h42 := ext_trans E41 E42
    have X51 : Ext h40 h47 := ext_keep1 X50 K45 (Nat.le_trans E41.1 fr42)
    have V52 := V40.ext X51
    show Go p e below _ (T47.setTop (mkF m 291 #[.val (.int len), .val (.long la), .second, .val (.long lb), .second, .val (.int (0 : Int32)), .val (.int c28), .val (.int c29), .val (.int c30), .val (.int c31), .val (.int c32), .val (.int c33), .val (.ref b34), .val (.ref b41), .val (.int got48), .unset] []))
    have K49 : ∀ (T8 : State) (V8 : Vm), St p l e room_1 s m #[(.int len), (.long la), (.long lb)] below meth c Z a0 EL1 n0 "com/example/remora/remora/MethodsIsMethodNamePinLaw" T8 V8 h47 7 18 → ∀ wx : Int32, ((wx = 1 ∧ False) ∨ (wx = 0 ∧ ¬ False)) → Go p e below (Fini Z EL1 n0 s room_1 (fun v h' => v = some (.int 1) ∧ True)) (T8.setTop (mkF m 455 #[.val (.int len), .val (.long la), .second, .val (.long lb), .second, .val (.int (0 : Int32)), .val (.int c28), .val (.int c29), .val (.int c30), .val (.int c31), .val (.int c32), .val (.int c33), .val (.ref b34), .val (.ref b41), .val (.int got48), .unset] [(.int wx)])) := by
      intro T8 V8 S8 wx hwx
      obtain rfl : wx = got48 := by
        rw [← egot48]
        exact own_if (own_eq0 ) hwx
      show Go p e below _ (T8.setTop (mkF m 455 #[.val (.int len), .val (.long la), .second, .val (.long lb), .second, .val (.int (0 : Int32)), .val (.int c28), .val (.int c29), .val (.int c30), .val (.int c31), .val (.int c32), .val (.int c33), .val (.ref b34), .val (.ref b41), .val (.int wx), .unset] [(.int wx)]))
      refine s_istore S8 (hb hby at_455) (L' := #[.val (.int len), .val (.long la), .second, .val (.long lb), .second, .val (.int (0 : Int32)), .val (.int c28), .val (.int c29), .val (.int c30), .val (.int c31), .val (.int c32), .val (.int c33), .val (.ref b34), .val (.ref b41), .val (.int wx), .val (.int wx)]) rfl (pc' := 457) rfl ?_
      refine s_iload S8 (hb hby at_457) rfl (pc' := 459) rfl ?_
      refine s_iload S8 (hb hby at_459) rfl (pc' := 461) rfl ?_
      refine s_icmpN S8 (hb hby at_461) (by simp [if_icmp.holds]) (pc' := 464) rfl ?_
      refine s_iconst S8 (hb hby at_464) (v := (1 : Int32)) rfl (pc' := 465) rfl ?_
      refine s_goto S8 (hb hby at_465) (by decide) (pcT := 469) (by decide) ?_
      exact g_iretN S8 (hb hby at_469) hret (by simp) ⟨rfl, trivial⟩
    refine s_iload S47 (hb hby at_291) rfl (pc' := 293) rfl ?_
    refine s_ifY S47 (hb hby at_293) (by decide) (by decide) (pcT := 454) (by decide) ?_
    refine s_iconst S47 (hb hby at_454) (v := (0 : Int32)) rfl (pc' := 455) rfl ?_
    exact K49 _ _ S47 _ (Or.inr ⟨rfl, fun q => q⟩)
  · skip
    show Go p e below _ (T0.setTop (mkF m 75 #[.val (.int len), .val (.long la), .second, .val (.long lb), .second, .val (.int (1 : Int32)), .val (.int c28), .val (.int c29), .val (.int c30), .val (.int c31), .val (.int c32), .val (.int c33), .unset, .unset, .unset, .unset] []))
    refine s_bipush S0 (hb hby at_75) (v := (6 : Int32)) rfl (pc' := 77) rfl ?_
    refine g_newarr (aty := .char) S0 (w2 hw) (hb hby at_77) (by decide) (cap := 6) (by decide) (by decide) (Nat.le_of_ble_eq_true rfl) (Nat.le_of_ble_eq_true rfl) ?_
    intro T53 h53 b53 kc53 S53 E53 fr53 lt53 na53 sf53 A53
    have V53 : Arv Z h53 b53 kc53 .char (6 : Int32) [(.int (0 : Int32)), (.int (0 : Int32)), (.int (0 : Int32)), (.int (0 : Int32)), (.int (0 : Int32)), (.int (0 : Int32))] (.int (0 : Int32)) := A53 6
    show Go p e below _ (T53.setTop (mkF m 79 #[.val (.int len), .val (.long la), .second, .val (.long lb), .second, .val (.int (1 : Int32)), .val (.int c28), .val (.int c29), .val (.int c30), .val (.int c31), .val (.int c32), .val (.int c33), .unset, .unset, .unset, .unset] [(.ref b53)]))
    refine s_astore S53 (hb hby at_79) rfl (L' := #[.val (.int len), .val (.long la), .second, .val (.long lb), .second, .val (.int (1 : Int32)), .val (.int c28), .val (.int c29), .val (.int c30), .val (.int c31), .val (.int c32), .val (.int c33), .val (.ref b53), .unset, .unset, .unset]) rfl (pc' := 81) rfl ?_
    refine s_aload S53 (hb hby at_81) rfl rfl (pc' := 83) rfl ?_
    refine s_iconst S53 (hb hby at_83) (v := (0 : Int32)) rfl (pc' := 84) rfl ?_
    refine s_iload S53 (hb hby at_84) rfl (pc' := 86) rfl ?_
    refine g_castore S53 V53 ⟨by decide, by decide⟩ 0 rfl (Nat.le_of_ble_eq_true rfl) na53 (hb hby at_86) ?_
    intro T54 h54 S54 K54 V54
    rw [narC8 rc28] at V54
    have V54 : Arv Z h54 b53 kc53 .char (6 : Int32) [(.int c28), (.int (0 : Int32)), (.int (0 : Int32)), (.int (0 : Int32)), (.int (0 : Int32)), (.int (0 : Int32))] (.int (0 : Int32)) := V54
    show Go p e below _ (T54.setTop (mkF m 87 #[.val (.int len), .val (.long la), .second, .val (.long lb), .second, .val (.int (1 : Int32)), .val (.int c28), .val (.int c29), .val (.int c30), .val (.int c31), .val (.int c32), .val (.int c33), .val (.ref b53), .unset, .unset, .unset] []))
    refine s_aload S54 (hb hby at_87) rfl rfl (pc' := 89) rfl ?_
    refine s_iconst S54 (hb hby at_89) (v := (1 : Int32)) rfl (pc' := 90) rfl ?_
    refine s_iload S54 (hb hby at_90) rfl (pc' := 92) rfl ?_
    refine g_castore S54 V54 ⟨by decide, by decide⟩ 1 rfl (Nat.le_of_ble_eq_true rfl) na53 (hb hby at_92) ?_
    intro T55 h55 S55 K55 V55
    rw [narC8 rc29] at V55
    have V55 : Arv Z h55 b53 kc53 .char (6 : Int32) [(.int c28), (.int c29), (.int (0 : Int32)), (.int (0 : Int32)), (.int (0 : Int32)), (.int (0 : Int32))] (.int (0 : Int32)) := V55
    show Go p e below _ (T55.setTop (mkF m 93 #[.val (.int len), .val (.long la), .second, .val (.long lb), .second, .val (.int (1 : Int32)), .val (.int c28), .val (.int c29), .val (.int c30), .val (.int c31), .val (.int c32), .val (.int c33), .val (.ref b53), .unset, .unset, .unset] []))
    refine s_aload S55 (hb hby at_93) rfl rfl (pc' := 95) rfl ?_
    refine s_iconst S55 (hb hby at_95) (v := (2 : Int32)) rfl (pc' := 96) rfl ?_
    refine s_iload S55 (hb hby at_96) rfl (pc' := 98) rfl ?_
    refine g_castore S55 V55 ⟨by decide, by decide⟩ 2 rfl (Nat.le_of_ble_eq_true rfl) na53 (hb hby at_98) ?_
    intro T56 h56 S56 K56 V56
    rw [narC8 rc30] at V56
    have V56 : Arv Z h56 b53 kc53 .char (6 : Int32) [(.int c28), (.int c29), (.int c30), (.int (0 : Int32)), (.int (0 : Int32)), (.int (0 : Int32))] (.int (0 : Int32)) := V56
    show Go p e below _ (T56.setTop (mkF m 99 #[.val (.int len), .val (.long la), .second, .val (.long lb), .second, .val (.int (1 : Int32)), .val (.int c28), .val (.int c29), .val (.int c30), .val (.int c31), .val (.int c32), .val (.int c33), .val (.ref b53), .unset, .unset, .unset] []))
    refine s_aload S56 (hb hby at_99) rfl rfl (pc' := 101) rfl ?_
    refine s_iconst S56 (hb hby at_101) (v := (3 : Int32)) rfl (pc' := 102) rfl ?_
    refine s_iload S56 (hb hby at_102) rfl (pc' := 104) rfl ?_
    refine g_castore S56 V56 ⟨by decide, by decide⟩ 3 rfl (Nat.le_of_ble_eq_true rfl) na53 (hb hby at_104) ?_
    intro T57 h57 S57 K57 V57
    rw [narC8 rc31] at V57
    have V57 : Arv Z h57 b53 kc53 .char (6 : Int32) [(.int c28), (.int c29), (.int c30), (.int c31), (.int (0 : Int32)), (.int (0 : Int32))] (.int (0 : Int32)) := V57
    show Go p e below _ (T57.setTop (mkF m 105 #[.val (.int len), .val (.long la), .second, .val (.long lb), .second, .val (.int (1 : Int32)), .val (.int c28), .val (.int c29), .val (.int c30), .val (.int c31), .val (.int c32), .val (.int c33), .val (.ref b53), .unset, .unset, .unset] []))
    refine s_aload S57 (hb hby at_105) rfl rfl (pc' := 107) rfl ?_
    refine s_iconst S57 (hb hby at_107) (v := (4 : Int32)) rfl (pc' := 108) rfl ?_
    refine s_iload S57 (hb hby at_108) rfl (pc' := 110) rfl ?_
    refine g_castore S57 V57 ⟨by decide, by decide⟩ 4 rfl (Nat.le_of_ble_eq_true rfl) na53 (hb hby at_110) ?_
    intro T58 h58 S58 K58 V58
    rw [narC8 rc32] at V58
    have V58 : Arv Z h58 b53 kc53 .char (6 : Int32) [(.int c28), (.int c29), (.int c30), (.int c31), (.int c32), (.int (0 : Int32))] (.int (0 : Int32)) := V58
    show Go p e below _ (T58.setTop (mkF m 111 #[.val (.int len), .val (.long la), .second, .val (.long lb), .second, .val (.int (1 : Int32)), .val (.int c28), .val (.int c29), .val (.int c30), .val (.int c31), .val (.int c32), .val (.int c33), .val (.ref b53), .unset, .unset, .unset] []))
    refine s_aload S58 (hb hby at_111) rfl rfl (pc' := 113) rfl ?_
    refine s_iconst S58 (hb hby at_113) (v := (5 : Int32)) rfl (pc' := 114) rfl ?_
    refine s_iload S58 (hb hby at_114) rfl (pc' := 116) rfl ?_
    refine g_castore S58 V58 ⟨by decide, by decide⟩ 5 rfl (Nat.le_of_ble_eq_true rfl) na53 (hb hby at_116) ?_
    intro T59 h59 S59 K59 V59
    rw [narC8 rc33] at V59
    have V59 : Arv Z h59 b53 kc53 .char (6 : Int32) [(.int c28), (.int c29), (.int c30), (.int c31), (.int c32), (.int c33)] (.int (0 : Int32)) := V59
    show Go p e below _ (T59.setTop (mkF m 117 #[.val (.int len), .val (.long la), .second, .val (.long lb), .second, .val (.int (1 : Int32)), .val (.int c28), .val (.int c29), .val (.int c30), .val (.int c31), .val (.int c32), .val (.int c33), .val (.ref b53), .unset, .unset, .unset] []))
    refine s_iload S59 (hb hby at_117) rfl (pc' := 119) rfl ?_
    refine s_ifY S59 (hb hby at_119) (by decide) (by decide) (pcT := 130) (by decide) ?_
    refine s_iload S59 (hb hby at_130) rfl (pc' := 132) rfl ?_
    refine s_iconst S59 (hb hby at_132) (v := (1 : Int32)) rfl (pc' := 133) rfl ?_
    refine s_icmpN S59 (hb hby at_133) (by decide) (pc' := 136) rfl ?_
    refine s_iconst S59 (hb hby at_136) (v := (1 : Int32)) rfl (pc' := 137) rfl ?_
    refine g_newarr (aty := .char) S59 (w2 hw) (hb hby at_137) (by decide) (cap := 1) (by decide) (by decide) (Nat.le_of_ble_eq_true rfl) (Nat.le_of_ble_eq_true rfl) ?_
    intro T60 h60 b60 kc60 S60 E60 fr60 lt60 na60 sf60 A60
    have V60 : Arv Z h60 b60 kc60 .char (1 : Int32) [(.int (0 : Int32))] (.int (0 : Int32)) := A60 1
    show Go p e below _ (T60.setTop (mkF m 139 #[.val (.int len), .val (.long la), .second, .val (.long lb), .second, .val (.int (1 : Int32)), .val (.int c28), .val (.int c29), .val (.int c30), .val (.int c31), .val (.int c32), .val (.int c33), .val (.ref b53), .unset, .unset, .unset] [(.ref b60)]))
    refine s_astore S60 (hb hby at_139) rfl (L' := #[.val (.int len), .val (.long la), .second, .val (.long lb), .second, .val (.int (1 : Int32)), .val (.int c28), .val (.int c29), .val (.int c30), .val (.int c31), .val (.int c32), .val (.int c33), .val (.ref b53), .val (.ref b60), .unset, .unset]) rfl (pc' := 141) rfl ?_
    refine s_goto S60 (hb hby at_141) (by decide) (pcT := 206) (by decide) ?_
    refine s_iload S60 (hb hby at_206) rfl (pc' := 208) rfl ?_
    refine s_ifN S60 (hb hby at_208) (by decide) (pc' := 211) rfl ?_
    refine s_aload S60 (hb hby at_211) rfl rfl (pc' := 213) rfl ?_
    refine s_iconst S60 (hb hby at_213) (v := (0 : Int32)) rfl (pc' := 214) rfl ?_
    refine s_iload S60 (hb hby at_214) rfl (pc' := 216) rfl ?_
    refine g_castore S60 V60 ⟨by decide, by decide⟩ 0 rfl (Nat.le_of_ble_eq_true rfl) na60 (hb hby at_216) ?_
    intro T61 h61 S61 K61 V61
    rw [narC8 rc28] at V61
    have V61 : Arv Z h61 b60 kc60 .char (1 : Int32) [(.int c28)] (.int (0 : Int32)) := V61
    show Go p e below _ (T61.setTop (mkF m 217 #[.val (.int len), .val (.long la), .second, .val (.long lb), .second, .val (.int (1 : Int32)), .val (.int c28), .val (.int c29), .val (.int c30), .val (.int c31), .val (.int c32), .val (.int c33), .val (.ref b53), .val (.ref b60), .unset, .unset] []))
    refine s_iload S61 (hb hby at_217) rfl (pc' := 219) rfl ?_
    refine s_iconst S61 (hb hby at_219) (v := (1 : Int32)) rfl (pc' := 220) rfl ?_
    refine s_icmpY S61 (hb hby at_220) (by decide) (by decide) (pcT := 229) (by decide) ?_
    refine s_iload S61 (hb hby at_229) rfl (pc' := 231) rfl ?_
    refine s_iconst S61 (hb hby at_231) (v := (2 : Int32)) rfl (pc' := 232) rfl ?_
    refine s_icmpY S61 (hb hby at_232) (by decide) (by decide) (pcT := 241) (by decide) ?_
    refine s_iload S61 (hb hby at_241) rfl (pc' := 243) rfl ?_
    refine s_iconst S61 (hb hby at_243) (v := (3 : Int32)) rfl (pc' := 244) rfl ?_
    refine s_icmpY S61 (hb hby at_244) (by decide) (by decide) (pcT := 253) (by decide) ?_
    refine s_iload S61 (hb hby at_253) rfl (pc' := 255) rfl ?_
    refine s_iconst S61 (hb hby at_255) (v := (4 : Int32)) rfl (pc' := 256) rfl ?_
    refine s_icmpY S61 (hb hby at_256) (by decide) (by decide) (pcT := 265) (by decide) ?_
    refine s_iload S61 (hb hby at_265) rfl (pc' := 267) rfl ?_
    refine s_iconst S61 (hb hby at_267) (v := (5 : Int32)) rfl (pc' := 268) rfl ?_
    refine s_icmpY S61 (hb hby at_268) (by decide) (by decide) (pcT := 277) (by decide) ?_
    refine g_new S61 (w3 hw) (w4 hw) (w5 hw) (hb hby at_277) (Nat.le_of_ble_eq_true rfl) (Nat.le_of_ble_eq_true rfl) ?_
    intro T62 h62 b62 S62 E62 fr62 lt62 na62 sf62 A62 D62
    have F63 : Fld Z h62 b62 "java/lang/String" "value" "[B" .null := D62 (Or.inr (w18 hw)) (ty := (.array .byte)) (by decide)
    have F64 : Fld Z h62 b62 "java/lang/String" "coder" "B" (.int (0 : Int32)) := D62 (Or.inr (w19 hw)) (ty := .byte) (by decide)
    show Go p e below _ (T62.setTop (mkF m 280 #[.val (.int len), .val (.long la), .second, .val (.long lb), .second, .val (.int (1 : Int32)), .val (.int c28), .val (.int c29), .val (.int c30), .val (.int c31), .val (.int c32), .val (.int c33), .val (.ref b53), .val (.ref b60), .unset, .unset] [(.ref b62)]))
    refine s_dup S62 (hb hby at_280) rfl (pc' := 281) rfl ?_
    refine s_aload S62 (hb hby at_281) rfl rfl (pc' := 283) rfl ?_
    show Go p e below _ (T62.setTop (mkF m 283 #[.val (.int len), .val (.long la), .second, .val (.long lb), .second, .val (.int (1 : Int32)), .val (.int c28), .val (.int c29), .val (.int c30), .val (.int c31), .val (.int c32), .val (.int c33), .val (.ref b53), .val (.ref b60), .unset, .unset] [(.ref b60), (.ref b62), (.ref b62)]))
    have V66 := V61.ext E62
    refine g_newStr S62 X (cs := [c28]) (Nat.le_of_ble_eq_true rfl) (Nat.le_of_ble_eq_true rfl) rfl na62 sf62 A62 F63 F64 V66 (faS rc28 fa0) (w6 hw) (hb hby at_283) (by rw [hml]; rfl) (Nat.le_of_ble_eq_true rfl) (Nat.le_of_ble_eq_true rfl) (Nat.le_of_ble_eq_true rfl) (Nat.le_of_ble_eq_true rfl) ?_
    intro T65 h65 S65 K65 F65
    show Go p e below _ (T65.setTop (mkF m 286 #[.val (.int len), .val (.long la), .second, .val (.long lb), .second, .val (.int (1 : Int32)), .val (.int c28), .val (.int c29), .val (.int c30), .val (.int c31), .val (.int c32), .val (.int c33), .val (.ref b53), .val (.ref b60), .unset, .unset] [(.ref b62)]))
    show Go p e below _ (T65.setTop (mkF m 286 #[.val (.int len), .val (.long la), .second, .val (.long lb), .second, .val (.int (1 : Int32)), .val (.int c28), .val (.int c29), .val (.int c30), .val (.int c31), .val (.int c32), .val (.int c33), .val (.ref b53), .val (.ref b60), .unset, .unset] [(.ref b62)]))
    refine g_static S65 (rmIM X S65.old F65 (faS rc28.2 fa0)) (fun _ q => nomatch q) (w24 hw) (w25 hw) (w26 hw) (w27 hw) (by decide) (hb hby at_286) (by rw [hml]; rfl) [(.ref b62)] (lenOf pd3 rfl) rfl rfl (Nat.le_of_ble_eq_true rfl) (Nat.le_of_ble_eq_true rfl) (Nat.le_of_ble_eq_true rfl) (Nat.le_of_ble_eq_true rfl) ?_
    intro v67 T67 V67 h67 S67 C67 q67
    obtain ⟨rfl, rfl⟩ := q67
    show Go p e below _ (T67.setTop (mkF m 289 #[.val (.int len), .val (.long la), .second, .val (.long lb), .second, .val (.int (1 : Int32)), .val (.int c28), .val (.int c29), .val (.int c30), .val (.int c31), .val (.int c32), .val (.int c33), .val (.ref b53), .val (.ref b60), .unset, .unset] [(.int (if imF false [c28] = true then (1 : Int32) else (0 : Int32)))]))
    generalize egot68 : (if imF false [c28] = true then (1 : Int32) else (0 : Int32)) = got68
    refine s_istore S67 (hb hby at_289) (L' := #[.val (.int len), .val (.long la), .second, .val (.long lb), .second, .val (.int (1 : Int32)), .val (.int c28), .val (.int c29), .val (.int c30), .val (.int c31), .val (.int c32), .val (.int c33), .val (.ref b53), .val (.ref b60), .val (.int got68), .unset]) rfl (pc' := 291) rfl ?_
    have X70 : Ext h59 h61 := ext_keep1 E60 K61 fr60
    have X71 : Ext h59 h62 := ext_trans X70 E62
    have X72 : Ext h59 h67 := ext_keep1 X71 K65 (Nat.le_trans X70.1 fr62)
    have V73 := V59.ext X72
    show Go p e below _ (T67.setTop (mkF m 291 #[.val (.int len), .val (.long la), .second, .val (.long lb), .second, .val (.int (1 : Int32)), .val (.int c28), .val (.int c29), .val (.int c30), .val (.int c31), .val (.int c32), .val (.int c33), .val (.ref b53), .val (.ref b60), .val (.int got68), .unset] []))
    have K69 : ∀ (T8 : State) (V8 : Vm), St p l e room_1 s m #[(.int len), (.long la), (.long lb)] below meth c Z a0 EL1 n0 "com/example/remora/remora/MethodsIsMethodNamePinLaw" T8 V8 h67 4 12 → ∀ wx : Int32, ((wx = 1 ∧ own_W1 c28) ∨ (wx = 0 ∧ ¬ own_W1 c28)) → Go p e below (Fini Z EL1 n0 s room_1 (fun v h' => v = some (.int 1) ∧ True)) (T8.setTop (mkF m 455 #[.val (.int len), .val (.long la), .second, .val (.long lb), .second, .val (.int (1 : Int32)), .val (.int c28), .val (.int c29), .val (.int c30), .val (.int c31), .val (.int c32), .val (.int c33), .val (.ref b53), .val (.ref b60), .val (.int got68), .unset] [(.int wx)])) := by
      intro T8 V8 S8 wx hwx
      obtain rfl : wx = got68 := by
        rw [← egot68]
        exact own_if (own_eq1 c28) hwx
      show Go p e below _ (T8.setTop (mkF m 455 #[.val (.int len), .val (.long la), .second, .val (.long lb), .second, .val (.int (1 : Int32)), .val (.int c28), .val (.int c29), .val (.int c30), .val (.int c31), .val (.int c32), .val (.int c33), .val (.ref b53), .val (.ref b60), .val (.int wx), .unset] [(.int wx)]))
      refine s_istore S8 (hb hby at_455) (L' := #[.val (.int len), .val (.long la), .second, .val (.long lb), .second, .val (.int (1 : Int32)), .val (.int c28), .val (.int c29), .val (.int c30), .val (.int c31), .val (.int c32), .val (.int c33), .val (.ref b53), .val (.ref b60), .val (.int wx), .val (.int wx)]) rfl (pc' := 457) rfl ?_
      refine s_iload S8 (hb hby at_457) rfl (pc' := 459) rfl ?_
      refine s_iload S8 (hb hby at_459) rfl (pc' := 461) rfl ?_
      refine s_icmpN S8 (hb hby at_461) (by simp [if_icmp.holds]) (pc' := 464) rfl ?_
      refine s_iconst S8 (hb hby at_464) (v := (1 : Int32)) rfl (pc' := 465) rfl ?_
      refine s_goto S8 (hb hby at_465) (by decide) (pcT := 469) (by decide) ?_
      exact g_iretN S8 (hb hby at_469) hret (by simp) ⟨rfl, trivial⟩
    refine s_iload S67 (hb hby at_291) rfl (pc' := 293) rfl ?_
    refine s_ifN S67 (hb hby at_293) (by decide) (pc' := 296) rfl ?_
    refine s_aload S67 (hb hby at_296) rfl rfl (pc' := 298) rfl ?_
    refine s_iconst S67 (hb hby at_298) (v := (0 : Int32)) rfl (pc' := 299) rfl ?_
    show Go p e below _ (T67.setTop (mkF m 299 #[.val (.int len), .val (.long la), .second, .val (.long lb), .second, .val (.int (1 : Int32)), .val (.int c28), .val (.int c29), .val (.int c30), .val (.int c31), .val (.int c32), .val (.int c33), .val (.ref b53), .val (.ref b60), .val (.int got68), .unset] [(.int (0 : Int32)), (.ref b53)]))
    refine g_caload S67 V73 ⟨by decide, by decide⟩ (x := c28) rfl (hb hby at_299) ?_
    show Go p e below _ (T67.setTop (mkF m 300 #[.val (.int len), .val (.long la), .second, .val (.long lb), .second, .val (.int (1 : Int32)), .val (.int c28), .val (.int c29), .val (.int c30), .val (.int c31), .val (.int c32), .val (.int c33), .val (.ref b53), .val (.ref b60), .val (.int got68), .unset] [(.int c28)]))
    show Go p e below _ (T67.setTop (mkF m 300 #[.val (.int len), .val (.long la), .second, .val (.long lb), .second, .val (.int (1 : Int32)), .val (.int c28), .val (.int c29), .val (.int c30), .val (.int c31), .val (.int c32), .val (.int c33), .val (.ref b53), .val (.ref b60), .val (.int got68), .unset] [(.int c28)]))
    refine g_static S67 (rmIL X c28 S67.old) (fun _ q => nomatch q) (w71 hw) (w72 hw) (w73 hw) (w74 hw) (by decide) (hb hby at_300) (by rw [hml]; rfl) [(.int c28)] (lenOf pd1 rfl) rfl rfl (Nat.le_of_ble_eq_true rfl) (Nat.le_of_ble_eq_true rfl) (Nat.le_of_ble_eq_true rfl) (Nat.le_of_ble_eq_true rfl) ?_
    intro v75 T75 V75 h75 S75 C75 q75
    obtain ⟨r74, rfl, hr74, rfl⟩ := q75
    rcases hr74 with ⟨rfl, hr74⟩ | ⟨rfl, hr74⟩
    · skip
      show Go p e below _ (T75.setTop (mkF m 303 #[.val (.int len), .val (.long la), .second, .val (.long lb), .second, .val (.int (1 : Int32)), .val (.int c28), .val (.int c29), .val (.int c30), .val (.int c31), .val (.int c32), .val (.int c33), .val (.ref b53), .val (.ref b60), .val (.int got68), .unset] [(.int (1 : Int32))]))
      refine s_ifN S75 (hb hby at_303) (by decide) (pc' := 306) rfl ?_
      refine s_aload S75 (hb hby at_306) rfl rfl (pc' := 308) rfl ?_
      refine s_iload S75 (hb hby at_308) rfl (pc' := 310) rfl ?_
      refine s_iconst S75 (hb hby at_310) (v := (1 : Int32)) rfl (pc' := 311) rfl ?_
      refine s_isub S75 (hb hby at_311) (z := (0 : Int32)) rfl (pc' := 312) rfl ?_
      show Go p e below _ (T75.setTop (mkF m 312 #[.val (.int len), .val (.long la), .second, .val (.long lb), .second, .val (.int (1 : Int32)), .val (.int c28), .val (.int c29), .val (.int c30), .val (.int c31), .val (.int c32), .val (.int c33), .val (.ref b53), .val (.ref b60), .val (.int got68), .unset] [(.int (0 : Int32)), (.ref b53)]))
      refine g_caload S75 V73 ⟨by decide, by decide⟩ (x := c28) rfl (hb hby at_312) ?_
      show Go p e below _ (T75.setTop (mkF m 313 #[.val (.int len), .val (.long la), .second, .val (.long lb), .second, .val (.int (1 : Int32)), .val (.int c28), .val (.int c29), .val (.int c30), .val (.int c31), .val (.int c32), .val (.int c33), .val (.ref b53), .val (.ref b60), .val (.int got68), .unset] [(.int c28)]))
      show Go p e below _ (T75.setTop (mkF m 313 #[.val (.int len), .val (.long la), .second, .val (.long lb), .second, .val (.int (1 : Int32)), .val (.int c28), .val (.int c29), .val (.int c30), .val (.int c31), .val (.int c32), .val (.int c33), .val (.ref b53), .val (.ref b60), .val (.int got68), .unset] [(.int c28)]))
      refine g_static S75 (rmIL X c28 S75.old) (fun _ q => nomatch q) (w71 hw) (w72 hw) (w73 hw) (w74 hw) (by decide) (hb hby at_313) (by rw [hml]; rfl) [(.int c28)] (lenOf pd1 rfl) rfl rfl (Nat.le_of_ble_eq_true rfl) (Nat.le_of_ble_eq_true rfl) (Nat.le_of_ble_eq_true rfl) (Nat.le_of_ble_eq_true rfl) ?_
      intro v77 T77 V77 h77 S77 C77 q77
      obtain ⟨r76, rfl, hr76, rfl⟩ := q77
      rcases hr76 with ⟨rfl, hr76⟩ | ⟨rfl, hr76⟩
      · skip
        show Go p e below _ (T77.setTop (mkF m 316 #[.val (.int len), .val (.long la), .second, .val (.long lb), .second, .val (.int (1 : Int32)), .val (.int c28), .val (.int c29), .val (.int c30), .val (.int c31), .val (.int c32), .val (.int c33), .val (.ref b53), .val (.ref b60), .val (.int got68), .unset] [(.int (1 : Int32))]))
        refine s_ifN S77 (hb hby at_316) (by decide) (pc' := 319) rfl ?_
        refine s_iconst S77 (hb hby at_319) (v := (0 : Int32)) rfl (pc' := 320) rfl ?_
        refine s_iload S77 (hb hby at_320) rfl (pc' := 322) rfl ?_
        refine s_iload S77 (hb hby at_322) rfl (pc' := 324) rfl ?_
        show Go p e below _ (T77.setTop (mkF m 324 #[.val (.int len), .val (.long la), .second, .val (.long lb), .second, .val (.int (1 : Int32)), .val (.int c28), .val (.int c29), .val (.int c30), .val (.int c31), .val (.int c32), .val (.int c33), .val (.ref b53), .val (.ref b60), .val (.int got68), .unset] [(.int c28), (.int (1 : Int32)), (.int (0 : Int32))]))
        refine g_static S77 (rmFI X c28 S77.old (by decide)) (fun _ q => nomatch q) (w75 hw) (w76 hw) (w73 hw) (w77 hw) (by decide) (hb hby at_324) (by rw [hml]; rfl) [(.int (0 : Int32)), (.int (1 : Int32)), (.int c28)] (lenOf pd4 rfl) rfl rfl (Nat.le_of_ble_eq_true rfl) (Nat.le_of_ble_eq_true rfl) (Nat.le_of_ble_eq_true rfl) (Nat.le_of_ble_eq_true rfl) ?_
        intro v79 T79 V79 h79 S79 C79 q79
        obtain ⟨r78, rfl, hr78, rfl⟩ := q79
        rcases hr78 with ⟨rfl, hr78⟩ | ⟨rfl, hr78⟩
        · skip
          show Go p e below _ (T79.setTop (mkF m 327 #[.val (.int len), .val (.long la), .second, .val (.long lb), .second, .val (.int (1 : Int32)), .val (.int c28), .val (.int c29), .val (.int c30), .val (.int c31), .val (.int c32), .val (.int c33), .val (.ref b53), .val (.ref b60), .val (.int got68), .unset] [(.int (1 : Int32))]))
          refine s_ifN S79 (hb hby at_327) (by decide) (pc' := 330) rfl ?_
          refine s_iconst S79 (hb hby at_330) (v := (1 : Int32)) rfl (pc' := 331) rfl ?_
          refine s_iload S79 (hb hby at_331) rfl (pc' := 333) rfl ?_
          refine s_iload S79 (hb hby at_333) rfl (pc' := 335) rfl ?_
          show Go p e below _ (T79.setTop (mkF m 335 #[.val (.int len), .val (.long la), .second, .val (.long lb), .second, .val (.int (1 : Int32)), .val (.int c28), .val (.int c29), .val (.int c30), .val (.int c31), .val (.int c32), .val (.int c33), .val (.ref b53), .val (.ref b60), .val (.int got68), .unset] [(.int c29), (.int (1 : Int32)), (.int (1 : Int32))]))
          refine g_static S79 (rmFO X c29 S79.old (by decide)) (fun _ q => nomatch q) (w75 hw) (w76 hw) (w73 hw) (w77 hw) (by decide) (hb hby at_335) (by rw [hml]; rfl) [(.int (1 : Int32)), (.int (1 : Int32)), (.int c29)] (lenOf pd4 rfl) rfl rfl (Nat.le_of_ble_eq_true rfl) (Nat.le_of_ble_eq_true rfl) (Nat.le_of_ble_eq_true rfl) (Nat.le_of_ble_eq_true rfl) ?_
          intro v80 T80 V80 h80 S80 C80 q80
          obtain ⟨rfl, rfl⟩ := q80
          show Go p e below _ (T80.setTop (mkF m 338 #[.val (.int len), .val (.long la), .second, .val (.long lb), .second, .val (.int (1 : Int32)), .val (.int c28), .val (.int c29), .val (.int c30), .val (.int c31), .val (.int c32), .val (.int c33), .val (.ref b53), .val (.ref b60), .val (.int got68), .unset] [(.int (1 : Int32))]))
          refine s_ifN S80 (hb hby at_338) (by decide) (pc' := 341) rfl ?_
          refine s_iconst S80 (hb hby at_341) (v := (2 : Int32)) rfl (pc' := 342) rfl ?_
          refine s_iload S80 (hb hby at_342) rfl (pc' := 344) rfl ?_
          refine s_iload S80 (hb hby at_344) rfl (pc' := 346) rfl ?_
          show Go p e below _ (T80.setTop (mkF m 346 #[.val (.int len), .val (.long la), .second, .val (.long lb), .second, .val (.int (1 : Int32)), .val (.int c28), .val (.int c29), .val (.int c30), .val (.int c31), .val (.int c32), .val (.int c33), .val (.ref b53), .val (.ref b60), .val (.int got68), .unset] [(.int c30), (.int (1 : Int32)), (.int (2 : Int32))]))
          refine g_static S80 (rmFO X c30 S80.old (by decide)) (fun _ q => nomatch q) (w75 hw) (w76 hw) (w73 hw) (w77 hw) (by decide) (hb hby at_346) (by rw [hml]; rfl) [(.int (2 : Int32)), (.int (1 : Int32)), (.int c30)] (lenOf pd4 rfl) rfl rfl (Nat.le_of_ble_eq_true rfl) (Nat.le_of_ble_eq_true rfl) (Nat.le_of_ble_eq_true rfl) (Nat.le_of_ble_eq_true rfl) ?_
          intro v81 T81 V81 h81 S81 C81 q81
          obtain ⟨rfl, rfl⟩ := q81
          show Go p e below _ (T81.setTop (mkF m 349 #[.val (.int len), .val (.long la), .second, .val (.long lb), .second, .val (.int (1 : Int32)), .val (.int c28), .val (.int c29), .val (.int c30), .val (.int c31), .val (.int c32), .val (.int c33), .val (.ref b53), .val (.ref b60), .val (.int got68), .unset] [(.int (1 : Int32))]))
          refine s_ifN S81 (hb hby at_349) (by decide) (pc' := 352) rfl ?_
          refine s_iconst S81 (hb hby at_352) (v := (3 : Int32)) rfl (pc' := 353) rfl ?_
          refine s_iload S81 (hb hby at_353) rfl (pc' := 355) rfl ?_
          refine s_iload S81 (hb hby at_355) rfl (pc' := 357) rfl ?_
          show Go p e below _ (T81.setTop (mkF m 357 #[.val (.int len), .val (.long la), .second, .val (.long lb), .second, .val (.int (1 : Int32)), .val (.int c28), .val (.int c29), .val (.int c30), .val (.int c31), .val (.int c32), .val (.int c33), .val (.ref b53), .val (.ref b60), .val (.int got68), .unset] [(.int c31), (.int (1 : Int32)), (.int (3 : Int32))]))
          refine g_static S81 (rmFO X c31 S81.old (by decide)) (fun _ q => nomatch q) (w75 hw) (w76 hw) (w73 hw) (w77 hw) (by decide) (hb hby at_357) (by rw [hml]; rfl) [(.int (3 : Int32)), (.int (1 : Int32)), (.int c31)] (lenOf pd4 rfl) rfl rfl (Nat.le_of_ble_eq_true rfl) (Nat.le_of_ble_eq_true rfl) (Nat.le_of_ble_eq_true rfl) (Nat.le_of_ble_eq_true rfl) ?_
          intro v82 T82 V82 h82 S82 C82 q82
          obtain ⟨rfl, rfl⟩ := q82
          show Go p e below _ (T82.setTop (mkF m 360 #[.val (.int len), .val (.long la), .second, .val (.long lb), .second, .val (.int (1 : Int32)), .val (.int c28), .val (.int c29), .val (.int c30), .val (.int c31), .val (.int c32), .val (.int c33), .val (.ref b53), .val (.ref b60), .val (.int got68), .unset] [(.int (1 : Int32))]))
          refine s_ifN S82 (hb hby at_360) (by decide) (pc' := 363) rfl ?_
          refine s_iconst S82 (hb hby at_363) (v := (4 : Int32)) rfl (pc' := 364) rfl ?_
          refine s_iload S82 (hb hby at_364) rfl (pc' := 366) rfl ?_
          refine s_iload S82 (hb hby at_366) rfl (pc' := 368) rfl ?_
          show Go p e below _ (T82.setTop (mkF m 368 #[.val (.int len), .val (.long la), .second, .val (.long lb), .second, .val (.int (1 : Int32)), .val (.int c28), .val (.int c29), .val (.int c30), .val (.int c31), .val (.int c32), .val (.int c33), .val (.ref b53), .val (.ref b60), .val (.int got68), .unset] [(.int c32), (.int (1 : Int32)), (.int (4 : Int32))]))
          refine g_static S82 (rmFO X c32 S82.old (by decide)) (fun _ q => nomatch q) (w75 hw) (w76 hw) (w73 hw) (w77 hw) (by decide) (hb hby at_368) (by rw [hml]; rfl) [(.int (4 : Int32)), (.int (1 : Int32)), (.int c32)] (lenOf pd4 rfl) rfl rfl (Nat.le_of_ble_eq_true rfl) (Nat.le_of_ble_eq_true rfl) (Nat.le_of_ble_eq_true rfl) (Nat.le_of_ble_eq_true rfl) ?_
          intro v83 T83 V83 h83 S83 C83 q83
          obtain ⟨rfl, rfl⟩ := q83
          show Go p e below _ (T83.setTop (mkF m 371 #[.val (.int len), .val (.long la), .second, .val (.long lb), .second, .val (.int (1 : Int32)), .val (.int c28), .val (.int c29), .val (.int c30), .val (.int c31), .val (.int c32), .val (.int c33), .val (.ref b53), .val (.ref b60), .val (.int got68), .unset] [(.int (1 : Int32))]))
          refine s_ifN S83 (hb hby at_371) (by decide) (pc' := 374) rfl ?_
          refine s_iconst S83 (hb hby at_374) (v := (5 : Int32)) rfl (pc' := 375) rfl ?_
          refine s_iload S83 (hb hby at_375) rfl (pc' := 377) rfl ?_
          refine s_iload S83 (hb hby at_377) rfl (pc' := 379) rfl ?_
          show Go p e below _ (T83.setTop (mkF m 379 #[.val (.int len), .val (.long la), .second, .val (.long lb), .second, .val (.int (1 : Int32)), .val (.int c28), .val (.int c29), .val (.int c30), .val (.int c31), .val (.int c32), .val (.int c33), .val (.ref b53), .val (.ref b60), .val (.int got68), .unset] [(.int c33), (.int (1 : Int32)), (.int (5 : Int32))]))
          refine g_static S83 (rmFO X c33 S83.old (by decide)) (fun _ q => nomatch q) (w75 hw) (w76 hw) (w73 hw) (w77 hw) (by decide) (hb hby at_379) (by rw [hml]; rfl) [(.int (5 : Int32)), (.int (1 : Int32)), (.int c33)] (lenOf pd4 rfl) rfl rfl (Nat.le_of_ble_eq_true rfl) (Nat.le_of_ble_eq_true rfl) (Nat.le_of_ble_eq_true rfl) (Nat.le_of_ble_eq_true rfl) ?_
          intro v84 T84 V84 h84 S84 C84 q84
          obtain ⟨rfl, rfl⟩ := q84
          show Go p e below _ (T84.setTop (mkF m 382 #[.val (.int len), .val (.long la), .second, .val (.long lb), .second, .val (.int (1 : Int32)), .val (.int c28), .val (.int c29), .val (.int c30), .val (.int c31), .val (.int c32), .val (.int c33), .val (.ref b53), .val (.ref b60), .val (.int got68), .unset] [(.int (1 : Int32))]))
          refine s_ifN S84 (hb hby at_382) (by decide) (pc' := 385) rfl ?_
          refine s_iconst S84 (hb hby at_385) (v := (1 : Int32)) rfl (pc' := 386) rfl ?_
          refine s_iload S84 (hb hby at_386) rfl (pc' := 388) rfl ?_
          refine s_iload S84 (hb hby at_388) rfl (pc' := 390) rfl ?_
          refine s_iload S84 (hb hby at_390) rfl (pc' := 392) rfl ?_
          show Go p e below _ (T84.setTop (mkF m 392 #[.val (.int len), .val (.long la), .second, .val (.long lb), .second, .val (.int (1 : Int32)), .val (.int c28), .val (.int c29), .val (.int c30), .val (.int c31), .val (.int c32), .val (.int c33), .val (.ref b53), .val (.ref b60), .val (.int got68), .unset] [(.int c29), (.int c28), (.int (1 : Int32)), (.int (1 : Int32))]))
          refine g_static S84 (rmNO X c28 c29 S84.old (by decide)) (fun _ q => nomatch q) (w78 hw) (w79 hw) (w73 hw) (w80 hw) (by decide) (hb hby at_392) (by rw [hml]; rfl) [(.int (1 : Int32)), (.int (1 : Int32)), (.int c28), (.int c29)] (lenOf pd5 rfl) rfl rfl (Nat.le_of_ble_eq_true rfl) (Nat.le_of_ble_eq_true rfl) (Nat.le_of_ble_eq_true rfl) (Nat.le_of_ble_eq_true rfl) ?_
          intro v85 T85 V85 h85 S85 C85 q85
          obtain ⟨rfl, rfl⟩ := q85
          show Go p e below _ (T85.setTop (mkF m 395 #[.val (.int len), .val (.long la), .second, .val (.long lb), .second, .val (.int (1 : Int32)), .val (.int c28), .val (.int c29), .val (.int c30), .val (.int c31), .val (.int c32), .val (.int c33), .val (.ref b53), .val (.ref b60), .val (.int got68), .unset] [(.int (1 : Int32))]))
          refine s_ifN S85 (hb hby at_395) (by decide) (pc' := 398) rfl ?_
          refine s_iconst S85 (hb hby at_398) (v := (2 : Int32)) rfl (pc' := 399) rfl ?_
          refine s_iload S85 (hb hby at_399) rfl (pc' := 401) rfl ?_
          refine s_iload S85 (hb hby at_401) rfl (pc' := 403) rfl ?_
          refine s_iload S85 (hb hby at_403) rfl (pc' := 405) rfl ?_
          show Go p e below _ (T85.setTop (mkF m 405 #[.val (.int len), .val (.long la), .second, .val (.long lb), .second, .val (.int (1 : Int32)), .val (.int c28), .val (.int c29), .val (.int c30), .val (.int c31), .val (.int c32), .val (.int c33), .val (.ref b53), .val (.ref b60), .val (.int got68), .unset] [(.int c30), (.int c29), (.int (1 : Int32)), (.int (2 : Int32))]))
          refine g_static S85 (rmNO X c29 c30 S85.old (by decide)) (fun _ q => nomatch q) (w78 hw) (w79 hw) (w73 hw) (w80 hw) (by decide) (hb hby at_405) (by rw [hml]; rfl) [(.int (2 : Int32)), (.int (1 : Int32)), (.int c29), (.int c30)] (lenOf pd5 rfl) rfl rfl (Nat.le_of_ble_eq_true rfl) (Nat.le_of_ble_eq_true rfl) (Nat.le_of_ble_eq_true rfl) (Nat.le_of_ble_eq_true rfl) ?_
          intro v86 T86 V86 h86 S86 C86 q86
          obtain ⟨rfl, rfl⟩ := q86
          show Go p e below _ (T86.setTop (mkF m 408 #[.val (.int len), .val (.long la), .second, .val (.long lb), .second, .val (.int (1 : Int32)), .val (.int c28), .val (.int c29), .val (.int c30), .val (.int c31), .val (.int c32), .val (.int c33), .val (.ref b53), .val (.ref b60), .val (.int got68), .unset] [(.int (1 : Int32))]))
          refine s_ifN S86 (hb hby at_408) (by decide) (pc' := 411) rfl ?_
          refine s_iconst S86 (hb hby at_411) (v := (3 : Int32)) rfl (pc' := 412) rfl ?_
          refine s_iload S86 (hb hby at_412) rfl (pc' := 414) rfl ?_
          refine s_iload S86 (hb hby at_414) rfl (pc' := 416) rfl ?_
          refine s_iload S86 (hb hby at_416) rfl (pc' := 418) rfl ?_
          show Go p e below _ (T86.setTop (mkF m 418 #[.val (.int len), .val (.long la), .second, .val (.long lb), .second, .val (.int (1 : Int32)), .val (.int c28), .val (.int c29), .val (.int c30), .val (.int c31), .val (.int c32), .val (.int c33), .val (.ref b53), .val (.ref b60), .val (.int got68), .unset] [(.int c31), (.int c30), (.int (1 : Int32)), (.int (3 : Int32))]))
          refine g_static S86 (rmNO X c30 c31 S86.old (by decide)) (fun _ q => nomatch q) (w78 hw) (w79 hw) (w73 hw) (w80 hw) (by decide) (hb hby at_418) (by rw [hml]; rfl) [(.int (3 : Int32)), (.int (1 : Int32)), (.int c30), (.int c31)] (lenOf pd5 rfl) rfl rfl (Nat.le_of_ble_eq_true rfl) (Nat.le_of_ble_eq_true rfl) (Nat.le_of_ble_eq_true rfl) (Nat.le_of_ble_eq_true rfl) ?_
          intro v87 T87 V87 h87 S87 C87 q87
          obtain ⟨rfl, rfl⟩ := q87
          show Go p e below _ (T87.setTop (mkF m 421 #[.val (.int len), .val (.long la), .second, .val (.long lb), .second, .val (.int (1 : Int32)), .val (.int c28), .val (.int c29), .val (.int c30), .val (.int c31), .val (.int c32), .val (.int c33), .val (.ref b53), .val (.ref b60), .val (.int got68), .unset] [(.int (1 : Int32))]))
          refine s_ifN S87 (hb hby at_421) (by decide) (pc' := 424) rfl ?_
          refine s_iconst S87 (hb hby at_424) (v := (4 : Int32)) rfl (pc' := 425) rfl ?_
          refine s_iload S87 (hb hby at_425) rfl (pc' := 427) rfl ?_
          refine s_iload S87 (hb hby at_427) rfl (pc' := 429) rfl ?_
          refine s_iload S87 (hb hby at_429) rfl (pc' := 431) rfl ?_
          show Go p e below _ (T87.setTop (mkF m 431 #[.val (.int len), .val (.long la), .second, .val (.long lb), .second, .val (.int (1 : Int32)), .val (.int c28), .val (.int c29), .val (.int c30), .val (.int c31), .val (.int c32), .val (.int c33), .val (.ref b53), .val (.ref b60), .val (.int got68), .unset] [(.int c32), (.int c31), (.int (1 : Int32)), (.int (4 : Int32))]))
          refine g_static S87 (rmNO X c31 c32 S87.old (by decide)) (fun _ q => nomatch q) (w78 hw) (w79 hw) (w73 hw) (w80 hw) (by decide) (hb hby at_431) (by rw [hml]; rfl) [(.int (4 : Int32)), (.int (1 : Int32)), (.int c31), (.int c32)] (lenOf pd5 rfl) rfl rfl (Nat.le_of_ble_eq_true rfl) (Nat.le_of_ble_eq_true rfl) (Nat.le_of_ble_eq_true rfl) (Nat.le_of_ble_eq_true rfl) ?_
          intro v88 T88 V88 h88 S88 C88 q88
          obtain ⟨rfl, rfl⟩ := q88
          show Go p e below _ (T88.setTop (mkF m 434 #[.val (.int len), .val (.long la), .second, .val (.long lb), .second, .val (.int (1 : Int32)), .val (.int c28), .val (.int c29), .val (.int c30), .val (.int c31), .val (.int c32), .val (.int c33), .val (.ref b53), .val (.ref b60), .val (.int got68), .unset] [(.int (1 : Int32))]))
          refine s_ifN S88 (hb hby at_434) (by decide) (pc' := 437) rfl ?_
          refine s_iconst S88 (hb hby at_437) (v := (5 : Int32)) rfl (pc' := 438) rfl ?_
          refine s_iload S88 (hb hby at_438) rfl (pc' := 440) rfl ?_
          refine s_iload S88 (hb hby at_440) rfl (pc' := 442) rfl ?_
          refine s_iload S88 (hb hby at_442) rfl (pc' := 444) rfl ?_
          show Go p e below _ (T88.setTop (mkF m 444 #[.val (.int len), .val (.long la), .second, .val (.long lb), .second, .val (.int (1 : Int32)), .val (.int c28), .val (.int c29), .val (.int c30), .val (.int c31), .val (.int c32), .val (.int c33), .val (.ref b53), .val (.ref b60), .val (.int got68), .unset] [(.int c33), (.int c32), (.int (1 : Int32)), (.int (5 : Int32))]))
          refine g_static S88 (rmNO X c32 c33 S88.old (by decide)) (fun _ q => nomatch q) (w78 hw) (w79 hw) (w73 hw) (w80 hw) (by decide) (hb hby at_444) (by rw [hml]; rfl) [(.int (5 : Int32)), (.int (1 : Int32)), (.int c32), (.int c33)] (lenOf pd5 rfl) rfl rfl (Nat.le_of_ble_eq_true rfl) (Nat.le_of_ble_eq_true rfl) (Nat.le_of_ble_eq_true rfl) (Nat.le_of_ble_eq_true rfl) ?_
          intro v89 T89 V89 h89 S89 C89 q89
          obtain ⟨rfl, rfl⟩ := q89
          show Go p e below _ (T89.setTop (mkF m 447 #[.val (.int len), .val (.long la), .second, .val (.long lb), .second, .val (.int (1 : Int32)), .val (.int c28), .val (.int c29), .val (.int c30), .val (.int c31), .val (.int c32), .val (.int c33), .val (.ref b53), .val (.ref b60), .val (.int got68), .unset] [(.int (1 : Int32))]))
          refine s_ifN S89 (hb hby at_447) (by decide) (pc' := 450) rfl ?_
          refine s_iconst S89 (hb hby at_450) (v := (1 : Int32)) rfl (pc' := 451) rfl ?_
          refine s_goto S89 (hb hby at_451) (by decide) (pcT := 455) (by decide) ?_
          exact K69 _ _ S89 _ (Or.inl ⟨rfl, hr74, hr76, hr78⟩)
        · skip
          show Go p e below _ (T79.setTop (mkF m 327 #[.val (.int len), .val (.long la), .second, .val (.long lb), .second, .val (.int (1 : Int32)), .val (.int c28), .val (.int c29), .val (.int c30), .val (.int c31), .val (.int c32), .val (.int c33), .val (.ref b53), .val (.ref b60), .val (.int got68), .unset] [(.int (0 : Int32))]))
          refine s_ifY S79 (hb hby at_327) (by decide) (by decide) (pcT := 454) (by decide) ?_
          refine s_iconst S79 (hb hby at_454) (v := (0 : Int32)) rfl (pc' := 455) rfl ?_
          exact K69 _ _ S79 _ (Or.inr ⟨rfl, fun q => hr78 q.2.2⟩)
      · skip
        show Go p e below _ (T77.setTop (mkF m 316 #[.val (.int len), .val (.long la), .second, .val (.long lb), .second, .val (.int (1 : Int32)), .val (.int c28), .val (.int c29), .val (.int c30), .val (.int c31), .val (.int c32), .val (.int c33), .val (.ref b53), .val (.ref b60), .val (.int got68), .unset] [(.int (0 : Int32))]))
        refine s_ifY S77 (hb hby at_316) (by decide) (by decide) (pcT := 454) (by decide) ?_
        refine s_iconst S77 (hb hby at_454) (v := (0 : Int32)) rfl (pc' := 455) rfl ?_
        exact K69 _ _ S77 _ (Or.inr ⟨rfl, fun q => hr76 q.2.1⟩)
    · skip
      show Go p e below _ (T75.setTop (mkF m 303 #[.val (.int len), .val (.long la), .second, .val (.long lb), .second, .val (.int (1 : Int32)), .val (.int c28), .val (.int c29), .val (.int c30), .val (.int c31), .val (.int c32), .val (.int c33), .val (.ref b53), .val (.ref b60), .val (.int got68), .unset] [(.int (0 : Int32))]))
      refine s_ifY S75 (hb hby at_303) (by decide) (by decide) (pcT := 454) (by decide) ?_
      refine s_iconst S75 (hb hby at_454) (v := (0 : Int32)) rfl (pc' := 455) rfl ?_
      exact K69 _ _ S75 _ (Or.inr ⟨rfl, fun q => hr74 q.1⟩)
  · skip
    show Go p e below _ (T0.setTop (mkF m 75 #[.val (.int len), .val (.long la), .second, .val (.long lb), .second, .val (.int (2 : Int32)), .val (.int c28), .val (.int c29), .val (.int c30), .val (.int c31), .val (.int c32), .val (.int c33), .unset, .unset, .unset, .unset] []))
    refine s_bipush S0 (hb hby at_75) (v := (6 : Int32)) rfl (pc' := 77) rfl ?_
    refine g_newarr (aty := .char) S0 (w2 hw) (hb hby at_77) (by decide) (cap := 6) (by decide) (by decide) (Nat.le_of_ble_eq_true rfl) (Nat.le_of_ble_eq_true rfl) ?_
    intro T90 h90 b90 kc90 S90 E90 fr90 lt90 na90 sf90 A90
    have V90 : Arv Z h90 b90 kc90 .char (6 : Int32) [(.int (0 : Int32)), (.int (0 : Int32)), (.int (0 : Int32)), (.int (0 : Int32)), (.int (0 : Int32)), (.int (0 : Int32))] (.int (0 : Int32)) := A90 6
    show Go p e below _ (T90.setTop (mkF m 79 #[.val (.int len), .val (.long la), .second, .val (.long lb), .second, .val (.int (2 : Int32)), .val (.int c28), .val (.int c29), .val (.int c30), .val (.int c31), .val (.int c32), .val (.int c33), .unset, .unset, .unset, .unset] [(.ref b90)]))
    refine s_astore S90 (hb hby at_79) rfl (L' := #[.val (.int len), .val (.long la), .second, .val (.long lb), .second, .val (.int (2 : Int32)), .val (.int c28), .val (.int c29), .val (.int c30), .val (.int c31), .val (.int c32), .val (.int c33), .val (.ref b90), .unset, .unset, .unset]) rfl (pc' := 81) rfl ?_
    refine s_aload S90 (hb hby at_81) rfl rfl (pc' := 83) rfl ?_
    refine s_iconst S90 (hb hby at_83) (v := (0 : Int32)) rfl (pc' := 84) rfl ?_
    refine s_iload S90 (hb hby at_84) rfl (pc' := 86) rfl ?_
    refine g_castore S90 V90 ⟨by decide, by decide⟩ 0 rfl (Nat.le_of_ble_eq_true rfl) na90 (hb hby at_86) ?_
    intro T91 h91 S91 K91 V91
    rw [narC8 rc28] at V91
    have V91 : Arv Z h91 b90 kc90 .char (6 : Int32) [(.int c28), (.int (0 : Int32)), (.int (0 : Int32)), (.int (0 : Int32)), (.int (0 : Int32)), (.int (0 : Int32))] (.int (0 : Int32)) := V91
    show Go p e below _ (T91.setTop (mkF m 87 #[.val (.int len), .val (.long la), .second, .val (.long lb), .second, .val (.int (2 : Int32)), .val (.int c28), .val (.int c29), .val (.int c30), .val (.int c31), .val (.int c32), .val (.int c33), .val (.ref b90), .unset, .unset, .unset] []))
    refine s_aload S91 (hb hby at_87) rfl rfl (pc' := 89) rfl ?_
    refine s_iconst S91 (hb hby at_89) (v := (1 : Int32)) rfl (pc' := 90) rfl ?_
    refine s_iload S91 (hb hby at_90) rfl (pc' := 92) rfl ?_
    refine g_castore S91 V91 ⟨by decide, by decide⟩ 1 rfl (Nat.le_of_ble_eq_true rfl) na90 (hb hby at_92) ?_
    intro T92 h92 S92 K92 V92
    rw [narC8 rc29] at V92
    have V92 : Arv Z h92 b90 kc90 .char (6 : Int32) [(.int c28), (.int c29), (.int (0 : Int32)), (.int (0 : Int32)), (.int (0 : Int32)), (.int (0 : Int32))] (.int (0 : Int32)) := V92
    show Go p e below _ (T92.setTop (mkF m 93 #[.val (.int len), .val (.long la), .second, .val (.long lb), .second, .val (.int (2 : Int32)), .val (.int c28), .val (.int c29), .val (.int c30), .val (.int c31), .val (.int c32), .val (.int c33), .val (.ref b90), .unset, .unset, .unset] []))
    refine s_aload S92 (hb hby at_93) rfl rfl (pc' := 95) rfl ?_
    refine s_iconst S92 (hb hby at_95) (v := (2 : Int32)) rfl (pc' := 96) rfl ?_
    refine s_iload S92 (hb hby at_96) rfl (pc' := 98) rfl ?_
    refine g_castore S92 V92 ⟨by decide, by decide⟩ 2 rfl (Nat.le_of_ble_eq_true rfl) na90 (hb hby at_98) ?_
    intro T93 h93 S93 K93 V93
    rw [narC8 rc30] at V93
    have V93 : Arv Z h93 b90 kc90 .char (6 : Int32) [(.int c28), (.int c29), (.int c30), (.int (0 : Int32)), (.int (0 : Int32)), (.int (0 : Int32))] (.int (0 : Int32)) := V93
    show Go p e below _ (T93.setTop (mkF m 99 #[.val (.int len), .val (.long la), .second, .val (.long lb), .second, .val (.int (2 : Int32)), .val (.int c28), .val (.int c29), .val (.int c30), .val (.int c31), .val (.int c32), .val (.int c33), .val (.ref b90), .unset, .unset, .unset] []))
    refine s_aload S93 (hb hby at_99) rfl rfl (pc' := 101) rfl ?_
    refine s_iconst S93 (hb hby at_101) (v := (3 : Int32)) rfl (pc' := 102) rfl ?_
    refine s_iload S93 (hb hby at_102) rfl (pc' := 104) rfl ?_
    refine g_castore S93 V93 ⟨by decide, by decide⟩ 3 rfl (Nat.le_of_ble_eq_true rfl) na90 (hb hby at_104) ?_
    intro T94 h94 S94 K94 V94
    rw [narC8 rc31] at V94
    have V94 : Arv Z h94 b90 kc90 .char (6 : Int32) [(.int c28), (.int c29), (.int c30), (.int c31), (.int (0 : Int32)), (.int (0 : Int32))] (.int (0 : Int32)) := V94
    show Go p e below _ (T94.setTop (mkF m 105 #[.val (.int len), .val (.long la), .second, .val (.long lb), .second, .val (.int (2 : Int32)), .val (.int c28), .val (.int c29), .val (.int c30), .val (.int c31), .val (.int c32), .val (.int c33), .val (.ref b90), .unset, .unset, .unset] []))
    refine s_aload S94 (hb hby at_105) rfl rfl (pc' := 107) rfl ?_
    refine s_iconst S94 (hb hby at_107) (v := (4 : Int32)) rfl (pc' := 108) rfl ?_
    refine s_iload S94 (hb hby at_108) rfl (pc' := 110) rfl ?_
    refine g_castore S94 V94 ⟨by decide, by decide⟩ 4 rfl (Nat.le_of_ble_eq_true rfl) na90 (hb hby at_110) ?_
    intro T95 h95 S95 K95 V95
    rw [narC8 rc32] at V95
    have V95 : Arv Z h95 b90 kc90 .char (6 : Int32) [(.int c28), (.int c29), (.int c30), (.int c31), (.int c32), (.int (0 : Int32))] (.int (0 : Int32)) := V95
    show Go p e below _ (T95.setTop (mkF m 111 #[.val (.int len), .val (.long la), .second, .val (.long lb), .second, .val (.int (2 : Int32)), .val (.int c28), .val (.int c29), .val (.int c30), .val (.int c31), .val (.int c32), .val (.int c33), .val (.ref b90), .unset, .unset, .unset] []))
    refine s_aload S95 (hb hby at_111) rfl rfl (pc' := 113) rfl ?_
    refine s_iconst S95 (hb hby at_113) (v := (5 : Int32)) rfl (pc' := 114) rfl ?_
    refine s_iload S95 (hb hby at_114) rfl (pc' := 116) rfl ?_
    refine g_castore S95 V95 ⟨by decide, by decide⟩ 5 rfl (Nat.le_of_ble_eq_true rfl) na90 (hb hby at_116) ?_
    intro T96 h96 S96 K96 V96
    rw [narC8 rc33] at V96
    have V96 : Arv Z h96 b90 kc90 .char (6 : Int32) [(.int c28), (.int c29), (.int c30), (.int c31), (.int c32), (.int c33)] (.int (0 : Int32)) := V96
    show Go p e below _ (T96.setTop (mkF m 117 #[.val (.int len), .val (.long la), .second, .val (.long lb), .second, .val (.int (2 : Int32)), .val (.int c28), .val (.int c29), .val (.int c30), .val (.int c31), .val (.int c32), .val (.int c33), .val (.ref b90), .unset, .unset, .unset] []))
    refine s_iload S96 (hb hby at_117) rfl (pc' := 119) rfl ?_
    refine s_ifY S96 (hb hby at_119) (by decide) (by decide) (pcT := 130) (by decide) ?_
    refine s_iload S96 (hb hby at_130) rfl (pc' := 132) rfl ?_
    refine s_iconst S96 (hb hby at_132) (v := (1 : Int32)) rfl (pc' := 133) rfl ?_
    refine s_icmpY S96 (hb hby at_133) (by decide) (by decide) (pcT := 144) (by decide) ?_
    refine s_iload S96 (hb hby at_144) rfl (pc' := 146) rfl ?_
    refine s_iconst S96 (hb hby at_146) (v := (2 : Int32)) rfl (pc' := 147) rfl ?_
    refine s_icmpN S96 (hb hby at_147) (by decide) (pc' := 150) rfl ?_
    refine s_iconst S96 (hb hby at_150) (v := (2 : Int32)) rfl (pc' := 151) rfl ?_
    refine g_newarr (aty := .char) S96 (w2 hw) (hb hby at_151) (by decide) (cap := 2) (by decide) (by decide) (Nat.le_of_ble_eq_true rfl) (Nat.le_of_ble_eq_true rfl) ?_
    intro T97 h97 b97 kc97 S97 E97 fr97 lt97 na97 sf97 A97
    have V97 : Arv Z h97 b97 kc97 .char (2 : Int32) [(.int (0 : Int32)), (.int (0 : Int32))] (.int (0 : Int32)) := A97 2
    show Go p e below _ (T97.setTop (mkF m 153 #[.val (.int len), .val (.long la), .second, .val (.long lb), .second, .val (.int (2 : Int32)), .val (.int c28), .val (.int c29), .val (.int c30), .val (.int c31), .val (.int c32), .val (.int c33), .val (.ref b90), .unset, .unset, .unset] [(.ref b97)]))
    refine s_astore S97 (hb hby at_153) rfl (L' := #[.val (.int len), .val (.long la), .second, .val (.long lb), .second, .val (.int (2 : Int32)), .val (.int c28), .val (.int c29), .val (.int c30), .val (.int c31), .val (.int c32), .val (.int c33), .val (.ref b90), .val (.ref b97), .unset, .unset]) rfl (pc' := 155) rfl ?_
    refine s_goto S97 (hb hby at_155) (by decide) (pcT := 206) (by decide) ?_
    refine s_iload S97 (hb hby at_206) rfl (pc' := 208) rfl ?_
    refine s_ifN S97 (hb hby at_208) (by decide) (pc' := 211) rfl ?_
    refine s_aload S97 (hb hby at_211) rfl rfl (pc' := 213) rfl ?_
    refine s_iconst S97 (hb hby at_213) (v := (0 : Int32)) rfl (pc' := 214) rfl ?_
    refine s_iload S97 (hb hby at_214) rfl (pc' := 216) rfl ?_
    refine g_castore S97 V97 ⟨by decide, by decide⟩ 0 rfl (Nat.le_of_ble_eq_true rfl) na97 (hb hby at_216) ?_
    intro T98 h98 S98 K98 V98
    rw [narC8 rc28] at V98
    have V98 : Arv Z h98 b97 kc97 .char (2 : Int32) [(.int c28), (.int (0 : Int32))] (.int (0 : Int32)) := V98
    show Go p e below _ (T98.setTop (mkF m 217 #[.val (.int len), .val (.long la), .second, .val (.long lb), .second, .val (.int (2 : Int32)), .val (.int c28), .val (.int c29), .val (.int c30), .val (.int c31), .val (.int c32), .val (.int c33), .val (.ref b90), .val (.ref b97), .unset, .unset] []))
    refine s_iload S98 (hb hby at_217) rfl (pc' := 219) rfl ?_
    refine s_iconst S98 (hb hby at_219) (v := (1 : Int32)) rfl (pc' := 220) rfl ?_
    refine s_icmpN S98 (hb hby at_220) (by decide) (pc' := 223) rfl ?_
    refine s_aload S98 (hb hby at_223) rfl rfl (pc' := 225) rfl ?_
    refine s_iconst S98 (hb hby at_225) (v := (1 : Int32)) rfl (pc' := 226) rfl ?_
    refine s_iload S98 (hb hby at_226) rfl (pc' := 228) rfl ?_
    refine g_castore S98 V98 ⟨by decide, by decide⟩ 1 rfl (Nat.le_of_ble_eq_true rfl) na97 (hb hby at_228) ?_
    intro T99 h99 S99 K99 V99
    rw [narC8 rc29] at V99
    have V99 : Arv Z h99 b97 kc97 .char (2 : Int32) [(.int c28), (.int c29)] (.int (0 : Int32)) := V99
    show Go p e below _ (T99.setTop (mkF m 229 #[.val (.int len), .val (.long la), .second, .val (.long lb), .second, .val (.int (2 : Int32)), .val (.int c28), .val (.int c29), .val (.int c30), .val (.int c31), .val (.int c32), .val (.int c33), .val (.ref b90), .val (.ref b97), .unset, .unset] []))
    refine s_iload S99 (hb hby at_229) rfl (pc' := 231) rfl ?_
    refine s_iconst S99 (hb hby at_231) (v := (2 : Int32)) rfl (pc' := 232) rfl ?_
    refine s_icmpY S99 (hb hby at_232) (by decide) (by decide) (pcT := 241) (by decide) ?_
    refine s_iload S99 (hb hby at_241) rfl (pc' := 243) rfl ?_
    refine s_iconst S99 (hb hby at_243) (v := (3 : Int32)) rfl (pc' := 244) rfl ?_
    refine s_icmpY S99 (hb hby at_244) (by decide) (by decide) (pcT := 253) (by decide) ?_
    refine s_iload S99 (hb hby at_253) rfl (pc' := 255) rfl ?_
    refine s_iconst S99 (hb hby at_255) (v := (4 : Int32)) rfl (pc' := 256) rfl ?_
    refine s_icmpY S99 (hb hby at_256) (by decide) (by decide) (pcT := 265) (by decide) ?_
    refine s_iload S99 (hb hby at_265) rfl (pc' := 267) rfl ?_
    refine s_iconst S99 (hb hby at_267) (v := (5 : Int32)) rfl (pc' := 268) rfl ?_
    refine s_icmpY S99 (hb hby at_268) (by decide) (by decide) (pcT := 277) (by decide) ?_
    refine g_new S99 (w3 hw) (w4 hw) (w5 hw) (hb hby at_277) (Nat.le_of_ble_eq_true rfl) (Nat.le_of_ble_eq_true rfl) ?_
    intro T100 h100 b100 S100 E100 fr100 lt100 na100 sf100 A100 D100
    have F101 : Fld Z h100 b100 "java/lang/String" "value" "[B" .null := D100 (Or.inr (w18 hw)) (ty := (.array .byte)) (by decide)
    have F102 : Fld Z h100 b100 "java/lang/String" "coder" "B" (.int (0 : Int32)) := D100 (Or.inr (w19 hw)) (ty := .byte) (by decide)
    show Go p e below _ (T100.setTop (mkF m 280 #[.val (.int len), .val (.long la), .second, .val (.long lb), .second, .val (.int (2 : Int32)), .val (.int c28), .val (.int c29), .val (.int c30), .val (.int c31), .val (.int c32), .val (.int c33), .val (.ref b90), .val (.ref b97), .unset, .unset] [(.ref b100)]))
    refine s_dup S100 (hb hby at_280) rfl (pc' := 281) rfl ?_
    refine s_aload S100 (hb hby at_281) rfl rfl (pc' := 283) rfl ?_
    show Go p e below _ (T100.setTop (mkF m 283 #[.val (.int len), .val (.long la), .second, .val (.long lb), .second, .val (.int (2 : Int32)), .val (.int c28), .val (.int c29), .val (.int c30), .val (.int c31), .val (.int c32), .val (.int c33), .val (.ref b90), .val (.ref b97), .unset, .unset] [(.ref b97), (.ref b100), (.ref b100)]))
    have V104 := V99.ext E100
    refine g_newStr S100 X (cs := [c28, c29]) (Nat.le_of_ble_eq_true rfl) (Nat.le_of_ble_eq_true rfl) rfl na100 sf100 A100 F101 F102 V104 (faS rc28 (faS rc29 fa0)) (w6 hw) (hb hby at_283) (by rw [hml]; rfl) (Nat.le_of_ble_eq_true rfl) (Nat.le_of_ble_eq_true rfl) (Nat.le_of_ble_eq_true rfl) (Nat.le_of_ble_eq_true rfl) ?_
    intro T103 h103 S103 K103 F103
    show Go p e below _ (T103.setTop (mkF m 286 #[.val (.int len), .val (.long la), .second, .val (.long lb), .second, .val (.int (2 : Int32)), .val (.int c28), .val (.int c29), .val (.int c30), .val (.int c31), .val (.int c32), .val (.int c33), .val (.ref b90), .val (.ref b97), .unset, .unset] [(.ref b100)]))
    show Go p e below _ (T103.setTop (mkF m 286 #[.val (.int len), .val (.long la), .second, .val (.long lb), .second, .val (.int (2 : Int32)), .val (.int c28), .val (.int c29), .val (.int c30), .val (.int c31), .val (.int c32), .val (.int c33), .val (.ref b90), .val (.ref b97), .unset, .unset] [(.ref b100)]))
    refine g_static S103 (rmIM X S103.old F103 (faS rc28.2 (faS rc29.2 fa0))) (fun _ q => nomatch q) (w24 hw) (w25 hw) (w26 hw) (w27 hw) (by decide) (hb hby at_286) (by rw [hml]; rfl) [(.ref b100)] (lenOf pd3 rfl) rfl rfl (Nat.le_of_ble_eq_true rfl) (Nat.le_of_ble_eq_true rfl) (Nat.le_of_ble_eq_true rfl) (Nat.le_of_ble_eq_true rfl) ?_
    intro v105 T105 V105 h105 S105 C105 q105
    obtain ⟨rfl, rfl⟩ := q105
    show Go p e below _ (T105.setTop (mkF m 289 #[.val (.int len), .val (.long la), .second, .val (.long lb), .second, .val (.int (2 : Int32)), .val (.int c28), .val (.int c29), .val (.int c30), .val (.int c31), .val (.int c32), .val (.int c33), .val (.ref b90), .val (.ref b97), .unset, .unset] [(.int (if imF false [c28, c29] = true then (1 : Int32) else (0 : Int32)))]))
    generalize egot106 : (if imF false [c28, c29] = true then (1 : Int32) else (0 : Int32)) = got106
    refine s_istore S105 (hb hby at_289) (L' := #[.val (.int len), .val (.long la), .second, .val (.long lb), .second, .val (.int (2 : Int32)), .val (.int c28), .val (.int c29), .val (.int c30), .val (.int c31), .val (.int c32), .val (.int c33), .val (.ref b90), .val (.ref b97), .val (.int got106), .unset]) rfl (pc' := 291) rfl ?_
    have X108 : Ext h96 h98 := ext_keep1 E97 K98 fr97
    have X109 : Ext h96 h99 := ext_keep1 X108 K99 fr97
    have X110 : Ext h96 h100 := ext_trans X109 E100
    have X111 : Ext h96 h105 := ext_keep1 X110 K103 (Nat.le_trans X109.1 fr100)
    have V112 := V96.ext X111
    show Go p e below _ (T105.setTop (mkF m 291 #[.val (.int len), .val (.long la), .second, .val (.long lb), .second, .val (.int (2 : Int32)), .val (.int c28), .val (.int c29), .val (.int c30), .val (.int c31), .val (.int c32), .val (.int c33), .val (.ref b90), .val (.ref b97), .val (.int got106), .unset] []))
    have K107 : ∀ (T8 : State) (V8 : Vm), St p l e room_1 s m #[(.int len), (.long la), (.long lb)] below meth c Z a0 EL1 n0 "com/example/remora/remora/MethodsIsMethodNamePinLaw" T8 V8 h105 4 14 → ∀ wx : Int32, ((wx = 1 ∧ own_W2 c28 c29) ∨ (wx = 0 ∧ ¬ own_W2 c28 c29)) → Go p e below (Fini Z EL1 n0 s room_1 (fun v h' => v = some (.int 1) ∧ True)) (T8.setTop (mkF m 455 #[.val (.int len), .val (.long la), .second, .val (.long lb), .second, .val (.int (2 : Int32)), .val (.int c28), .val (.int c29), .val (.int c30), .val (.int c31), .val (.int c32), .val (.int c33), .val (.ref b90), .val (.ref b97), .val (.int got106), .unset] [(.int wx)])) := by
      intro T8 V8 S8 wx hwx
      obtain rfl : wx = got106 := by
        rw [← egot106]
        exact own_if (own_eq2 c28 c29) hwx
      show Go p e below _ (T8.setTop (mkF m 455 #[.val (.int len), .val (.long la), .second, .val (.long lb), .second, .val (.int (2 : Int32)), .val (.int c28), .val (.int c29), .val (.int c30), .val (.int c31), .val (.int c32), .val (.int c33), .val (.ref b90), .val (.ref b97), .val (.int wx), .unset] [(.int wx)]))
      refine s_istore S8 (hb hby at_455) (L' := #[.val (.int len), .val (.long la), .second, .val (.long lb), .second, .val (.int (2 : Int32)), .val (.int c28), .val (.int c29), .val (.int c30), .val (.int c31), .val (.int c32), .val (.int c33), .val (.ref b90), .val (.ref b97), .val (.int wx), .val (.int wx)]) rfl (pc' := 457) rfl ?_
      refine s_iload S8 (hb hby at_457) rfl (pc' := 459) rfl ?_
      refine s_iload S8 (hb hby at_459) rfl (pc' := 461) rfl ?_
      refine s_icmpN S8 (hb hby at_461) (by simp [if_icmp.holds]) (pc' := 464) rfl ?_
      refine s_iconst S8 (hb hby at_464) (v := (1 : Int32)) rfl (pc' := 465) rfl ?_
      refine s_goto S8 (hb hby at_465) (by decide) (pcT := 469) (by decide) ?_
      exact g_iretN S8 (hb hby at_469) hret (by simp) ⟨rfl, trivial⟩
    refine s_iload S105 (hb hby at_291) rfl (pc' := 293) rfl ?_
    refine s_ifN S105 (hb hby at_293) (by decide) (pc' := 296) rfl ?_
    refine s_aload S105 (hb hby at_296) rfl rfl (pc' := 298) rfl ?_
    refine s_iconst S105 (hb hby at_298) (v := (0 : Int32)) rfl (pc' := 299) rfl ?_
    show Go p e below _ (T105.setTop (mkF m 299 #[.val (.int len), .val (.long la), .second, .val (.long lb), .second, .val (.int (2 : Int32)), .val (.int c28), .val (.int c29), .val (.int c30), .val (.int c31), .val (.int c32), .val (.int c33), .val (.ref b90), .val (.ref b97), .val (.int got106), .unset] [(.int (0 : Int32)), (.ref b90)]))
    refine g_caload S105 V112 ⟨by decide, by decide⟩ (x := c28) rfl (hb hby at_299) ?_
    show Go p e below _ (T105.setTop (mkF m 300 #[.val (.int len), .val (.long la), .second, .val (.long lb), .second, .val (.int (2 : Int32)), .val (.int c28), .val (.int c29), .val (.int c30), .val (.int c31), .val (.int c32), .val (.int c33), .val (.ref b90), .val (.ref b97), .val (.int got106), .unset] [(.int c28)]))
    show Go p e below _ (T105.setTop (mkF m 300 #[.val (.int len), .val (.long la), .second, .val (.long lb), .second, .val (.int (2 : Int32)), .val (.int c28), .val (.int c29), .val (.int c30), .val (.int c31), .val (.int c32), .val (.int c33), .val (.ref b90), .val (.ref b97), .val (.int got106), .unset] [(.int c28)]))
    refine g_static S105 (rmIL X c28 S105.old) (fun _ q => nomatch q) (w71 hw) (w72 hw) (w73 hw) (w74 hw) (by decide) (hb hby at_300) (by rw [hml]; rfl) [(.int c28)] (lenOf pd1 rfl) rfl rfl (Nat.le_of_ble_eq_true rfl) (Nat.le_of_ble_eq_true rfl) (Nat.le_of_ble_eq_true rfl) (Nat.le_of_ble_eq_true rfl) ?_
    intro v114 T114 V114 h114 S114 C114 q114
    obtain ⟨r113, rfl, hr113, rfl⟩ := q114
    rcases hr113 with ⟨rfl, hr113⟩ | ⟨rfl, hr113⟩
    · skip
      show Go p e below _ (T114.setTop (mkF m 303 #[.val (.int len), .val (.long la), .second, .val (.long lb), .second, .val (.int (2 : Int32)), .val (.int c28), .val (.int c29), .val (.int c30), .val (.int c31), .val (.int c32), .val (.int c33), .val (.ref b90), .val (.ref b97), .val (.int got106), .unset] [(.int (1 : Int32))]))
      refine s_ifN S114 (hb hby at_303) (by decide) (pc' := 306) rfl ?_
      refine s_aload S114 (hb hby at_306) rfl rfl (pc' := 308) rfl ?_
      refine s_iload S114 (hb hby at_308) rfl (pc' := 310) rfl ?_
      refine s_iconst S114 (hb hby at_310) (v := (1 : Int32)) rfl (pc' := 311) rfl ?_
      refine s_isub S114 (hb hby at_311) (z := (1 : Int32)) rfl (pc' := 312) rfl ?_
      show Go p e below _ (T114.setTop (mkF m 312 #[.val (.int len), .val (.long la), .second, .val (.long lb), .second, .val (.int (2 : Int32)), .val (.int c28), .val (.int c29), .val (.int c30), .val (.int c31), .val (.int c32), .val (.int c33), .val (.ref b90), .val (.ref b97), .val (.int got106), .unset] [(.int (1 : Int32)), (.ref b90)]))
      refine g_caload S114 V112 ⟨by decide, by decide⟩ (x := c29) rfl (hb hby at_312) ?_
      show Go p e below _ (T114.setTop (mkF m 313 #[.val (.int len), .val (.long la), .second, .val (.long lb), .second, .val (.int (2 : Int32)), .val (.int c28), .val (.int c29), .val (.int c30), .val (.int c31), .val (.int c32), .val (.int c33), .val (.ref b90), .val (.ref b97), .val (.int got106), .unset] [(.int c29)]))
      show Go p e below _ (T114.setTop (mkF m 313 #[.val (.int len), .val (.long la), .second, .val (.long lb), .second, .val (.int (2 : Int32)), .val (.int c28), .val (.int c29), .val (.int c30), .val (.int c31), .val (.int c32), .val (.int c33), .val (.ref b90), .val (.ref b97), .val (.int got106), .unset] [(.int c29)]))
      refine g_static S114 (rmIL X c29 S114.old) (fun _ q => nomatch q) (w71 hw) (w72 hw) (w73 hw) (w74 hw) (by decide) (hb hby at_313) (by rw [hml]; rfl) [(.int c29)] (lenOf pd1 rfl) rfl rfl (Nat.le_of_ble_eq_true rfl) (Nat.le_of_ble_eq_true rfl) (Nat.le_of_ble_eq_true rfl) (Nat.le_of_ble_eq_true rfl) ?_
      intro v116 T116 V116 h116 S116 C116 q116
      obtain ⟨r115, rfl, hr115, rfl⟩ := q116
      rcases hr115 with ⟨rfl, hr115⟩ | ⟨rfl, hr115⟩
      · skip
        show Go p e below _ (T116.setTop (mkF m 316 #[.val (.int len), .val (.long la), .second, .val (.long lb), .second, .val (.int (2 : Int32)), .val (.int c28), .val (.int c29), .val (.int c30), .val (.int c31), .val (.int c32), .val (.int c33), .val (.ref b90), .val (.ref b97), .val (.int got106), .unset] [(.int (1 : Int32))]))
        refine s_ifN S116 (hb hby at_316) (by decide) (pc' := 319) rfl ?_
        refine s_iconst S116 (hb hby at_319) (v := (0 : Int32)) rfl (pc' := 320) rfl ?_
        refine s_iload S116 (hb hby at_320) rfl (pc' := 322) rfl ?_
        refine s_iload S116 (hb hby at_322) rfl (pc' := 324) rfl ?_
        show Go p e below _ (T116.setTop (mkF m 324 #[.val (.int len), .val (.long la), .second, .val (.long lb), .second, .val (.int (2 : Int32)), .val (.int c28), .val (.int c29), .val (.int c30), .val (.int c31), .val (.int c32), .val (.int c33), .val (.ref b90), .val (.ref b97), .val (.int got106), .unset] [(.int c28), (.int (2 : Int32)), (.int (0 : Int32))]))
        refine g_static S116 (rmFI X c28 S116.old (by decide)) (fun _ q => nomatch q) (w75 hw) (w76 hw) (w73 hw) (w77 hw) (by decide) (hb hby at_324) (by rw [hml]; rfl) [(.int (0 : Int32)), (.int (2 : Int32)), (.int c28)] (lenOf pd4 rfl) rfl rfl (Nat.le_of_ble_eq_true rfl) (Nat.le_of_ble_eq_true rfl) (Nat.le_of_ble_eq_true rfl) (Nat.le_of_ble_eq_true rfl) ?_
        intro v118 T118 V118 h118 S118 C118 q118
        obtain ⟨r117, rfl, hr117, rfl⟩ := q118
        rcases hr117 with ⟨rfl, hr117⟩ | ⟨rfl, hr117⟩
        · skip
          show Go p e below _ (T118.setTop (mkF m 327 #[.val (.int len), .val (.long la), .second, .val (.long lb), .second, .val (.int (2 : Int32)), .val (.int c28), .val (.int c29), .val (.int c30), .val (.int c31), .val (.int c32), .val (.int c33), .val (.ref b90), .val (.ref b97), .val (.int got106), .unset] [(.int (1 : Int32))]))
          refine s_ifN S118 (hb hby at_327) (by decide) (pc' := 330) rfl ?_
          refine s_iconst S118 (hb hby at_330) (v := (1 : Int32)) rfl (pc' := 331) rfl ?_
          refine s_iload S118 (hb hby at_331) rfl (pc' := 333) rfl ?_
          refine s_iload S118 (hb hby at_333) rfl (pc' := 335) rfl ?_
          show Go p e below _ (T118.setTop (mkF m 335 #[.val (.int len), .val (.long la), .second, .val (.long lb), .second, .val (.int (2 : Int32)), .val (.int c28), .val (.int c29), .val (.int c30), .val (.int c31), .val (.int c32), .val (.int c33), .val (.ref b90), .val (.ref b97), .val (.int got106), .unset] [(.int c29), (.int (2 : Int32)), (.int (1 : Int32))]))
          refine g_static S118 (rmFI X c29 S118.old (by decide)) (fun _ q => nomatch q) (w75 hw) (w76 hw) (w73 hw) (w77 hw) (by decide) (hb hby at_335) (by rw [hml]; rfl) [(.int (1 : Int32)), (.int (2 : Int32)), (.int c29)] (lenOf pd4 rfl) rfl rfl (Nat.le_of_ble_eq_true rfl) (Nat.le_of_ble_eq_true rfl) (Nat.le_of_ble_eq_true rfl) (Nat.le_of_ble_eq_true rfl) ?_
          intro v120 T120 V120 h120 S120 C120 q120
          obtain ⟨r119, rfl, hr119, rfl⟩ := q120
          rcases hr119 with ⟨rfl, hr119⟩ | ⟨rfl, hr119⟩
          · skip
            show Go p e below _ (T120.setTop (mkF m 338 #[.val (.int len), .val (.long la), .second, .val (.long lb), .second, .val (.int (2 : Int32)), .val (.int c28), .val (.int c29), .val (.int c30), .val (.int c31), .val (.int c32), .val (.int c33), .val (.ref b90), .val (.ref b97), .val (.int got106), .unset] [(.int (1 : Int32))]))
            refine s_ifN S120 (hb hby at_338) (by decide) (pc' := 341) rfl ?_
            refine s_iconst S120 (hb hby at_341) (v := (2 : Int32)) rfl (pc' := 342) rfl ?_
            refine s_iload S120 (hb hby at_342) rfl (pc' := 344) rfl ?_
            refine s_iload S120 (hb hby at_344) rfl (pc' := 346) rfl ?_
            show Go p e below _ (T120.setTop (mkF m 346 #[.val (.int len), .val (.long la), .second, .val (.long lb), .second, .val (.int (2 : Int32)), .val (.int c28), .val (.int c29), .val (.int c30), .val (.int c31), .val (.int c32), .val (.int c33), .val (.ref b90), .val (.ref b97), .val (.int got106), .unset] [(.int c30), (.int (2 : Int32)), (.int (2 : Int32))]))
            refine g_static S120 (rmFO X c30 S120.old (by decide)) (fun _ q => nomatch q) (w75 hw) (w76 hw) (w73 hw) (w77 hw) (by decide) (hb hby at_346) (by rw [hml]; rfl) [(.int (2 : Int32)), (.int (2 : Int32)), (.int c30)] (lenOf pd4 rfl) rfl rfl (Nat.le_of_ble_eq_true rfl) (Nat.le_of_ble_eq_true rfl) (Nat.le_of_ble_eq_true rfl) (Nat.le_of_ble_eq_true rfl) ?_
            intro v121 T121 V121 h121 S121 C121 q121
            obtain ⟨rfl, rfl⟩ := q121
            show Go p e below _ (T121.setTop (mkF m 349 #[.val (.int len), .val (.long la), .second, .val (.long lb), .second, .val (.int (2 : Int32)), .val (.int c28), .val (.int c29), .val (.int c30), .val (.int c31), .val (.int c32), .val (.int c33), .val (.ref b90), .val (.ref b97), .val (.int got106), .unset] [(.int (1 : Int32))]))
            refine s_ifN S121 (hb hby at_349) (by decide) (pc' := 352) rfl ?_
            refine s_iconst S121 (hb hby at_352) (v := (3 : Int32)) rfl (pc' := 353) rfl ?_
            refine s_iload S121 (hb hby at_353) rfl (pc' := 355) rfl ?_
            refine s_iload S121 (hb hby at_355) rfl (pc' := 357) rfl ?_
            show Go p e below _ (T121.setTop (mkF m 357 #[.val (.int len), .val (.long la), .second, .val (.long lb), .second, .val (.int (2 : Int32)), .val (.int c28), .val (.int c29), .val (.int c30), .val (.int c31), .val (.int c32), .val (.int c33), .val (.ref b90), .val (.ref b97), .val (.int got106), .unset] [(.int c31), (.int (2 : Int32)), (.int (3 : Int32))]))
            refine g_static S121 (rmFO X c31 S121.old (by decide)) (fun _ q => nomatch q) (w75 hw) (w76 hw) (w73 hw) (w77 hw) (by decide) (hb hby at_357) (by rw [hml]; rfl) [(.int (3 : Int32)), (.int (2 : Int32)), (.int c31)] (lenOf pd4 rfl) rfl rfl (Nat.le_of_ble_eq_true rfl) (Nat.le_of_ble_eq_true rfl) (Nat.le_of_ble_eq_true rfl) (Nat.le_of_ble_eq_true rfl) ?_
            intro v122 T122 V122 h122 S122 C122 q122
            obtain ⟨rfl, rfl⟩ := q122
            show Go p e below _ (T122.setTop (mkF m 360 #[.val (.int len), .val (.long la), .second, .val (.long lb), .second, .val (.int (2 : Int32)), .val (.int c28), .val (.int c29), .val (.int c30), .val (.int c31), .val (.int c32), .val (.int c33), .val (.ref b90), .val (.ref b97), .val (.int got106), .unset] [(.int (1 : Int32))]))
            refine s_ifN S122 (hb hby at_360) (by decide) (pc' := 363) rfl ?_
            refine s_iconst S122 (hb hby at_363) (v := (4 : Int32)) rfl (pc' := 364) rfl ?_
            refine s_iload S122 (hb hby at_364) rfl (pc' := 366) rfl ?_
            refine s_iload S122 (hb hby at_366) rfl (pc' := 368) rfl ?_
            show Go p e below _ (T122.setTop (mkF m 368 #[.val (.int len), .val (.long la), .second, .val (.long lb), .second, .val (.int (2 : Int32)), .val (.int c28), .val (.int c29), .val (.int c30), .val (.int c31), .val (.int c32), .val (.int c33), .val (.ref b90), .val (.ref b97), .val (.int got106), .unset] [(.int c32), (.int (2 : Int32)), (.int (4 : Int32))]))
            refine g_static S122 (rmFO X c32 S122.old (by decide)) (fun _ q => nomatch q) (w75 hw) (w76 hw) (w73 hw) (w77 hw) (by decide) (hb hby at_368) (by rw [hml]; rfl) [(.int (4 : Int32)), (.int (2 : Int32)), (.int c32)] (lenOf pd4 rfl) rfl rfl (Nat.le_of_ble_eq_true rfl) (Nat.le_of_ble_eq_true rfl) (Nat.le_of_ble_eq_true rfl) (Nat.le_of_ble_eq_true rfl) ?_
            intro v123 T123 V123 h123 S123 C123 q123
            obtain ⟨rfl, rfl⟩ := q123
            show Go p e below _ (T123.setTop (mkF m 371 #[.val (.int len), .val (.long la), .second, .val (.long lb), .second, .val (.int (2 : Int32)), .val (.int c28), .val (.int c29), .val (.int c30), .val (.int c31), .val (.int c32), .val (.int c33), .val (.ref b90), .val (.ref b97), .val (.int got106), .unset] [(.int (1 : Int32))]))
            refine s_ifN S123 (hb hby at_371) (by decide) (pc' := 374) rfl ?_
            refine s_iconst S123 (hb hby at_374) (v := (5 : Int32)) rfl (pc' := 375) rfl ?_
            refine s_iload S123 (hb hby at_375) rfl (pc' := 377) rfl ?_
            refine s_iload S123 (hb hby at_377) rfl (pc' := 379) rfl ?_
            show Go p e below _ (T123.setTop (mkF m 379 #[.val (.int len), .val (.long la), .second, .val (.long lb), .second, .val (.int (2 : Int32)), .val (.int c28), .val (.int c29), .val (.int c30), .val (.int c31), .val (.int c32), .val (.int c33), .val (.ref b90), .val (.ref b97), .val (.int got106), .unset] [(.int c33), (.int (2 : Int32)), (.int (5 : Int32))]))
            refine g_static S123 (rmFO X c33 S123.old (by decide)) (fun _ q => nomatch q) (w75 hw) (w76 hw) (w73 hw) (w77 hw) (by decide) (hb hby at_379) (by rw [hml]; rfl) [(.int (5 : Int32)), (.int (2 : Int32)), (.int c33)] (lenOf pd4 rfl) rfl rfl (Nat.le_of_ble_eq_true rfl) (Nat.le_of_ble_eq_true rfl) (Nat.le_of_ble_eq_true rfl) (Nat.le_of_ble_eq_true rfl) ?_
            intro v124 T124 V124 h124 S124 C124 q124
            obtain ⟨rfl, rfl⟩ := q124
            show Go p e below _ (T124.setTop (mkF m 382 #[.val (.int len), .val (.long la), .second, .val (.long lb), .second, .val (.int (2 : Int32)), .val (.int c28), .val (.int c29), .val (.int c30), .val (.int c31), .val (.int c32), .val (.int c33), .val (.ref b90), .val (.ref b97), .val (.int got106), .unset] [(.int (1 : Int32))]))
            refine s_ifN S124 (hb hby at_382) (by decide) (pc' := 385) rfl ?_
            refine s_iconst S124 (hb hby at_385) (v := (1 : Int32)) rfl (pc' := 386) rfl ?_
            refine s_iload S124 (hb hby at_386) rfl (pc' := 388) rfl ?_
            refine s_iload S124 (hb hby at_388) rfl (pc' := 390) rfl ?_
            refine s_iload S124 (hb hby at_390) rfl (pc' := 392) rfl ?_
            show Go p e below _ (T124.setTop (mkF m 392 #[.val (.int len), .val (.long la), .second, .val (.long lb), .second, .val (.int (2 : Int32)), .val (.int c28), .val (.int c29), .val (.int c30), .val (.int c31), .val (.int c32), .val (.int c33), .val (.ref b90), .val (.ref b97), .val (.int got106), .unset] [(.int c29), (.int c28), (.int (2 : Int32)), (.int (1 : Int32))]))
            refine g_static S124 (rmNP X c28 c29 S124.old (by decide)) (fun _ q => nomatch q) (w78 hw) (w79 hw) (w73 hw) (w80 hw) (by decide) (hb hby at_392) (by rw [hml]; rfl) [(.int (1 : Int32)), (.int (2 : Int32)), (.int c28), (.int c29)] (lenOf pd5 rfl) rfl rfl (Nat.le_of_ble_eq_true rfl) (Nat.le_of_ble_eq_true rfl) (Nat.le_of_ble_eq_true rfl) (Nat.le_of_ble_eq_true rfl) ?_
            intro v126 T126 V126 h126 S126 C126 q126
            obtain ⟨r125, rfl, hr125, rfl⟩ := q126
            rcases hr125 with ⟨rfl, hr125⟩ | ⟨rfl, hr125⟩
            · skip
              show Go p e below _ (T126.setTop (mkF m 395 #[.val (.int len), .val (.long la), .second, .val (.long lb), .second, .val (.int (2 : Int32)), .val (.int c28), .val (.int c29), .val (.int c30), .val (.int c31), .val (.int c32), .val (.int c33), .val (.ref b90), .val (.ref b97), .val (.int got106), .unset] [(.int (1 : Int32))]))
              refine s_ifN S126 (hb hby at_395) (by decide) (pc' := 398) rfl ?_
              refine s_iconst S126 (hb hby at_398) (v := (2 : Int32)) rfl (pc' := 399) rfl ?_
              refine s_iload S126 (hb hby at_399) rfl (pc' := 401) rfl ?_
              refine s_iload S126 (hb hby at_401) rfl (pc' := 403) rfl ?_
              refine s_iload S126 (hb hby at_403) rfl (pc' := 405) rfl ?_
              show Go p e below _ (T126.setTop (mkF m 405 #[.val (.int len), .val (.long la), .second, .val (.long lb), .second, .val (.int (2 : Int32)), .val (.int c28), .val (.int c29), .val (.int c30), .val (.int c31), .val (.int c32), .val (.int c33), .val (.ref b90), .val (.ref b97), .val (.int got106), .unset] [(.int c30), (.int c29), (.int (2 : Int32)), (.int (2 : Int32))]))
              refine g_static S126 (rmNO X c29 c30 S126.old (by decide)) (fun _ q => nomatch q) (w78 hw) (w79 hw) (w73 hw) (w80 hw) (by decide) (hb hby at_405) (by rw [hml]; rfl) [(.int (2 : Int32)), (.int (2 : Int32)), (.int c29), (.int c30)] (lenOf pd5 rfl) rfl rfl (Nat.le_of_ble_eq_true rfl) (Nat.le_of_ble_eq_true rfl) (Nat.le_of_ble_eq_true rfl) (Nat.le_of_ble_eq_true rfl) ?_
              intro v127 T127 V127 h127 S127 C127 q127
              obtain ⟨rfl, rfl⟩ := q127
              show Go p e below _ (T127.setTop (mkF m 408 #[.val (.int len), .val (.long la), .second, .val (.long lb), .second, .val (.int (2 : Int32)), .val (.int c28), .val (.int c29), .val (.int c30), .val (.int c31), .val (.int c32), .val (.int c33), .val (.ref b90), .val (.ref b97), .val (.int got106), .unset] [(.int (1 : Int32))]))
              refine s_ifN S127 (hb hby at_408) (by decide) (pc' := 411) rfl ?_
              refine s_iconst S127 (hb hby at_411) (v := (3 : Int32)) rfl (pc' := 412) rfl ?_
              refine s_iload S127 (hb hby at_412) rfl (pc' := 414) rfl ?_
              refine s_iload S127 (hb hby at_414) rfl (pc' := 416) rfl ?_
              refine s_iload S127 (hb hby at_416) rfl (pc' := 418) rfl ?_
              show Go p e below _ (T127.setTop (mkF m 418 #[.val (.int len), .val (.long la), .second, .val (.long lb), .second, .val (.int (2 : Int32)), .val (.int c28), .val (.int c29), .val (.int c30), .val (.int c31), .val (.int c32), .val (.int c33), .val (.ref b90), .val (.ref b97), .val (.int got106), .unset] [(.int c31), (.int c30), (.int (2 : Int32)), (.int (3 : Int32))]))
              refine g_static S127 (rmNO X c30 c31 S127.old (by decide)) (fun _ q => nomatch q) (w78 hw) (w79 hw) (w73 hw) (w80 hw) (by decide) (hb hby at_418) (by rw [hml]; rfl) [(.int (3 : Int32)), (.int (2 : Int32)), (.int c30), (.int c31)] (lenOf pd5 rfl) rfl rfl (Nat.le_of_ble_eq_true rfl) (Nat.le_of_ble_eq_true rfl) (Nat.le_of_ble_eq_true rfl) (Nat.le_of_ble_eq_true rfl) ?_
              intro v128 T128 V128 h128 S128 C128 q128
              obtain ⟨rfl, rfl⟩ := q128
              show Go p e below _ (T128.setTop (mkF m 421 #[.val (.int len), .val (.long la), .second, .val (.long lb), .second, .val (.int (2 : Int32)), .val (.int c28), .val (.int c29), .val (.int c30), .val (.int c31), .val (.int c32), .val (.int c33), .val (.ref b90), .val (.ref b97), .val (.int got106), .unset] [(.int (1 : Int32))]))
              refine s_ifN S128 (hb hby at_421) (by decide) (pc' := 424) rfl ?_
              refine s_iconst S128 (hb hby at_424) (v := (4 : Int32)) rfl (pc' := 425) rfl ?_
              refine s_iload S128 (hb hby at_425) rfl (pc' := 427) rfl ?_
              refine s_iload S128 (hb hby at_427) rfl (pc' := 429) rfl ?_
              refine s_iload S128 (hb hby at_429) rfl (pc' := 431) rfl ?_
              show Go p e below _ (T128.setTop (mkF m 431 #[.val (.int len), .val (.long la), .second, .val (.long lb), .second, .val (.int (2 : Int32)), .val (.int c28), .val (.int c29), .val (.int c30), .val (.int c31), .val (.int c32), .val (.int c33), .val (.ref b90), .val (.ref b97), .val (.int got106), .unset] [(.int c32), (.int c31), (.int (2 : Int32)), (.int (4 : Int32))]))
              refine g_static S128 (rmNO X c31 c32 S128.old (by decide)) (fun _ q => nomatch q) (w78 hw) (w79 hw) (w73 hw) (w80 hw) (by decide) (hb hby at_431) (by rw [hml]; rfl) [(.int (4 : Int32)), (.int (2 : Int32)), (.int c31), (.int c32)] (lenOf pd5 rfl) rfl rfl (Nat.le_of_ble_eq_true rfl) (Nat.le_of_ble_eq_true rfl) (Nat.le_of_ble_eq_true rfl) (Nat.le_of_ble_eq_true rfl) ?_
              intro v129 T129 V129 h129 S129 C129 q129
              obtain ⟨rfl, rfl⟩ := q129
              show Go p e below _ (T129.setTop (mkF m 434 #[.val (.int len), .val (.long la), .second, .val (.long lb), .second, .val (.int (2 : Int32)), .val (.int c28), .val (.int c29), .val (.int c30), .val (.int c31), .val (.int c32), .val (.int c33), .val (.ref b90), .val (.ref b97), .val (.int got106), .unset] [(.int (1 : Int32))]))
              refine s_ifN S129 (hb hby at_434) (by decide) (pc' := 437) rfl ?_
              refine s_iconst S129 (hb hby at_437) (v := (5 : Int32)) rfl (pc' := 438) rfl ?_
              refine s_iload S129 (hb hby at_438) rfl (pc' := 440) rfl ?_
              refine s_iload S129 (hb hby at_440) rfl (pc' := 442) rfl ?_
              refine s_iload S129 (hb hby at_442) rfl (pc' := 444) rfl ?_
              show Go p e below _ (T129.setTop (mkF m 444 #[.val (.int len), .val (.long la), .second, .val (.long lb), .second, .val (.int (2 : Int32)), .val (.int c28), .val (.int c29), .val (.int c30), .val (.int c31), .val (.int c32), .val (.int c33), .val (.ref b90), .val (.ref b97), .val (.int got106), .unset] [(.int c33), (.int c32), (.int (2 : Int32)), (.int (5 : Int32))]))
              refine g_static S129 (rmNO X c32 c33 S129.old (by decide)) (fun _ q => nomatch q) (w78 hw) (w79 hw) (w73 hw) (w80 hw) (by decide) (hb hby at_444) (by rw [hml]; rfl) [(.int (5 : Int32)), (.int (2 : Int32)), (.int c32), (.int c33)] (lenOf pd5 rfl) rfl rfl (Nat.le_of_ble_eq_true rfl) (Nat.le_of_ble_eq_true rfl) (Nat.le_of_ble_eq_true rfl) (Nat.le_of_ble_eq_true rfl) ?_
              intro v130 T130 V130 h130 S130 C130 q130
              obtain ⟨rfl, rfl⟩ := q130
              show Go p e below _ (T130.setTop (mkF m 447 #[.val (.int len), .val (.long la), .second, .val (.long lb), .second, .val (.int (2 : Int32)), .val (.int c28), .val (.int c29), .val (.int c30), .val (.int c31), .val (.int c32), .val (.int c33), .val (.ref b90), .val (.ref b97), .val (.int got106), .unset] [(.int (1 : Int32))]))
              refine s_ifN S130 (hb hby at_447) (by decide) (pc' := 450) rfl ?_
              refine s_iconst S130 (hb hby at_450) (v := (1 : Int32)) rfl (pc' := 451) rfl ?_
              refine s_goto S130 (hb hby at_451) (by decide) (pcT := 455) (by decide) ?_
              exact K107 _ _ S130 _ (Or.inl ⟨rfl, hr113, hr115, hr117, hr119, hr125⟩)
            · skip
              show Go p e below _ (T126.setTop (mkF m 395 #[.val (.int len), .val (.long la), .second, .val (.long lb), .second, .val (.int (2 : Int32)), .val (.int c28), .val (.int c29), .val (.int c30), .val (.int c31), .val (.int c32), .val (.int c33), .val (.ref b90), .val (.ref b97), .val (.int got106), .unset] [(.int (0 : Int32))]))
              refine s_ifY S126 (hb hby at_395) (by decide) (by decide) (pcT := 454) (by decide) ?_
              refine s_iconst S126 (hb hby at_454) (v := (0 : Int32)) rfl (pc' := 455) rfl ?_
              exact K107 _ _ S126 _ (Or.inr ⟨rfl, fun q => hr125 q.2.2.2.2⟩)
          · skip
            show Go p e below _ (T120.setTop (mkF m 338 #[.val (.int len), .val (.long la), .second, .val (.long lb), .second, .val (.int (2 : Int32)), .val (.int c28), .val (.int c29), .val (.int c30), .val (.int c31), .val (.int c32), .val (.int c33), .val (.ref b90), .val (.ref b97), .val (.int got106), .unset] [(.int (0 : Int32))]))
            refine s_ifY S120 (hb hby at_338) (by decide) (by decide) (pcT := 454) (by decide) ?_
            refine s_iconst S120 (hb hby at_454) (v := (0 : Int32)) rfl (pc' := 455) rfl ?_
            exact K107 _ _ S120 _ (Or.inr ⟨rfl, fun q => hr119 q.2.2.2.1⟩)
        · skip
          show Go p e below _ (T118.setTop (mkF m 327 #[.val (.int len), .val (.long la), .second, .val (.long lb), .second, .val (.int (2 : Int32)), .val (.int c28), .val (.int c29), .val (.int c30), .val (.int c31), .val (.int c32), .val (.int c33), .val (.ref b90), .val (.ref b97), .val (.int got106), .unset] [(.int (0 : Int32))]))
          refine s_ifY S118 (hb hby at_327) (by decide) (by decide) (pcT := 454) (by decide) ?_
          refine s_iconst S118 (hb hby at_454) (v := (0 : Int32)) rfl (pc' := 455) rfl ?_
          exact K107 _ _ S118 _ (Or.inr ⟨rfl, fun q => hr117 q.2.2.1⟩)
      · skip
        show Go p e below _ (T116.setTop (mkF m 316 #[.val (.int len), .val (.long la), .second, .val (.long lb), .second, .val (.int (2 : Int32)), .val (.int c28), .val (.int c29), .val (.int c30), .val (.int c31), .val (.int c32), .val (.int c33), .val (.ref b90), .val (.ref b97), .val (.int got106), .unset] [(.int (0 : Int32))]))
        refine s_ifY S116 (hb hby at_316) (by decide) (by decide) (pcT := 454) (by decide) ?_
        refine s_iconst S116 (hb hby at_454) (v := (0 : Int32)) rfl (pc' := 455) rfl ?_
        exact K107 _ _ S116 _ (Or.inr ⟨rfl, fun q => hr115 q.2.1⟩)
    · skip
      show Go p e below _ (T114.setTop (mkF m 303 #[.val (.int len), .val (.long la), .second, .val (.long lb), .second, .val (.int (2 : Int32)), .val (.int c28), .val (.int c29), .val (.int c30), .val (.int c31), .val (.int c32), .val (.int c33), .val (.ref b90), .val (.ref b97), .val (.int got106), .unset] [(.int (0 : Int32))]))
      refine s_ifY S114 (hb hby at_303) (by decide) (by decide) (pcT := 454) (by decide) ?_
      refine s_iconst S114 (hb hby at_454) (v := (0 : Int32)) rfl (pc' := 455) rfl ?_
      exact K107 _ _ S114 _ (Or.inr ⟨rfl, fun q => hr113 q.1⟩)
  · skip
    show Go p e below _ (T0.setTop (mkF m 75 #[.val (.int len), .val (.long la), .second, .val (.long lb), .second, .val (.int (3 : Int32)), .val (.int c28), .val (.int c29), .val (.int c30), .val (.int c31), .val (.int c32), .val (.int c33), .unset, .unset, .unset, .unset] []))
    refine s_bipush S0 (hb hby at_75) (v := (6 : Int32)) rfl (pc' := 77) rfl ?_
    refine g_newarr (aty := .char) S0 (w2 hw) (hb hby at_77) (by decide) (cap := 6) (by decide) (by decide) (Nat.le_of_ble_eq_true rfl) (Nat.le_of_ble_eq_true rfl) ?_
    intro T131 h131 b131 kc131 S131 E131 fr131 lt131 na131 sf131 A131
    have V131 : Arv Z h131 b131 kc131 .char (6 : Int32) [(.int (0 : Int32)), (.int (0 : Int32)), (.int (0 : Int32)), (.int (0 : Int32)), (.int (0 : Int32)), (.int (0 : Int32))] (.int (0 : Int32)) := A131 6
    show Go p e below _ (T131.setTop (mkF m 79 #[.val (.int len), .val (.long la), .second, .val (.long lb), .second, .val (.int (3 : Int32)), .val (.int c28), .val (.int c29), .val (.int c30), .val (.int c31), .val (.int c32), .val (.int c33), .unset, .unset, .unset, .unset] [(.ref b131)]))
    refine s_astore S131 (hb hby at_79) rfl (L' := #[.val (.int len), .val (.long la), .second, .val (.long lb), .second, .val (.int (3 : Int32)), .val (.int c28), .val (.int c29), .val (.int c30), .val (.int c31), .val (.int c32), .val (.int c33), .val (.ref b131), .unset, .unset, .unset]) rfl (pc' := 81) rfl ?_
    refine s_aload S131 (hb hby at_81) rfl rfl (pc' := 83) rfl ?_
    refine s_iconst S131 (hb hby at_83) (v := (0 : Int32)) rfl (pc' := 84) rfl ?_
    refine s_iload S131 (hb hby at_84) rfl (pc' := 86) rfl ?_
    refine g_castore S131 V131 ⟨by decide, by decide⟩ 0 rfl (Nat.le_of_ble_eq_true rfl) na131 (hb hby at_86) ?_
    intro T132 h132 S132 K132 V132
    rw [narC8 rc28] at V132
    have V132 : Arv Z h132 b131 kc131 .char (6 : Int32) [(.int c28), (.int (0 : Int32)), (.int (0 : Int32)), (.int (0 : Int32)), (.int (0 : Int32)), (.int (0 : Int32))] (.int (0 : Int32)) := V132
    show Go p e below _ (T132.setTop (mkF m 87 #[.val (.int len), .val (.long la), .second, .val (.long lb), .second, .val (.int (3 : Int32)), .val (.int c28), .val (.int c29), .val (.int c30), .val (.int c31), .val (.int c32), .val (.int c33), .val (.ref b131), .unset, .unset, .unset] []))
    refine s_aload S132 (hb hby at_87) rfl rfl (pc' := 89) rfl ?_
    refine s_iconst S132 (hb hby at_89) (v := (1 : Int32)) rfl (pc' := 90) rfl ?_
    refine s_iload S132 (hb hby at_90) rfl (pc' := 92) rfl ?_
    refine g_castore S132 V132 ⟨by decide, by decide⟩ 1 rfl (Nat.le_of_ble_eq_true rfl) na131 (hb hby at_92) ?_
    intro T133 h133 S133 K133 V133
    rw [narC8 rc29] at V133
    have V133 : Arv Z h133 b131 kc131 .char (6 : Int32) [(.int c28), (.int c29), (.int (0 : Int32)), (.int (0 : Int32)), (.int (0 : Int32)), (.int (0 : Int32))] (.int (0 : Int32)) := V133
    show Go p e below _ (T133.setTop (mkF m 93 #[.val (.int len), .val (.long la), .second, .val (.long lb), .second, .val (.int (3 : Int32)), .val (.int c28), .val (.int c29), .val (.int c30), .val (.int c31), .val (.int c32), .val (.int c33), .val (.ref b131), .unset, .unset, .unset] []))
    refine s_aload S133 (hb hby at_93) rfl rfl (pc' := 95) rfl ?_
    refine s_iconst S133 (hb hby at_95) (v := (2 : Int32)) rfl (pc' := 96) rfl ?_
    refine s_iload S133 (hb hby at_96) rfl (pc' := 98) rfl ?_
    refine g_castore S133 V133 ⟨by decide, by decide⟩ 2 rfl (Nat.le_of_ble_eq_true rfl) na131 (hb hby at_98) ?_
    intro T134 h134 S134 K134 V134
    rw [narC8 rc30] at V134
    have V134 : Arv Z h134 b131 kc131 .char (6 : Int32) [(.int c28), (.int c29), (.int c30), (.int (0 : Int32)), (.int (0 : Int32)), (.int (0 : Int32))] (.int (0 : Int32)) := V134
    show Go p e below _ (T134.setTop (mkF m 99 #[.val (.int len), .val (.long la), .second, .val (.long lb), .second, .val (.int (3 : Int32)), .val (.int c28), .val (.int c29), .val (.int c30), .val (.int c31), .val (.int c32), .val (.int c33), .val (.ref b131), .unset, .unset, .unset] []))
    refine s_aload S134 (hb hby at_99) rfl rfl (pc' := 101) rfl ?_
    refine s_iconst S134 (hb hby at_101) (v := (3 : Int32)) rfl (pc' := 102) rfl ?_
    refine s_iload S134 (hb hby at_102) rfl (pc' := 104) rfl ?_
    refine g_castore S134 V134 ⟨by decide, by decide⟩ 3 rfl (Nat.le_of_ble_eq_true rfl) na131 (hb hby at_104) ?_
    intro T135 h135 S135 K135 V135
    rw [narC8 rc31] at V135
    have V135 : Arv Z h135 b131 kc131 .char (6 : Int32) [(.int c28), (.int c29), (.int c30), (.int c31), (.int (0 : Int32)), (.int (0 : Int32))] (.int (0 : Int32)) := V135
    show Go p e below _ (T135.setTop (mkF m 105 #[.val (.int len), .val (.long la), .second, .val (.long lb), .second, .val (.int (3 : Int32)), .val (.int c28), .val (.int c29), .val (.int c30), .val (.int c31), .val (.int c32), .val (.int c33), .val (.ref b131), .unset, .unset, .unset] []))
    refine s_aload S135 (hb hby at_105) rfl rfl (pc' := 107) rfl ?_
    refine s_iconst S135 (hb hby at_107) (v := (4 : Int32)) rfl (pc' := 108) rfl ?_
    refine s_iload S135 (hb hby at_108) rfl (pc' := 110) rfl ?_
    refine g_castore S135 V135 ⟨by decide, by decide⟩ 4 rfl (Nat.le_of_ble_eq_true rfl) na131 (hb hby at_110) ?_
    intro T136 h136 S136 K136 V136
    rw [narC8 rc32] at V136
    have V136 : Arv Z h136 b131 kc131 .char (6 : Int32) [(.int c28), (.int c29), (.int c30), (.int c31), (.int c32), (.int (0 : Int32))] (.int (0 : Int32)) := V136
    show Go p e below _ (T136.setTop (mkF m 111 #[.val (.int len), .val (.long la), .second, .val (.long lb), .second, .val (.int (3 : Int32)), .val (.int c28), .val (.int c29), .val (.int c30), .val (.int c31), .val (.int c32), .val (.int c33), .val (.ref b131), .unset, .unset, .unset] []))
    refine s_aload S136 (hb hby at_111) rfl rfl (pc' := 113) rfl ?_
    refine s_iconst S136 (hb hby at_113) (v := (5 : Int32)) rfl (pc' := 114) rfl ?_
    refine s_iload S136 (hb hby at_114) rfl (pc' := 116) rfl ?_
    refine g_castore S136 V136 ⟨by decide, by decide⟩ 5 rfl (Nat.le_of_ble_eq_true rfl) na131 (hb hby at_116) ?_
    intro T137 h137 S137 K137 V137
    rw [narC8 rc33] at V137
    have V137 : Arv Z h137 b131 kc131 .char (6 : Int32) [(.int c28), (.int c29), (.int c30), (.int c31), (.int c32), (.int c33)] (.int (0 : Int32)) := V137
    show Go p e below _ (T137.setTop (mkF m 117 #[.val (.int len), .val (.long la), .second, .val (.long lb), .second, .val (.int (3 : Int32)), .val (.int c28), .val (.int c29), .val (.int c30), .val (.int c31), .val (.int c32), .val (.int c33), .val (.ref b131), .unset, .unset, .unset] []))
    refine s_iload S137 (hb hby at_117) rfl (pc' := 119) rfl ?_
    refine s_ifY S137 (hb hby at_119) (by decide) (by decide) (pcT := 130) (by decide) ?_
    refine s_iload S137 (hb hby at_130) rfl (pc' := 132) rfl ?_
    refine s_iconst S137 (hb hby at_132) (v := (1 : Int32)) rfl (pc' := 133) rfl ?_
    refine s_icmpY S137 (hb hby at_133) (by decide) (by decide) (pcT := 144) (by decide) ?_
    refine s_iload S137 (hb hby at_144) rfl (pc' := 146) rfl ?_
    refine s_iconst S137 (hb hby at_146) (v := (2 : Int32)) rfl (pc' := 147) rfl ?_
    refine s_icmpY S137 (hb hby at_147) (by decide) (by decide) (pcT := 158) (by decide) ?_
    refine s_iload S137 (hb hby at_158) rfl (pc' := 160) rfl ?_
    refine s_iconst S137 (hb hby at_160) (v := (3 : Int32)) rfl (pc' := 161) rfl ?_
    refine s_icmpN S137 (hb hby at_161) (by decide) (pc' := 164) rfl ?_
    refine s_iconst S137 (hb hby at_164) (v := (3 : Int32)) rfl (pc' := 165) rfl ?_
    refine g_newarr (aty := .char) S137 (w2 hw) (hb hby at_165) (by decide) (cap := 3) (by decide) (by decide) (Nat.le_of_ble_eq_true rfl) (Nat.le_of_ble_eq_true rfl) ?_
    intro T138 h138 b138 kc138 S138 E138 fr138 lt138 na138 sf138 A138
    have V138 : Arv Z h138 b138 kc138 .char (3 : Int32) [(.int (0 : Int32)), (.int (0 : Int32)), (.int (0 : Int32))] (.int (0 : Int32)) := A138 3
    show Go p e below _ (T138.setTop (mkF m 167 #[.val (.int len), .val (.long la), .second, .val (.long lb), .second, .val (.int (3 : Int32)), .val (.int c28), .val (.int c29), .val (.int c30), .val (.int c31), .val (.int c32), .val (.int c33), .val (.ref b131), .unset, .unset, .unset] [(.ref b138)]))
    refine s_astore S138 (hb hby at_167) rfl (L' := #[.val (.int len), .val (.long la), .second, .val (.long lb), .second, .val (.int (3 : Int32)), .val (.int c28), .val (.int c29), .val (.int c30), .val (.int c31), .val (.int c32), .val (.int c33), .val (.ref b131), .val (.ref b138), .unset, .unset]) rfl (pc' := 169) rfl ?_
    refine s_goto S138 (hb hby at_169) (by decide) (pcT := 206) (by decide) ?_
    refine s_iload S138 (hb hby at_206) rfl (pc' := 208) rfl ?_
    refine s_ifN S138 (hb hby at_208) (by decide) (pc' := 211) rfl ?_
    refine s_aload S138 (hb hby at_211) rfl rfl (pc' := 213) rfl ?_
    refine s_iconst S138 (hb hby at_213) (v := (0 : Int32)) rfl (pc' := 214) rfl ?_
    refine s_iload S138 (hb hby at_214) rfl (pc' := 216) rfl ?_
    refine g_castore S138 V138 ⟨by decide, by decide⟩ 0 rfl (Nat.le_of_ble_eq_true rfl) na138 (hb hby at_216) ?_
    intro T139 h139 S139 K139 V139
    rw [narC8 rc28] at V139
    have V139 : Arv Z h139 b138 kc138 .char (3 : Int32) [(.int c28), (.int (0 : Int32)), (.int (0 : Int32))] (.int (0 : Int32)) := V139
    show Go p e below _ (T139.setTop (mkF m 217 #[.val (.int len), .val (.long la), .second, .val (.long lb), .second, .val (.int (3 : Int32)), .val (.int c28), .val (.int c29), .val (.int c30), .val (.int c31), .val (.int c32), .val (.int c33), .val (.ref b131), .val (.ref b138), .unset, .unset] []))
    refine s_iload S139 (hb hby at_217) rfl (pc' := 219) rfl ?_
    refine s_iconst S139 (hb hby at_219) (v := (1 : Int32)) rfl (pc' := 220) rfl ?_
    refine s_icmpN S139 (hb hby at_220) (by decide) (pc' := 223) rfl ?_
    refine s_aload S139 (hb hby at_223) rfl rfl (pc' := 225) rfl ?_
    refine s_iconst S139 (hb hby at_225) (v := (1 : Int32)) rfl (pc' := 226) rfl ?_
    refine s_iload S139 (hb hby at_226) rfl (pc' := 228) rfl ?_
    refine g_castore S139 V139 ⟨by decide, by decide⟩ 1 rfl (Nat.le_of_ble_eq_true rfl) na138 (hb hby at_228) ?_
    intro T140 h140 S140 K140 V140
    rw [narC8 rc29] at V140
    have V140 : Arv Z h140 b138 kc138 .char (3 : Int32) [(.int c28), (.int c29), (.int (0 : Int32))] (.int (0 : Int32)) := V140
    show Go p e below _ (T140.setTop (mkF m 229 #[.val (.int len), .val (.long la), .second, .val (.long lb), .second, .val (.int (3 : Int32)), .val (.int c28), .val (.int c29), .val (.int c30), .val (.int c31), .val (.int c32), .val (.int c33), .val (.ref b131), .val (.ref b138), .unset, .unset] []))
    refine s_iload S140 (hb hby at_229) rfl (pc' := 231) rfl ?_
    refine s_iconst S140 (hb hby at_231) (v := (2 : Int32)) rfl (pc' := 232) rfl ?_
    refine s_icmpN S140 (hb hby at_232) (by decide) (pc' := 235) rfl ?_
    refine s_aload S140 (hb hby at_235) rfl rfl (pc' := 237) rfl ?_
    refine s_iconst S140 (hb hby at_237) (v := (2 : Int32)) rfl (pc' := 238) rfl ?_
    refine s_iload S140 (hb hby at_238) rfl (pc' := 240) rfl ?_
    refine g_castore S140 V140 ⟨by decide, by decide⟩ 2 rfl (Nat.le_of_ble_eq_true rfl) na138 (hb hby at_240) ?_
    intro T141 h141 S141 K141 V141
    rw [narC8 rc30] at V141
    have V141 : Arv Z h141 b138 kc138 .char (3 : Int32) [(.int c28), (.int c29), (.int c30)] (.int (0 : Int32)) := V141
    show Go p e below _ (T141.setTop (mkF m 241 #[.val (.int len), .val (.long la), .second, .val (.long lb), .second, .val (.int (3 : Int32)), .val (.int c28), .val (.int c29), .val (.int c30), .val (.int c31), .val (.int c32), .val (.int c33), .val (.ref b131), .val (.ref b138), .unset, .unset] []))
    refine s_iload S141 (hb hby at_241) rfl (pc' := 243) rfl ?_
    refine s_iconst S141 (hb hby at_243) (v := (3 : Int32)) rfl (pc' := 244) rfl ?_
    refine s_icmpY S141 (hb hby at_244) (by decide) (by decide) (pcT := 253) (by decide) ?_
    refine s_iload S141 (hb hby at_253) rfl (pc' := 255) rfl ?_
    refine s_iconst S141 (hb hby at_255) (v := (4 : Int32)) rfl (pc' := 256) rfl ?_
    refine s_icmpY S141 (hb hby at_256) (by decide) (by decide) (pcT := 265) (by decide) ?_
    refine s_iload S141 (hb hby at_265) rfl (pc' := 267) rfl ?_
    refine s_iconst S141 (hb hby at_267) (v := (5 : Int32)) rfl (pc' := 268) rfl ?_
    refine s_icmpY S141 (hb hby at_268) (by decide) (by decide) (pcT := 277) (by decide) ?_
    refine g_new S141 (w3 hw) (w4 hw) (w5 hw) (hb hby at_277) (Nat.le_of_ble_eq_true rfl) (Nat.le_of_ble_eq_true rfl) ?_
    intro T142 h142 b142 S142 E142 fr142 lt142 na142 sf142 A142 D142
    have F143 : Fld Z h142 b142 "java/lang/String" "value" "[B" .null := D142 (Or.inr (w18 hw)) (ty := (.array .byte)) (by decide)
    have F144 : Fld Z h142 b142 "java/lang/String" "coder" "B" (.int (0 : Int32)) := D142 (Or.inr (w19 hw)) (ty := .byte) (by decide)
    show Go p e below _ (T142.setTop (mkF m 280 #[.val (.int len), .val (.long la), .second, .val (.long lb), .second, .val (.int (3 : Int32)), .val (.int c28), .val (.int c29), .val (.int c30), .val (.int c31), .val (.int c32), .val (.int c33), .val (.ref b131), .val (.ref b138), .unset, .unset] [(.ref b142)]))
    refine s_dup S142 (hb hby at_280) rfl (pc' := 281) rfl ?_
    refine s_aload S142 (hb hby at_281) rfl rfl (pc' := 283) rfl ?_
    show Go p e below _ (T142.setTop (mkF m 283 #[.val (.int len), .val (.long la), .second, .val (.long lb), .second, .val (.int (3 : Int32)), .val (.int c28), .val (.int c29), .val (.int c30), .val (.int c31), .val (.int c32), .val (.int c33), .val (.ref b131), .val (.ref b138), .unset, .unset] [(.ref b138), (.ref b142), (.ref b142)]))
    have V146 := V141.ext E142
    refine g_newStr S142 X (cs := [c28, c29, c30]) (Nat.le_of_ble_eq_true rfl) (Nat.le_of_ble_eq_true rfl) rfl na142 sf142 A142 F143 F144 V146 (faS rc28 (faS rc29 (faS rc30 fa0))) (w6 hw) (hb hby at_283) (by rw [hml]; rfl) (Nat.le_of_ble_eq_true rfl) (Nat.le_of_ble_eq_true rfl) (Nat.le_of_ble_eq_true rfl) (Nat.le_of_ble_eq_true rfl) ?_
    intro T145 h145 S145 K145 F145
    show Go p e below _ (T145.setTop (mkF m 286 #[.val (.int len), .val (.long la), .second, .val (.long lb), .second, .val (.int (3 : Int32)), .val (.int c28), .val (.int c29), .val (.int c30), .val (.int c31), .val (.int c32), .val (.int c33), .val (.ref b131), .val (.ref b138), .unset, .unset] [(.ref b142)]))
    show Go p e below _ (T145.setTop (mkF m 286 #[.val (.int len), .val (.long la), .second, .val (.long lb), .second, .val (.int (3 : Int32)), .val (.int c28), .val (.int c29), .val (.int c30), .val (.int c31), .val (.int c32), .val (.int c33), .val (.ref b131), .val (.ref b138), .unset, .unset] [(.ref b142)]))
    refine g_static S145 (rmIM X S145.old F145 (faS rc28.2 (faS rc29.2 (faS rc30.2 fa0)))) (fun _ q => nomatch q) (w24 hw) (w25 hw) (w26 hw) (w27 hw) (by decide) (hb hby at_286) (by rw [hml]; rfl) [(.ref b142)] (lenOf pd3 rfl) rfl rfl (Nat.le_of_ble_eq_true rfl) (Nat.le_of_ble_eq_true rfl) (Nat.le_of_ble_eq_true rfl) (Nat.le_of_ble_eq_true rfl) ?_
    intro v147 T147 V147 h147 S147 C147 q147
    obtain ⟨rfl, rfl⟩ := q147
    show Go p e below _ (T147.setTop (mkF m 289 #[.val (.int len), .val (.long la), .second, .val (.long lb), .second, .val (.int (3 : Int32)), .val (.int c28), .val (.int c29), .val (.int c30), .val (.int c31), .val (.int c32), .val (.int c33), .val (.ref b131), .val (.ref b138), .unset, .unset] [(.int (if imF false [c28, c29, c30] = true then (1 : Int32) else (0 : Int32)))]))
    generalize egot148 : (if imF false [c28, c29, c30] = true then (1 : Int32) else (0 : Int32)) = got148
    refine s_istore S147 (hb hby at_289) (L' := #[.val (.int len), .val (.long la), .second, .val (.long lb), .second, .val (.int (3 : Int32)), .val (.int c28), .val (.int c29), .val (.int c30), .val (.int c31), .val (.int c32), .val (.int c33), .val (.ref b131), .val (.ref b138), .val (.int got148), .unset]) rfl (pc' := 291) rfl ?_
    have X150 : Ext h137 h139 := ext_keep1 E138 K139 fr138
    have X151 : Ext h137 h140 := ext_keep1 X150 K140 fr138
    have X152 : Ext h137 h141 := ext_keep1 X151 K141 fr138
    have X153 : Ext h137 h142 := ext_trans X152 E142
    have X154 : Ext h137 h147 := ext_keep1 X153 K145 (Nat.le_trans X152.1 fr142)
    have V155 := V137.ext X154
    show Go p e below _ (T147.setTop (mkF m 291 #[.val (.int len), .val (.long la), .second, .val (.long lb), .second, .val (.int (3 : Int32)), .val (.int c28), .val (.int c29), .val (.int c30), .val (.int c31), .val (.int c32), .val (.int c33), .val (.ref b131), .val (.ref b138), .val (.int got148), .unset] []))
    have K149 : ∀ (T8 : State) (V8 : Vm), St p l e room_1 s m #[(.int len), (.long la), (.long lb)] below meth c Z a0 EL1 n0 "com/example/remora/remora/MethodsIsMethodNamePinLaw" T8 V8 h147 4 16 → ∀ wx : Int32, ((wx = 1 ∧ own_W3 c28 c29 c30) ∨ (wx = 0 ∧ ¬ own_W3 c28 c29 c30)) → Go p e below (Fini Z EL1 n0 s room_1 (fun v h' => v = some (.int 1) ∧ True)) (T8.setTop (mkF m 455 #[.val (.int len), .val (.long la), .second, .val (.long lb), .second, .val (.int (3 : Int32)), .val (.int c28), .val (.int c29), .val (.int c30), .val (.int c31), .val (.int c32), .val (.int c33), .val (.ref b131), .val (.ref b138), .val (.int got148), .unset] [(.int wx)])) := by
      intro T8 V8 S8 wx hwx
      obtain rfl : wx = got148 := by
        rw [← egot148]
        exact own_if (own_eq3 c28 c29 c30) hwx
      show Go p e below _ (T8.setTop (mkF m 455 #[.val (.int len), .val (.long la), .second, .val (.long lb), .second, .val (.int (3 : Int32)), .val (.int c28), .val (.int c29), .val (.int c30), .val (.int c31), .val (.int c32), .val (.int c33), .val (.ref b131), .val (.ref b138), .val (.int wx), .unset] [(.int wx)]))
      refine s_istore S8 (hb hby at_455) (L' := #[.val (.int len), .val (.long la), .second, .val (.long lb), .second, .val (.int (3 : Int32)), .val (.int c28), .val (.int c29), .val (.int c30), .val (.int c31), .val (.int c32), .val (.int c33), .val (.ref b131), .val (.ref b138), .val (.int wx), .val (.int wx)]) rfl (pc' := 457) rfl ?_
      refine s_iload S8 (hb hby at_457) rfl (pc' := 459) rfl ?_
      refine s_iload S8 (hb hby at_459) rfl (pc' := 461) rfl ?_
      refine s_icmpN S8 (hb hby at_461) (by simp [if_icmp.holds]) (pc' := 464) rfl ?_
      refine s_iconst S8 (hb hby at_464) (v := (1 : Int32)) rfl (pc' := 465) rfl ?_
      refine s_goto S8 (hb hby at_465) (by decide) (pcT := 469) (by decide) ?_
      exact g_iretN S8 (hb hby at_469) hret (by simp) ⟨rfl, trivial⟩
    refine s_iload S147 (hb hby at_291) rfl (pc' := 293) rfl ?_
    refine s_ifN S147 (hb hby at_293) (by decide) (pc' := 296) rfl ?_
    refine s_aload S147 (hb hby at_296) rfl rfl (pc' := 298) rfl ?_
    refine s_iconst S147 (hb hby at_298) (v := (0 : Int32)) rfl (pc' := 299) rfl ?_
    show Go p e below _ (T147.setTop (mkF m 299 #[.val (.int len), .val (.long la), .second, .val (.long lb), .second, .val (.int (3 : Int32)), .val (.int c28), .val (.int c29), .val (.int c30), .val (.int c31), .val (.int c32), .val (.int c33), .val (.ref b131), .val (.ref b138), .val (.int got148), .unset] [(.int (0 : Int32)), (.ref b131)]))
    refine g_caload S147 V155 ⟨by decide, by decide⟩ (x := c28) rfl (hb hby at_299) ?_
    show Go p e below _ (T147.setTop (mkF m 300 #[.val (.int len), .val (.long la), .second, .val (.long lb), .second, .val (.int (3 : Int32)), .val (.int c28), .val (.int c29), .val (.int c30), .val (.int c31), .val (.int c32), .val (.int c33), .val (.ref b131), .val (.ref b138), .val (.int got148), .unset] [(.int c28)]))
    show Go p e below _ (T147.setTop (mkF m 300 #[.val (.int len), .val (.long la), .second, .val (.long lb), .second, .val (.int (3 : Int32)), .val (.int c28), .val (.int c29), .val (.int c30), .val (.int c31), .val (.int c32), .val (.int c33), .val (.ref b131), .val (.ref b138), .val (.int got148), .unset] [(.int c28)]))
    refine g_static S147 (rmIL X c28 S147.old) (fun _ q => nomatch q) (w71 hw) (w72 hw) (w73 hw) (w74 hw) (by decide) (hb hby at_300) (by rw [hml]; rfl) [(.int c28)] (lenOf pd1 rfl) rfl rfl (Nat.le_of_ble_eq_true rfl) (Nat.le_of_ble_eq_true rfl) (Nat.le_of_ble_eq_true rfl) (Nat.le_of_ble_eq_true rfl) ?_
    intro v157 T157 V157 h157 S157 C157 q157
    obtain ⟨r156, rfl, hr156, rfl⟩ := q157
    rcases hr156 with ⟨rfl, hr156⟩ | ⟨rfl, hr156⟩
    · skip
      show Go p e below _ (T157.setTop (mkF m 303 #[.val (.int len), .val (.long la), .second, .val (.long lb), .second, .val (.int (3 : Int32)), .val (.int c28), .val (.int c29), .val (.int c30), .val (.int c31), .val (.int c32), .val (.int c33), .val (.ref b131), .val (.ref b138), .val (.int got148), .unset] [(.int (1 : Int32))]))
      refine s_ifN S157 (hb hby at_303) (by decide) (pc' := 306) rfl ?_
      refine s_aload S157 (hb hby at_306) rfl rfl (pc' := 308) rfl ?_
      refine s_iload S157 (hb hby at_308) rfl (pc' := 310) rfl ?_
      refine s_iconst S157 (hb hby at_310) (v := (1 : Int32)) rfl (pc' := 311) rfl ?_
      refine s_isub S157 (hb hby at_311) (z := (2 : Int32)) rfl (pc' := 312) rfl ?_
      show Go p e below _ (T157.setTop (mkF m 312 #[.val (.int len), .val (.long la), .second, .val (.long lb), .second, .val (.int (3 : Int32)), .val (.int c28), .val (.int c29), .val (.int c30), .val (.int c31), .val (.int c32), .val (.int c33), .val (.ref b131), .val (.ref b138), .val (.int got148), .unset] [(.int (2 : Int32)), (.ref b131)]))
      refine g_caload S157 V155 ⟨by decide, by decide⟩ (x := c30) rfl (hb hby at_312) ?_
      show Go p e below _ (T157.setTop (mkF m 313 #[.val (.int len), .val (.long la), .second, .val (.long lb), .second, .val (.int (3 : Int32)), .val (.int c28), .val (.int c29), .val (.int c30), .val (.int c31), .val (.int c32), .val (.int c33), .val (.ref b131), .val (.ref b138), .val (.int got148), .unset] [(.int c30)]))
      show Go p e below _ (T157.setTop (mkF m 313 #[.val (.int len), .val (.long la), .second, .val (.long lb), .second, .val (.int (3 : Int32)), .val (.int c28), .val (.int c29), .val (.int c30), .val (.int c31), .val (.int c32), .val (.int c33), .val (.ref b131), .val (.ref b138), .val (.int got148), .unset] [(.int c30)]))
      refine g_static S157 (rmIL X c30 S157.old) (fun _ q => nomatch q) (w71 hw) (w72 hw) (w73 hw) (w74 hw) (by decide) (hb hby at_313) (by rw [hml]; rfl) [(.int c30)] (lenOf pd1 rfl) rfl rfl (Nat.le_of_ble_eq_true rfl) (Nat.le_of_ble_eq_true rfl) (Nat.le_of_ble_eq_true rfl) (Nat.le_of_ble_eq_true rfl) ?_
      intro v159 T159 V159 h159 S159 C159 q159
      obtain ⟨r158, rfl, hr158, rfl⟩ := q159
      rcases hr158 with ⟨rfl, hr158⟩ | ⟨rfl, hr158⟩
      · skip
        show Go p e below _ (T159.setTop (mkF m 316 #[.val (.int len), .val (.long la), .second, .val (.long lb), .second, .val (.int (3 : Int32)), .val (.int c28), .val (.int c29), .val (.int c30), .val (.int c31), .val (.int c32), .val (.int c33), .val (.ref b131), .val (.ref b138), .val (.int got148), .unset] [(.int (1 : Int32))]))
        refine s_ifN S159 (hb hby at_316) (by decide) (pc' := 319) rfl ?_
        refine s_iconst S159 (hb hby at_319) (v := (0 : Int32)) rfl (pc' := 320) rfl ?_
        refine s_iload S159 (hb hby at_320) rfl (pc' := 322) rfl ?_
        refine s_iload S159 (hb hby at_322) rfl (pc' := 324) rfl ?_
        show Go p e below _ (T159.setTop (mkF m 324 #[.val (.int len), .val (.long la), .second, .val (.long lb), .second, .val (.int (3 : Int32)), .val (.int c28), .val (.int c29), .val (.int c30), .val (.int c31), .val (.int c32), .val (.int c33), .val (.ref b131), .val (.ref b138), .val (.int got148), .unset] [(.int c28), (.int (3 : Int32)), (.int (0 : Int32))]))
        refine g_static S159 (rmFI X c28 S159.old (by decide)) (fun _ q => nomatch q) (w75 hw) (w76 hw) (w73 hw) (w77 hw) (by decide) (hb hby at_324) (by rw [hml]; rfl) [(.int (0 : Int32)), (.int (3 : Int32)), (.int c28)] (lenOf pd4 rfl) rfl rfl (Nat.le_of_ble_eq_true rfl) (Nat.le_of_ble_eq_true rfl) (Nat.le_of_ble_eq_true rfl) (Nat.le_of_ble_eq_true rfl) ?_
        intro v161 T161 V161 h161 S161 C161 q161
        obtain ⟨r160, rfl, hr160, rfl⟩ := q161
        rcases hr160 with ⟨rfl, hr160⟩ | ⟨rfl, hr160⟩
        · skip
          show Go p e below _ (T161.setTop (mkF m 327 #[.val (.int len), .val (.long la), .second, .val (.long lb), .second, .val (.int (3 : Int32)), .val (.int c28), .val (.int c29), .val (.int c30), .val (.int c31), .val (.int c32), .val (.int c33), .val (.ref b131), .val (.ref b138), .val (.int got148), .unset] [(.int (1 : Int32))]))
          refine s_ifN S161 (hb hby at_327) (by decide) (pc' := 330) rfl ?_
          refine s_iconst S161 (hb hby at_330) (v := (1 : Int32)) rfl (pc' := 331) rfl ?_
          refine s_iload S161 (hb hby at_331) rfl (pc' := 333) rfl ?_
          refine s_iload S161 (hb hby at_333) rfl (pc' := 335) rfl ?_
          show Go p e below _ (T161.setTop (mkF m 335 #[.val (.int len), .val (.long la), .second, .val (.long lb), .second, .val (.int (3 : Int32)), .val (.int c28), .val (.int c29), .val (.int c30), .val (.int c31), .val (.int c32), .val (.int c33), .val (.ref b131), .val (.ref b138), .val (.int got148), .unset] [(.int c29), (.int (3 : Int32)), (.int (1 : Int32))]))
          refine g_static S161 (rmFI X c29 S161.old (by decide)) (fun _ q => nomatch q) (w75 hw) (w76 hw) (w73 hw) (w77 hw) (by decide) (hb hby at_335) (by rw [hml]; rfl) [(.int (1 : Int32)), (.int (3 : Int32)), (.int c29)] (lenOf pd4 rfl) rfl rfl (Nat.le_of_ble_eq_true rfl) (Nat.le_of_ble_eq_true rfl) (Nat.le_of_ble_eq_true rfl) (Nat.le_of_ble_eq_true rfl) ?_
          intro v163 T163 V163 h163 S163 C163 q163
          obtain ⟨r162, rfl, hr162, rfl⟩ := q163
          rcases hr162 with ⟨rfl, hr162⟩ | ⟨rfl, hr162⟩
          · skip
            show Go p e below _ (T163.setTop (mkF m 338 #[.val (.int len), .val (.long la), .second, .val (.long lb), .second, .val (.int (3 : Int32)), .val (.int c28), .val (.int c29), .val (.int c30), .val (.int c31), .val (.int c32), .val (.int c33), .val (.ref b131), .val (.ref b138), .val (.int got148), .unset] [(.int (1 : Int32))]))
            refine s_ifN S163 (hb hby at_338) (by decide) (pc' := 341) rfl ?_
            refine s_iconst S163 (hb hby at_341) (v := (2 : Int32)) rfl (pc' := 342) rfl ?_
            refine s_iload S163 (hb hby at_342) rfl (pc' := 344) rfl ?_
            refine s_iload S163 (hb hby at_344) rfl (pc' := 346) rfl ?_
            show Go p e below _ (T163.setTop (mkF m 346 #[.val (.int len), .val (.long la), .second, .val (.long lb), .second, .val (.int (3 : Int32)), .val (.int c28), .val (.int c29), .val (.int c30), .val (.int c31), .val (.int c32), .val (.int c33), .val (.ref b131), .val (.ref b138), .val (.int got148), .unset] [(.int c30), (.int (3 : Int32)), (.int (2 : Int32))]))
            refine g_static S163 (rmFI X c30 S163.old (by decide)) (fun _ q => nomatch q) (w75 hw) (w76 hw) (w73 hw) (w77 hw) (by decide) (hb hby at_346) (by rw [hml]; rfl) [(.int (2 : Int32)), (.int (3 : Int32)), (.int c30)] (lenOf pd4 rfl) rfl rfl (Nat.le_of_ble_eq_true rfl) (Nat.le_of_ble_eq_true rfl) (Nat.le_of_ble_eq_true rfl) (Nat.le_of_ble_eq_true rfl) ?_
            intro v165 T165 V165 h165 S165 C165 q165
            obtain ⟨r164, rfl, hr164, rfl⟩ := q165
            rcases hr164 with ⟨rfl, hr164⟩ | ⟨rfl, hr164⟩
            · skip
              show Go p e below _ (T165.setTop (mkF m 349 #[.val (.int len), .val (.long la), .second, .val (.long lb), .second, .val (.int (3 : Int32)), .val (.int c28), .val (.int c29), .val (.int c30), .val (.int c31), .val (.int c32), .val (.int c33), .val (.ref b131), .val (.ref b138), .val (.int got148), .unset] [(.int (1 : Int32))]))
              refine s_ifN S165 (hb hby at_349) (by decide) (pc' := 352) rfl ?_
              refine s_iconst S165 (hb hby at_352) (v := (3 : Int32)) rfl (pc' := 353) rfl ?_
              refine s_iload S165 (hb hby at_353) rfl (pc' := 355) rfl ?_
              refine s_iload S165 (hb hby at_355) rfl (pc' := 357) rfl ?_
              show Go p e below _ (T165.setTop (mkF m 357 #[.val (.int len), .val (.long la), .second, .val (.long lb), .second, .val (.int (3 : Int32)), .val (.int c28), .val (.int c29), .val (.int c30), .val (.int c31), .val (.int c32), .val (.int c33), .val (.ref b131), .val (.ref b138), .val (.int got148), .unset] [(.int c31), (.int (3 : Int32)), (.int (3 : Int32))]))
              refine g_static S165 (rmFO X c31 S165.old (by decide)) (fun _ q => nomatch q) (w75 hw) (w76 hw) (w73 hw) (w77 hw) (by decide) (hb hby at_357) (by rw [hml]; rfl) [(.int (3 : Int32)), (.int (3 : Int32)), (.int c31)] (lenOf pd4 rfl) rfl rfl (Nat.le_of_ble_eq_true rfl) (Nat.le_of_ble_eq_true rfl) (Nat.le_of_ble_eq_true rfl) (Nat.le_of_ble_eq_true rfl) ?_
              intro v166 T166 V166 h166 S166 C166 q166
              obtain ⟨rfl, rfl⟩ := q166
              show Go p e below _ (T166.setTop (mkF m 360 #[.val (.int len), .val (.long la), .second, .val (.long lb), .second, .val (.int (3 : Int32)), .val (.int c28), .val (.int c29), .val (.int c30), .val (.int c31), .val (.int c32), .val (.int c33), .val (.ref b131), .val (.ref b138), .val (.int got148), .unset] [(.int (1 : Int32))]))
              refine s_ifN S166 (hb hby at_360) (by decide) (pc' := 363) rfl ?_
              refine s_iconst S166 (hb hby at_363) (v := (4 : Int32)) rfl (pc' := 364) rfl ?_
              refine s_iload S166 (hb hby at_364) rfl (pc' := 366) rfl ?_
              refine s_iload S166 (hb hby at_366) rfl (pc' := 368) rfl ?_
              show Go p e below _ (T166.setTop (mkF m 368 #[.val (.int len), .val (.long la), .second, .val (.long lb), .second, .val (.int (3 : Int32)), .val (.int c28), .val (.int c29), .val (.int c30), .val (.int c31), .val (.int c32), .val (.int c33), .val (.ref b131), .val (.ref b138), .val (.int got148), .unset] [(.int c32), (.int (3 : Int32)), (.int (4 : Int32))]))
              refine g_static S166 (rmFO X c32 S166.old (by decide)) (fun _ q => nomatch q) (w75 hw) (w76 hw) (w73 hw) (w77 hw) (by decide) (hb hby at_368) (by rw [hml]; rfl) [(.int (4 : Int32)), (.int (3 : Int32)), (.int c32)] (lenOf pd4 rfl) rfl rfl (Nat.le_of_ble_eq_true rfl) (Nat.le_of_ble_eq_true rfl) (Nat.le_of_ble_eq_true rfl) (Nat.le_of_ble_eq_true rfl) ?_
              intro v167 T167 V167 h167 S167 C167 q167
              obtain ⟨rfl, rfl⟩ := q167
              show Go p e below _ (T167.setTop (mkF m 371 #[.val (.int len), .val (.long la), .second, .val (.long lb), .second, .val (.int (3 : Int32)), .val (.int c28), .val (.int c29), .val (.int c30), .val (.int c31), .val (.int c32), .val (.int c33), .val (.ref b131), .val (.ref b138), .val (.int got148), .unset] [(.int (1 : Int32))]))
              refine s_ifN S167 (hb hby at_371) (by decide) (pc' := 374) rfl ?_
              refine s_iconst S167 (hb hby at_374) (v := (5 : Int32)) rfl (pc' := 375) rfl ?_
              refine s_iload S167 (hb hby at_375) rfl (pc' := 377) rfl ?_
              refine s_iload S167 (hb hby at_377) rfl (pc' := 379) rfl ?_
              show Go p e below _ (T167.setTop (mkF m 379 #[.val (.int len), .val (.long la), .second, .val (.long lb), .second, .val (.int (3 : Int32)), .val (.int c28), .val (.int c29), .val (.int c30), .val (.int c31), .val (.int c32), .val (.int c33), .val (.ref b131), .val (.ref b138), .val (.int got148), .unset] [(.int c33), (.int (3 : Int32)), (.int (5 : Int32))]))
              refine g_static S167 (rmFO X c33 S167.old (by decide)) (fun _ q => nomatch q) (w75 hw) (w76 hw) (w73 hw) (w77 hw) (by decide) (hb hby at_379) (by rw [hml]; rfl) [(.int (5 : Int32)), (.int (3 : Int32)), (.int c33)] (lenOf pd4 rfl) rfl rfl (Nat.le_of_ble_eq_true rfl) (Nat.le_of_ble_eq_true rfl) (Nat.le_of_ble_eq_true rfl) (Nat.le_of_ble_eq_true rfl) ?_
              intro v168 T168 V168 h168 S168 C168 q168
              obtain ⟨rfl, rfl⟩ := q168
              show Go p e below _ (T168.setTop (mkF m 382 #[.val (.int len), .val (.long la), .second, .val (.long lb), .second, .val (.int (3 : Int32)), .val (.int c28), .val (.int c29), .val (.int c30), .val (.int c31), .val (.int c32), .val (.int c33), .val (.ref b131), .val (.ref b138), .val (.int got148), .unset] [(.int (1 : Int32))]))
              refine s_ifN S168 (hb hby at_382) (by decide) (pc' := 385) rfl ?_
              refine s_iconst S168 (hb hby at_385) (v := (1 : Int32)) rfl (pc' := 386) rfl ?_
              refine s_iload S168 (hb hby at_386) rfl (pc' := 388) rfl ?_
              refine s_iload S168 (hb hby at_388) rfl (pc' := 390) rfl ?_
              refine s_iload S168 (hb hby at_390) rfl (pc' := 392) rfl ?_
              show Go p e below _ (T168.setTop (mkF m 392 #[.val (.int len), .val (.long la), .second, .val (.long lb), .second, .val (.int (3 : Int32)), .val (.int c28), .val (.int c29), .val (.int c30), .val (.int c31), .val (.int c32), .val (.int c33), .val (.ref b131), .val (.ref b138), .val (.int got148), .unset] [(.int c29), (.int c28), (.int (3 : Int32)), (.int (1 : Int32))]))
              refine g_static S168 (rmNP X c28 c29 S168.old (by decide)) (fun _ q => nomatch q) (w78 hw) (w79 hw) (w73 hw) (w80 hw) (by decide) (hb hby at_392) (by rw [hml]; rfl) [(.int (1 : Int32)), (.int (3 : Int32)), (.int c28), (.int c29)] (lenOf pd5 rfl) rfl rfl (Nat.le_of_ble_eq_true rfl) (Nat.le_of_ble_eq_true rfl) (Nat.le_of_ble_eq_true rfl) (Nat.le_of_ble_eq_true rfl) ?_
              intro v170 T170 V170 h170 S170 C170 q170
              obtain ⟨r169, rfl, hr169, rfl⟩ := q170
              rcases hr169 with ⟨rfl, hr169⟩ | ⟨rfl, hr169⟩
              · skip
                show Go p e below _ (T170.setTop (mkF m 395 #[.val (.int len), .val (.long la), .second, .val (.long lb), .second, .val (.int (3 : Int32)), .val (.int c28), .val (.int c29), .val (.int c30), .val (.int c31), .val (.int c32), .val (.int c33), .val (.ref b131), .val (.ref b138), .val (.int got148), .unset] [(.int (1 : Int32))]))
                refine s_ifN S170 (hb hby at_395) (by decide) (pc' := 398) rfl ?_
                refine s_iconst S170 (hb hby at_398) (v := (2 : Int32)) rfl (pc' := 399) rfl ?_
                refine s_iload S170 (hb hby at_399) rfl (pc' := 401) rfl ?_
                refine s_iload S170 (hb hby at_401) rfl (pc' := 403) rfl ?_
                refine s_iload S170 (hb hby at_403) rfl (pc' := 405) rfl ?_
                show Go p e below _ (T170.setTop (mkF m 405 #[.val (.int len), .val (.long la), .second, .val (.long lb), .second, .val (.int (3 : Int32)), .val (.int c28), .val (.int c29), .val (.int c30), .val (.int c31), .val (.int c32), .val (.int c33), .val (.ref b131), .val (.ref b138), .val (.int got148), .unset] [(.int c30), (.int c29), (.int (3 : Int32)), (.int (2 : Int32))]))
                refine g_static S170 (rmNP X c29 c30 S170.old (by decide)) (fun _ q => nomatch q) (w78 hw) (w79 hw) (w73 hw) (w80 hw) (by decide) (hb hby at_405) (by rw [hml]; rfl) [(.int (2 : Int32)), (.int (3 : Int32)), (.int c29), (.int c30)] (lenOf pd5 rfl) rfl rfl (Nat.le_of_ble_eq_true rfl) (Nat.le_of_ble_eq_true rfl) (Nat.le_of_ble_eq_true rfl) (Nat.le_of_ble_eq_true rfl) ?_
                intro v172 T172 V172 h172 S172 C172 q172
                obtain ⟨r171, rfl, hr171, rfl⟩ := q172
                rcases hr171 with ⟨rfl, hr171⟩ | ⟨rfl, hr171⟩
                · skip
                  show Go p e below _ (T172.setTop (mkF m 408 #[.val (.int len), .val (.long la), .second, .val (.long lb), .second, .val (.int (3 : Int32)), .val (.int c28), .val (.int c29), .val (.int c30), .val (.int c31), .val (.int c32), .val (.int c33), .val (.ref b131), .val (.ref b138), .val (.int got148), .unset] [(.int (1 : Int32))]))
                  refine s_ifN S172 (hb hby at_408) (by decide) (pc' := 411) rfl ?_
                  refine s_iconst S172 (hb hby at_411) (v := (3 : Int32)) rfl (pc' := 412) rfl ?_
                  refine s_iload S172 (hb hby at_412) rfl (pc' := 414) rfl ?_
                  refine s_iload S172 (hb hby at_414) rfl (pc' := 416) rfl ?_
                  refine s_iload S172 (hb hby at_416) rfl (pc' := 418) rfl ?_
                  show Go p e below _ (T172.setTop (mkF m 418 #[.val (.int len), .val (.long la), .second, .val (.long lb), .second, .val (.int (3 : Int32)), .val (.int c28), .val (.int c29), .val (.int c30), .val (.int c31), .val (.int c32), .val (.int c33), .val (.ref b131), .val (.ref b138), .val (.int got148), .unset] [(.int c31), (.int c30), (.int (3 : Int32)), (.int (3 : Int32))]))
                  refine g_static S172 (rmNO X c30 c31 S172.old (by decide)) (fun _ q => nomatch q) (w78 hw) (w79 hw) (w73 hw) (w80 hw) (by decide) (hb hby at_418) (by rw [hml]; rfl) [(.int (3 : Int32)), (.int (3 : Int32)), (.int c30), (.int c31)] (lenOf pd5 rfl) rfl rfl (Nat.le_of_ble_eq_true rfl) (Nat.le_of_ble_eq_true rfl) (Nat.le_of_ble_eq_true rfl) (Nat.le_of_ble_eq_true rfl) ?_
                  intro v173 T173 V173 h173 S173 C173 q173
                  obtain ⟨rfl, rfl⟩ := q173
                  show Go p e below _ (T173.setTop (mkF m 421 #[.val (.int len), .val (.long la), .second, .val (.long lb), .second, .val (.int (3 : Int32)), .val (.int c28), .val (.int c29), .val (.int c30), .val (.int c31), .val (.int c32), .val (.int c33), .val (.ref b131), .val (.ref b138), .val (.int got148), .unset] [(.int (1 : Int32))]))
                  refine s_ifN S173 (hb hby at_421) (by decide) (pc' := 424) rfl ?_
                  refine s_iconst S173 (hb hby at_424) (v := (4 : Int32)) rfl (pc' := 425) rfl ?_
                  refine s_iload S173 (hb hby at_425) rfl (pc' := 427) rfl ?_
                  refine s_iload S173 (hb hby at_427) rfl (pc' := 429) rfl ?_
                  refine s_iload S173 (hb hby at_429) rfl (pc' := 431) rfl ?_
                  show Go p e below _ (T173.setTop (mkF m 431 #[.val (.int len), .val (.long la), .second, .val (.long lb), .second, .val (.int (3 : Int32)), .val (.int c28), .val (.int c29), .val (.int c30), .val (.int c31), .val (.int c32), .val (.int c33), .val (.ref b131), .val (.ref b138), .val (.int got148), .unset] [(.int c32), (.int c31), (.int (3 : Int32)), (.int (4 : Int32))]))
                  refine g_static S173 (rmNO X c31 c32 S173.old (by decide)) (fun _ q => nomatch q) (w78 hw) (w79 hw) (w73 hw) (w80 hw) (by decide) (hb hby at_431) (by rw [hml]; rfl) [(.int (4 : Int32)), (.int (3 : Int32)), (.int c31), (.int c32)] (lenOf pd5 rfl) rfl rfl (Nat.le_of_ble_eq_true rfl) (Nat.le_of_ble_eq_true rfl) (Nat.le_of_ble_eq_true rfl) (Nat.le_of_ble_eq_true rfl) ?_
                  intro v174 T174 V174 h174 S174 C174 q174
                  obtain ⟨rfl, rfl⟩ := q174
                  show Go p e below _ (T174.setTop (mkF m 434 #[.val (.int len), .val (.long la), .second, .val (.long lb), .second, .val (.int (3 : Int32)), .val (.int c28), .val (.int c29), .val (.int c30), .val (.int c31), .val (.int c32), .val (.int c33), .val (.ref b131), .val (.ref b138), .val (.int got148), .unset] [(.int (1 : Int32))]))
                  refine s_ifN S174 (hb hby at_434) (by decide) (pc' := 437) rfl ?_
                  refine s_iconst S174 (hb hby at_437) (v := (5 : Int32)) rfl (pc' := 438) rfl ?_
                  refine s_iload S174 (hb hby at_438) rfl (pc' := 440) rfl ?_
                  refine s_iload S174 (hb hby at_440) rfl (pc' := 442) rfl ?_
                  refine s_iload S174 (hb hby at_442) rfl (pc' := 444) rfl ?_
                  show Go p e below _ (T174.setTop (mkF m 444 #[.val (.int len), .val (.long la), .second, .val (.long lb), .second, .val (.int (3 : Int32)), .val (.int c28), .val (.int c29), .val (.int c30), .val (.int c31), .val (.int c32), .val (.int c33), .val (.ref b131), .val (.ref b138), .val (.int got148), .unset] [(.int c33), (.int c32), (.int (3 : Int32)), (.int (5 : Int32))]))
                  refine g_static S174 (rmNO X c32 c33 S174.old (by decide)) (fun _ q => nomatch q) (w78 hw) (w79 hw) (w73 hw) (w80 hw) (by decide) (hb hby at_444) (by rw [hml]; rfl) [(.int (5 : Int32)), (.int (3 : Int32)), (.int c32), (.int c33)] (lenOf pd5 rfl) rfl rfl (Nat.le_of_ble_eq_true rfl) (Nat.le_of_ble_eq_true rfl) (Nat.le_of_ble_eq_true rfl) (Nat.le_of_ble_eq_true rfl) ?_
                  intro v175 T175 V175 h175 S175 C175 q175
                  obtain ⟨rfl, rfl⟩ := q175
                  show Go p e below _ (T175.setTop (mkF m 447 #[.val (.int len), .val (.long la), .second, .val (.long lb), .second, .val (.int (3 : Int32)), .val (.int c28), .val (.int c29), .val (.int c30), .val (.int c31), .val (.int c32), .val (.int c33), .val (.ref b131), .val (.ref b138), .val (.int got148), .unset] [(.int (1 : Int32))]))
                  refine s_ifN S175 (hb hby at_447) (by decide) (pc' := 450) rfl ?_
                  refine s_iconst S175 (hb hby at_450) (v := (1 : Int32)) rfl (pc' := 451) rfl ?_
                  refine s_goto S175 (hb hby at_451) (by decide) (pcT := 455) (by decide) ?_
                  exact K149 _ _ S175 _ (Or.inl ⟨rfl, hr156, hr158, hr160, hr162, hr164, hr169, hr171⟩)
                · skip
                  show Go p e below _ (T172.setTop (mkF m 408 #[.val (.int len), .val (.long la), .second, .val (.long lb), .second, .val (.int (3 : Int32)), .val (.int c28), .val (.int c29), .val (.int c30), .val (.int c31), .val (.int c32), .val (.int c33), .val (.ref b131), .val (.ref b138), .val (.int got148), .unset] [(.int (0 : Int32))]))
                  refine s_ifY S172 (hb hby at_408) (by decide) (by decide) (pcT := 454) (by decide) ?_
                  refine s_iconst S172 (hb hby at_454) (v := (0 : Int32)) rfl (pc' := 455) rfl ?_
                  exact K149 _ _ S172 _ (Or.inr ⟨rfl, fun q => hr171 q.2.2.2.2.2.2⟩)
              · skip
                show Go p e below _ (T170.setTop (mkF m 395 #[.val (.int len), .val (.long la), .second, .val (.long lb), .second, .val (.int (3 : Int32)), .val (.int c28), .val (.int c29), .val (.int c30), .val (.int c31), .val (.int c32), .val (.int c33), .val (.ref b131), .val (.ref b138), .val (.int got148), .unset] [(.int (0 : Int32))]))
                refine s_ifY S170 (hb hby at_395) (by decide) (by decide) (pcT := 454) (by decide) ?_
                refine s_iconst S170 (hb hby at_454) (v := (0 : Int32)) rfl (pc' := 455) rfl ?_
                exact K149 _ _ S170 _ (Or.inr ⟨rfl, fun q => hr169 q.2.2.2.2.2.1⟩)
            · skip
              show Go p e below _ (T165.setTop (mkF m 349 #[.val (.int len), .val (.long la), .second, .val (.long lb), .second, .val (.int (3 : Int32)), .val (.int c28), .val (.int c29), .val (.int c30), .val (.int c31), .val (.int c32), .val (.int c33), .val (.ref b131), .val (.ref b138), .val (.int got148), .unset] [(.int (0 : Int32))]))
              refine s_ifY S165 (hb hby at_349) (by decide) (by decide) (pcT := 454) (by decide) ?_
              refine s_iconst S165 (hb hby at_454) (v := (0 : Int32)) rfl (pc' := 455) rfl ?_
              exact K149 _ _ S165 _ (Or.inr ⟨rfl, fun q => hr164 q.2.2.2.2.1⟩)
          · skip
            show Go p e below _ (T163.setTop (mkF m 338 #[.val (.int len), .val (.long la), .second, .val (.long lb), .second, .val (.int (3 : Int32)), .val (.int c28), .val (.int c29), .val (.int c30), .val (.int c31), .val (.int c32), .val (.int c33), .val (.ref b131), .val (.ref b138), .val (.int got148), .unset] [(.int (0 : Int32))]))
            refine s_ifY S163 (hb hby at_338) (by decide) (by decide) (pcT := 454) (by decide) ?_
            refine s_iconst S163 (hb hby at_454) (v := (0 : Int32)) rfl (pc' := 455) rfl ?_
            exact K149 _ _ S163 _ (Or.inr ⟨rfl, fun q => hr162 q.2.2.2.1⟩)
        · skip
          show Go p e below _ (T161.setTop (mkF m 327 #[.val (.int len), .val (.long la), .second, .val (.long lb), .second, .val (.int (3 : Int32)), .val (.int c28), .val (.int c29), .val (.int c30), .val (.int c31), .val (.int c32), .val (.int c33), .val (.ref b131), .val (.ref b138), .val (.int got148), .unset] [(.int (0 : Int32))]))
          refine s_ifY S161 (hb hby at_327) (by decide) (by decide) (pcT := 454) (by decide) ?_
          refine s_iconst S161 (hb hby at_454) (v := (0 : Int32)) rfl (pc' := 455) rfl ?_
          exact K149 _ _ S161 _ (Or.inr ⟨rfl, fun q => hr160 q.2.2.1⟩)
      · skip
        show Go p e below _ (T159.setTop (mkF m 316 #[.val (.int len), .val (.long la), .second, .val (.long lb), .second, .val (.int (3 : Int32)), .val (.int c28), .val (.int c29), .val (.int c30), .val (.int c31), .val (.int c32), .val (.int c33), .val (.ref b131), .val (.ref b138), .val (.int got148), .unset] [(.int (0 : Int32))]))
        refine s_ifY S159 (hb hby at_316) (by decide) (by decide) (pcT := 454) (by decide) ?_
        refine s_iconst S159 (hb hby at_454) (v := (0 : Int32)) rfl (pc' := 455) rfl ?_
        exact K149 _ _ S159 _ (Or.inr ⟨rfl, fun q => hr158 q.2.1⟩)
    · skip
      show Go p e below _ (T157.setTop (mkF m 303 #[.val (.int len), .val (.long la), .second, .val (.long lb), .second, .val (.int (3 : Int32)), .val (.int c28), .val (.int c29), .val (.int c30), .val (.int c31), .val (.int c32), .val (.int c33), .val (.ref b131), .val (.ref b138), .val (.int got148), .unset] [(.int (0 : Int32))]))
      refine s_ifY S157 (hb hby at_303) (by decide) (by decide) (pcT := 454) (by decide) ?_
      refine s_iconst S157 (hb hby at_454) (v := (0 : Int32)) rfl (pc' := 455) rfl ?_
      exact K149 _ _ S157 _ (Or.inr ⟨rfl, fun q => hr156 q.1⟩)
  · skip
    show Go p e below _ (T0.setTop (mkF m 75 #[.val (.int len), .val (.long la), .second, .val (.long lb), .second, .val (.int (4 : Int32)), .val (.int c28), .val (.int c29), .val (.int c30), .val (.int c31), .val (.int c32), .val (.int c33), .unset, .unset, .unset, .unset] []))
    refine s_bipush S0 (hb hby at_75) (v := (6 : Int32)) rfl (pc' := 77) rfl ?_
    refine g_newarr (aty := .char) S0 (w2 hw) (hb hby at_77) (by decide) (cap := 6) (by decide) (by decide) (Nat.le_of_ble_eq_true rfl) (Nat.le_of_ble_eq_true rfl) ?_
    intro T176 h176 b176 kc176 S176 E176 fr176 lt176 na176 sf176 A176
    have V176 : Arv Z h176 b176 kc176 .char (6 : Int32) [(.int (0 : Int32)), (.int (0 : Int32)), (.int (0 : Int32)), (.int (0 : Int32)), (.int (0 : Int32)), (.int (0 : Int32))] (.int (0 : Int32)) := A176 6
    show Go p e below _ (T176.setTop (mkF m 79 #[.val (.int len), .val (.long la), .second, .val (.long lb), .second, .val (.int (4 : Int32)), .val (.int c28), .val (.int c29), .val (.int c30), .val (.int c31), .val (.int c32), .val (.int c33), .unset, .unset, .unset, .unset] [(.ref b176)]))
    refine s_astore S176 (hb hby at_79) rfl (L' := #[.val (.int len), .val (.long la), .second, .val (.long lb), .second, .val (.int (4 : Int32)), .val (.int c28), .val (.int c29), .val (.int c30), .val (.int c31), .val (.int c32), .val (.int c33), .val (.ref b176), .unset, .unset, .unset]) rfl (pc' := 81) rfl ?_
    refine s_aload S176 (hb hby at_81) rfl rfl (pc' := 83) rfl ?_
    refine s_iconst S176 (hb hby at_83) (v := (0 : Int32)) rfl (pc' := 84) rfl ?_
    refine s_iload S176 (hb hby at_84) rfl (pc' := 86) rfl ?_
    refine g_castore S176 V176 ⟨by decide, by decide⟩ 0 rfl (Nat.le_of_ble_eq_true rfl) na176 (hb hby at_86) ?_
    intro T177 h177 S177 K177 V177
    rw [narC8 rc28] at V177
    have V177 : Arv Z h177 b176 kc176 .char (6 : Int32) [(.int c28), (.int (0 : Int32)), (.int (0 : Int32)), (.int (0 : Int32)), (.int (0 : Int32)), (.int (0 : Int32))] (.int (0 : Int32)) := V177
    show Go p e below _ (T177.setTop (mkF m 87 #[.val (.int len), .val (.long la), .second, .val (.long lb), .second, .val (.int (4 : Int32)), .val (.int c28), .val (.int c29), .val (.int c30), .val (.int c31), .val (.int c32), .val (.int c33), .val (.ref b176), .unset, .unset, .unset] []))
    refine s_aload S177 (hb hby at_87) rfl rfl (pc' := 89) rfl ?_
    refine s_iconst S177 (hb hby at_89) (v := (1 : Int32)) rfl (pc' := 90) rfl ?_
    refine s_iload S177 (hb hby at_90) rfl (pc' := 92) rfl ?_
    refine g_castore S177 V177 ⟨by decide, by decide⟩ 1 rfl (Nat.le_of_ble_eq_true rfl) na176 (hb hby at_92) ?_
    intro T178 h178 S178 K178 V178
    rw [narC8 rc29] at V178
    have V178 : Arv Z h178 b176 kc176 .char (6 : Int32) [(.int c28), (.int c29), (.int (0 : Int32)), (.int (0 : Int32)), (.int (0 : Int32)), (.int (0 : Int32))] (.int (0 : Int32)) := V178
    show Go p e below _ (T178.setTop (mkF m 93 #[.val (.int len), .val (.long la), .second, .val (.long lb), .second, .val (.int (4 : Int32)), .val (.int c28), .val (.int c29), .val (.int c30), .val (.int c31), .val (.int c32), .val (.int c33), .val (.ref b176), .unset, .unset, .unset] []))
    refine s_aload S178 (hb hby at_93) rfl rfl (pc' := 95) rfl ?_
    refine s_iconst S178 (hb hby at_95) (v := (2 : Int32)) rfl (pc' := 96) rfl ?_
    refine s_iload S178 (hb hby at_96) rfl (pc' := 98) rfl ?_
    refine g_castore S178 V178 ⟨by decide, by decide⟩ 2 rfl (Nat.le_of_ble_eq_true rfl) na176 (hb hby at_98) ?_
    intro T179 h179 S179 K179 V179
    rw [narC8 rc30] at V179
    have V179 : Arv Z h179 b176 kc176 .char (6 : Int32) [(.int c28), (.int c29), (.int c30), (.int (0 : Int32)), (.int (0 : Int32)), (.int (0 : Int32))] (.int (0 : Int32)) := V179
    show Go p e below _ (T179.setTop (mkF m 99 #[.val (.int len), .val (.long la), .second, .val (.long lb), .second, .val (.int (4 : Int32)), .val (.int c28), .val (.int c29), .val (.int c30), .val (.int c31), .val (.int c32), .val (.int c33), .val (.ref b176), .unset, .unset, .unset] []))
    refine s_aload S179 (hb hby at_99) rfl rfl (pc' := 101) rfl ?_
    refine s_iconst S179 (hb hby at_101) (v := (3 : Int32)) rfl (pc' := 102) rfl ?_
    refine s_iload S179 (hb hby at_102) rfl (pc' := 104) rfl ?_
    refine g_castore S179 V179 ⟨by decide, by decide⟩ 3 rfl (Nat.le_of_ble_eq_true rfl) na176 (hb hby at_104) ?_
    intro T180 h180 S180 K180 V180
    rw [narC8 rc31] at V180
    have V180 : Arv Z h180 b176 kc176 .char (6 : Int32) [(.int c28), (.int c29), (.int c30), (.int c31), (.int (0 : Int32)), (.int (0 : Int32))] (.int (0 : Int32)) := V180
    show Go p e below _ (T180.setTop (mkF m 105 #[.val (.int len), .val (.long la), .second, .val (.long lb), .second, .val (.int (4 : Int32)), .val (.int c28), .val (.int c29), .val (.int c30), .val (.int c31), .val (.int c32), .val (.int c33), .val (.ref b176), .unset, .unset, .unset] []))
    refine s_aload S180 (hb hby at_105) rfl rfl (pc' := 107) rfl ?_
    refine s_iconst S180 (hb hby at_107) (v := (4 : Int32)) rfl (pc' := 108) rfl ?_
    refine s_iload S180 (hb hby at_108) rfl (pc' := 110) rfl ?_
    refine g_castore S180 V180 ⟨by decide, by decide⟩ 4 rfl (Nat.le_of_ble_eq_true rfl) na176 (hb hby at_110) ?_
    intro T181 h181 S181 K181 V181
    rw [narC8 rc32] at V181
    have V181 : Arv Z h181 b176 kc176 .char (6 : Int32) [(.int c28), (.int c29), (.int c30), (.int c31), (.int c32), (.int (0 : Int32))] (.int (0 : Int32)) := V181
    show Go p e below _ (T181.setTop (mkF m 111 #[.val (.int len), .val (.long la), .second, .val (.long lb), .second, .val (.int (4 : Int32)), .val (.int c28), .val (.int c29), .val (.int c30), .val (.int c31), .val (.int c32), .val (.int c33), .val (.ref b176), .unset, .unset, .unset] []))
    refine s_aload S181 (hb hby at_111) rfl rfl (pc' := 113) rfl ?_
    refine s_iconst S181 (hb hby at_113) (v := (5 : Int32)) rfl (pc' := 114) rfl ?_
    refine s_iload S181 (hb hby at_114) rfl (pc' := 116) rfl ?_
    refine g_castore S181 V181 ⟨by decide, by decide⟩ 5 rfl (Nat.le_of_ble_eq_true rfl) na176 (hb hby at_116) ?_
    intro T182 h182 S182 K182 V182
    rw [narC8 rc33] at V182
    have V182 : Arv Z h182 b176 kc176 .char (6 : Int32) [(.int c28), (.int c29), (.int c30), (.int c31), (.int c32), (.int c33)] (.int (0 : Int32)) := V182
    show Go p e below _ (T182.setTop (mkF m 117 #[.val (.int len), .val (.long la), .second, .val (.long lb), .second, .val (.int (4 : Int32)), .val (.int c28), .val (.int c29), .val (.int c30), .val (.int c31), .val (.int c32), .val (.int c33), .val (.ref b176), .unset, .unset, .unset] []))
    refine s_iload S182 (hb hby at_117) rfl (pc' := 119) rfl ?_
    refine s_ifY S182 (hb hby at_119) (by decide) (by decide) (pcT := 130) (by decide) ?_
    refine s_iload S182 (hb hby at_130) rfl (pc' := 132) rfl ?_
    refine s_iconst S182 (hb hby at_132) (v := (1 : Int32)) rfl (pc' := 133) rfl ?_
    refine s_icmpY S182 (hb hby at_133) (by decide) (by decide) (pcT := 144) (by decide) ?_
    refine s_iload S182 (hb hby at_144) rfl (pc' := 146) rfl ?_
    refine s_iconst S182 (hb hby at_146) (v := (2 : Int32)) rfl (pc' := 147) rfl ?_
    refine s_icmpY S182 (hb hby at_147) (by decide) (by decide) (pcT := 158) (by decide) ?_
    refine s_iload S182 (hb hby at_158) rfl (pc' := 160) rfl ?_
    refine s_iconst S182 (hb hby at_160) (v := (3 : Int32)) rfl (pc' := 161) rfl ?_
    refine s_icmpY S182 (hb hby at_161) (by decide) (by decide) (pcT := 172) (by decide) ?_
    refine s_iload S182 (hb hby at_172) rfl (pc' := 174) rfl ?_
    refine s_iconst S182 (hb hby at_174) (v := (4 : Int32)) rfl (pc' := 175) rfl ?_
    refine s_icmpN S182 (hb hby at_175) (by decide) (pc' := 178) rfl ?_
    refine s_iconst S182 (hb hby at_178) (v := (4 : Int32)) rfl (pc' := 179) rfl ?_
    refine g_newarr (aty := .char) S182 (w2 hw) (hb hby at_179) (by decide) (cap := 4) (by decide) (by decide) (Nat.le_of_ble_eq_true rfl) (Nat.le_of_ble_eq_true rfl) ?_
    intro T183 h183 b183 kc183 S183 E183 fr183 lt183 na183 sf183 A183
    have V183 : Arv Z h183 b183 kc183 .char (4 : Int32) [(.int (0 : Int32)), (.int (0 : Int32)), (.int (0 : Int32)), (.int (0 : Int32))] (.int (0 : Int32)) := A183 4
    show Go p e below _ (T183.setTop (mkF m 181 #[.val (.int len), .val (.long la), .second, .val (.long lb), .second, .val (.int (4 : Int32)), .val (.int c28), .val (.int c29), .val (.int c30), .val (.int c31), .val (.int c32), .val (.int c33), .val (.ref b176), .unset, .unset, .unset] [(.ref b183)]))
    refine s_astore S183 (hb hby at_181) rfl (L' := #[.val (.int len), .val (.long la), .second, .val (.long lb), .second, .val (.int (4 : Int32)), .val (.int c28), .val (.int c29), .val (.int c30), .val (.int c31), .val (.int c32), .val (.int c33), .val (.ref b176), .val (.ref b183), .unset, .unset]) rfl (pc' := 183) rfl ?_
    refine s_goto S183 (hb hby at_183) (by decide) (pcT := 206) (by decide) ?_
    refine s_iload S183 (hb hby at_206) rfl (pc' := 208) rfl ?_
    refine s_ifN S183 (hb hby at_208) (by decide) (pc' := 211) rfl ?_
    refine s_aload S183 (hb hby at_211) rfl rfl (pc' := 213) rfl ?_
    refine s_iconst S183 (hb hby at_213) (v := (0 : Int32)) rfl (pc' := 214) rfl ?_
    refine s_iload S183 (hb hby at_214) rfl (pc' := 216) rfl ?_
    refine g_castore S183 V183 ⟨by decide, by decide⟩ 0 rfl (Nat.le_of_ble_eq_true rfl) na183 (hb hby at_216) ?_
    intro T184 h184 S184 K184 V184
    rw [narC8 rc28] at V184
    have V184 : Arv Z h184 b183 kc183 .char (4 : Int32) [(.int c28), (.int (0 : Int32)), (.int (0 : Int32)), (.int (0 : Int32))] (.int (0 : Int32)) := V184
    show Go p e below _ (T184.setTop (mkF m 217 #[.val (.int len), .val (.long la), .second, .val (.long lb), .second, .val (.int (4 : Int32)), .val (.int c28), .val (.int c29), .val (.int c30), .val (.int c31), .val (.int c32), .val (.int c33), .val (.ref b176), .val (.ref b183), .unset, .unset] []))
    refine s_iload S184 (hb hby at_217) rfl (pc' := 219) rfl ?_
    refine s_iconst S184 (hb hby at_219) (v := (1 : Int32)) rfl (pc' := 220) rfl ?_
    refine s_icmpN S184 (hb hby at_220) (by decide) (pc' := 223) rfl ?_
    refine s_aload S184 (hb hby at_223) rfl rfl (pc' := 225) rfl ?_
    refine s_iconst S184 (hb hby at_225) (v := (1 : Int32)) rfl (pc' := 226) rfl ?_
    refine s_iload S184 (hb hby at_226) rfl (pc' := 228) rfl ?_
    refine g_castore S184 V184 ⟨by decide, by decide⟩ 1 rfl (Nat.le_of_ble_eq_true rfl) na183 (hb hby at_228) ?_
    intro T185 h185 S185 K185 V185
    rw [narC8 rc29] at V185
    have V185 : Arv Z h185 b183 kc183 .char (4 : Int32) [(.int c28), (.int c29), (.int (0 : Int32)), (.int (0 : Int32))] (.int (0 : Int32)) := V185
    show Go p e below _ (T185.setTop (mkF m 229 #[.val (.int len), .val (.long la), .second, .val (.long lb), .second, .val (.int (4 : Int32)), .val (.int c28), .val (.int c29), .val (.int c30), .val (.int c31), .val (.int c32), .val (.int c33), .val (.ref b176), .val (.ref b183), .unset, .unset] []))
    refine s_iload S185 (hb hby at_229) rfl (pc' := 231) rfl ?_
    refine s_iconst S185 (hb hby at_231) (v := (2 : Int32)) rfl (pc' := 232) rfl ?_
    refine s_icmpN S185 (hb hby at_232) (by decide) (pc' := 235) rfl ?_
    refine s_aload S185 (hb hby at_235) rfl rfl (pc' := 237) rfl ?_
    refine s_iconst S185 (hb hby at_237) (v := (2 : Int32)) rfl (pc' := 238) rfl ?_
    refine s_iload S185 (hb hby at_238) rfl (pc' := 240) rfl ?_
    refine g_castore S185 V185 ⟨by decide, by decide⟩ 2 rfl (Nat.le_of_ble_eq_true rfl) na183 (hb hby at_240) ?_
    intro T186 h186 S186 K186 V186
    rw [narC8 rc30] at V186
    have V186 : Arv Z h186 b183 kc183 .char (4 : Int32) [(.int c28), (.int c29), (.int c30), (.int (0 : Int32))] (.int (0 : Int32)) := V186
    show Go p e below _ (T186.setTop (mkF m 241 #[.val (.int len), .val (.long la), .second, .val (.long lb), .second, .val (.int (4 : Int32)), .val (.int c28), .val (.int c29), .val (.int c30), .val (.int c31), .val (.int c32), .val (.int c33), .val (.ref b176), .val (.ref b183), .unset, .unset] []))
    refine s_iload S186 (hb hby at_241) rfl (pc' := 243) rfl ?_
    refine s_iconst S186 (hb hby at_243) (v := (3 : Int32)) rfl (pc' := 244) rfl ?_
    refine s_icmpN S186 (hb hby at_244) (by decide) (pc' := 247) rfl ?_
    refine s_aload S186 (hb hby at_247) rfl rfl (pc' := 249) rfl ?_
    refine s_iconst S186 (hb hby at_249) (v := (3 : Int32)) rfl (pc' := 250) rfl ?_
    refine s_iload S186 (hb hby at_250) rfl (pc' := 252) rfl ?_
    refine g_castore S186 V186 ⟨by decide, by decide⟩ 3 rfl (Nat.le_of_ble_eq_true rfl) na183 (hb hby at_252) ?_
    intro T187 h187 S187 K187 V187
    rw [narC8 rc31] at V187
    have V187 : Arv Z h187 b183 kc183 .char (4 : Int32) [(.int c28), (.int c29), (.int c30), (.int c31)] (.int (0 : Int32)) := V187
    show Go p e below _ (T187.setTop (mkF m 253 #[.val (.int len), .val (.long la), .second, .val (.long lb), .second, .val (.int (4 : Int32)), .val (.int c28), .val (.int c29), .val (.int c30), .val (.int c31), .val (.int c32), .val (.int c33), .val (.ref b176), .val (.ref b183), .unset, .unset] []))
    refine s_iload S187 (hb hby at_253) rfl (pc' := 255) rfl ?_
    refine s_iconst S187 (hb hby at_255) (v := (4 : Int32)) rfl (pc' := 256) rfl ?_
    refine s_icmpY S187 (hb hby at_256) (by decide) (by decide) (pcT := 265) (by decide) ?_
    refine s_iload S187 (hb hby at_265) rfl (pc' := 267) rfl ?_
    refine s_iconst S187 (hb hby at_267) (v := (5 : Int32)) rfl (pc' := 268) rfl ?_
    refine s_icmpY S187 (hb hby at_268) (by decide) (by decide) (pcT := 277) (by decide) ?_
    refine g_new S187 (w3 hw) (w4 hw) (w5 hw) (hb hby at_277) (Nat.le_of_ble_eq_true rfl) (Nat.le_of_ble_eq_true rfl) ?_
    intro T188 h188 b188 S188 E188 fr188 lt188 na188 sf188 A188 D188
    have F189 : Fld Z h188 b188 "java/lang/String" "value" "[B" .null := D188 (Or.inr (w18 hw)) (ty := (.array .byte)) (by decide)
    have F190 : Fld Z h188 b188 "java/lang/String" "coder" "B" (.int (0 : Int32)) := D188 (Or.inr (w19 hw)) (ty := .byte) (by decide)
    show Go p e below _ (T188.setTop (mkF m 280 #[.val (.int len), .val (.long la), .second, .val (.long lb), .second, .val (.int (4 : Int32)), .val (.int c28), .val (.int c29), .val (.int c30), .val (.int c31), .val (.int c32), .val (.int c33), .val (.ref b176), .val (.ref b183), .unset, .unset] [(.ref b188)]))
    refine s_dup S188 (hb hby at_280) rfl (pc' := 281) rfl ?_
    refine s_aload S188 (hb hby at_281) rfl rfl (pc' := 283) rfl ?_
    show Go p e below _ (T188.setTop (mkF m 283 #[.val (.int len), .val (.long la), .second, .val (.long lb), .second, .val (.int (4 : Int32)), .val (.int c28), .val (.int c29), .val (.int c30), .val (.int c31), .val (.int c32), .val (.int c33), .val (.ref b176), .val (.ref b183), .unset, .unset] [(.ref b183), (.ref b188), (.ref b188)]))
    have V192 := V187.ext E188
    refine g_newStr S188 X (cs := [c28, c29, c30, c31]) (Nat.le_of_ble_eq_true rfl) (Nat.le_of_ble_eq_true rfl) rfl na188 sf188 A188 F189 F190 V192 (faS rc28 (faS rc29 (faS rc30 (faS rc31 fa0)))) (w6 hw) (hb hby at_283) (by rw [hml]; rfl) (Nat.le_of_ble_eq_true rfl) (Nat.le_of_ble_eq_true rfl) (Nat.le_of_ble_eq_true rfl) (Nat.le_of_ble_eq_true rfl) ?_
    intro T191 h191 S191 K191 F191
    show Go p e below _ (T191.setTop (mkF m 286 #[.val (.int len), .val (.long la), .second, .val (.long lb), .second, .val (.int (4 : Int32)), .val (.int c28), .val (.int c29), .val (.int c30), .val (.int c31), .val (.int c32), .val (.int c33), .val (.ref b176), .val (.ref b183), .unset, .unset] [(.ref b188)]))
    show Go p e below _ (T191.setTop (mkF m 286 #[.val (.int len), .val (.long la), .second, .val (.long lb), .second, .val (.int (4 : Int32)), .val (.int c28), .val (.int c29), .val (.int c30), .val (.int c31), .val (.int c32), .val (.int c33), .val (.ref b176), .val (.ref b183), .unset, .unset] [(.ref b188)]))
    refine g_static S191 (rmIM X S191.old F191 (faS rc28.2 (faS rc29.2 (faS rc30.2 (faS rc31.2 fa0))))) (fun _ q => nomatch q) (w24 hw) (w25 hw) (w26 hw) (w27 hw) (by decide) (hb hby at_286) (by rw [hml]; rfl) [(.ref b188)] (lenOf pd3 rfl) rfl rfl (Nat.le_of_ble_eq_true rfl) (Nat.le_of_ble_eq_true rfl) (Nat.le_of_ble_eq_true rfl) (Nat.le_of_ble_eq_true rfl) ?_
    intro v193 T193 V193 h193 S193 C193 q193
    obtain ⟨rfl, rfl⟩ := q193
    show Go p e below _ (T193.setTop (mkF m 289 #[.val (.int len), .val (.long la), .second, .val (.long lb), .second, .val (.int (4 : Int32)), .val (.int c28), .val (.int c29), .val (.int c30), .val (.int c31), .val (.int c32), .val (.int c33), .val (.ref b176), .val (.ref b183), .unset, .unset] [(.int (if imF false [c28, c29, c30, c31] = true then (1 : Int32) else (0 : Int32)))]))
    generalize egot194 : (if imF false [c28, c29, c30, c31] = true then (1 : Int32) else (0 : Int32)) = got194
    refine s_istore S193 (hb hby at_289) (L' := #[.val (.int len), .val (.long la), .second, .val (.long lb), .second, .val (.int (4 : Int32)), .val (.int c28), .val (.int c29), .val (.int c30), .val (.int c31), .val (.int c32), .val (.int c33), .val (.ref b176), .val (.ref b183), .val (.int got194), .unset]) rfl (pc' := 291) rfl ?_
    have X196 : Ext h182 h184 := ext_keep1 E183 K184 fr183
    have X197 : Ext h182 h185 := ext_keep1 X196 K185 fr183
    have X198 : Ext h182 h186 := ext_keep1 X197 K186 fr183
    have X199 : Ext h182 h187 := ext_keep1 X198 K187 fr183
    have X200 : Ext h182 h188 := ext_trans X199 E188
    have X201 : Ext h182 h193 := ext_keep1 X200 K191 (Nat.le_trans X199.1 fr188)
    have V202 := V182.ext X201
    show Go p e below _ (T193.setTop (mkF m 291 #[.val (.int len), .val (.long la), .second, .val (.long lb), .second, .val (.int (4 : Int32)), .val (.int c28), .val (.int c29), .val (.int c30), .val (.int c31), .val (.int c32), .val (.int c33), .val (.ref b176), .val (.ref b183), .val (.int got194), .unset] []))
    have K195 : ∀ (T8 : State) (V8 : Vm), St p l e room_1 s m #[(.int len), (.long la), (.long lb)] below meth c Z a0 EL1 n0 "com/example/remora/remora/MethodsIsMethodNamePinLaw" T8 V8 h193 4 18 → ∀ wx : Int32, ((wx = 1 ∧ own_W4 c28 c29 c30 c31) ∨ (wx = 0 ∧ ¬ own_W4 c28 c29 c30 c31)) → Go p e below (Fini Z EL1 n0 s room_1 (fun v h' => v = some (.int 1) ∧ True)) (T8.setTop (mkF m 455 #[.val (.int len), .val (.long la), .second, .val (.long lb), .second, .val (.int (4 : Int32)), .val (.int c28), .val (.int c29), .val (.int c30), .val (.int c31), .val (.int c32), .val (.int c33), .val (.ref b176), .val (.ref b183), .val (.int got194), .unset] [(.int wx)])) := by
      intro T8 V8 S8 wx hwx
      obtain rfl : wx = got194 := by
        rw [← egot194]
        exact own_if (own_eq4 c28 c29 c30 c31) hwx
      show Go p e below _ (T8.setTop (mkF m 455 #[.val (.int len), .val (.long la), .second, .val (.long lb), .second, .val (.int (4 : Int32)), .val (.int c28), .val (.int c29), .val (.int c30), .val (.int c31), .val (.int c32), .val (.int c33), .val (.ref b176), .val (.ref b183), .val (.int wx), .unset] [(.int wx)]))
      refine s_istore S8 (hb hby at_455) (L' := #[.val (.int len), .val (.long la), .second, .val (.long lb), .second, .val (.int (4 : Int32)), .val (.int c28), .val (.int c29), .val (.int c30), .val (.int c31), .val (.int c32), .val (.int c33), .val (.ref b176), .val (.ref b183), .val (.int wx), .val (.int wx)]) rfl (pc' := 457) rfl ?_
      refine s_iload S8 (hb hby at_457) rfl (pc' := 459) rfl ?_
      refine s_iload S8 (hb hby at_459) rfl (pc' := 461) rfl ?_
      refine s_icmpN S8 (hb hby at_461) (by simp [if_icmp.holds]) (pc' := 464) rfl ?_
      refine s_iconst S8 (hb hby at_464) (v := (1 : Int32)) rfl (pc' := 465) rfl ?_
      refine s_goto S8 (hb hby at_465) (by decide) (pcT := 469) (by decide) ?_
      exact g_iretN S8 (hb hby at_469) hret (by simp) ⟨rfl, trivial⟩
    refine s_iload S193 (hb hby at_291) rfl (pc' := 293) rfl ?_
    refine s_ifN S193 (hb hby at_293) (by decide) (pc' := 296) rfl ?_
    refine s_aload S193 (hb hby at_296) rfl rfl (pc' := 298) rfl ?_
    refine s_iconst S193 (hb hby at_298) (v := (0 : Int32)) rfl (pc' := 299) rfl ?_
    show Go p e below _ (T193.setTop (mkF m 299 #[.val (.int len), .val (.long la), .second, .val (.long lb), .second, .val (.int (4 : Int32)), .val (.int c28), .val (.int c29), .val (.int c30), .val (.int c31), .val (.int c32), .val (.int c33), .val (.ref b176), .val (.ref b183), .val (.int got194), .unset] [(.int (0 : Int32)), (.ref b176)]))
    refine g_caload S193 V202 ⟨by decide, by decide⟩ (x := c28) rfl (hb hby at_299) ?_
    show Go p e below _ (T193.setTop (mkF m 300 #[.val (.int len), .val (.long la), .second, .val (.long lb), .second, .val (.int (4 : Int32)), .val (.int c28), .val (.int c29), .val (.int c30), .val (.int c31), .val (.int c32), .val (.int c33), .val (.ref b176), .val (.ref b183), .val (.int got194), .unset] [(.int c28)]))
    show Go p e below _ (T193.setTop (mkF m 300 #[.val (.int len), .val (.long la), .second, .val (.long lb), .second, .val (.int (4 : Int32)), .val (.int c28), .val (.int c29), .val (.int c30), .val (.int c31), .val (.int c32), .val (.int c33), .val (.ref b176), .val (.ref b183), .val (.int got194), .unset] [(.int c28)]))
    refine g_static S193 (rmIL X c28 S193.old) (fun _ q => nomatch q) (w71 hw) (w72 hw) (w73 hw) (w74 hw) (by decide) (hb hby at_300) (by rw [hml]; rfl) [(.int c28)] (lenOf pd1 rfl) rfl rfl (Nat.le_of_ble_eq_true rfl) (Nat.le_of_ble_eq_true rfl) (Nat.le_of_ble_eq_true rfl) (Nat.le_of_ble_eq_true rfl) ?_
    intro v204 T204 V204 h204 S204 C204 q204
    obtain ⟨r203, rfl, hr203, rfl⟩ := q204
    rcases hr203 with ⟨rfl, hr203⟩ | ⟨rfl, hr203⟩
    · skip
      show Go p e below _ (T204.setTop (mkF m 303 #[.val (.int len), .val (.long la), .second, .val (.long lb), .second, .val (.int (4 : Int32)), .val (.int c28), .val (.int c29), .val (.int c30), .val (.int c31), .val (.int c32), .val (.int c33), .val (.ref b176), .val (.ref b183), .val (.int got194), .unset] [(.int (1 : Int32))]))
      refine s_ifN S204 (hb hby at_303) (by decide) (pc' := 306) rfl ?_
      refine s_aload S204 (hb hby at_306) rfl rfl (pc' := 308) rfl ?_
      refine s_iload S204 (hb hby at_308) rfl (pc' := 310) rfl ?_
      refine s_iconst S204 (hb hby at_310) (v := (1 : Int32)) rfl (pc' := 311) rfl ?_
      refine s_isub S204 (hb hby at_311) (z := (3 : Int32)) rfl (pc' := 312) rfl ?_
      show Go p e below _ (T204.setTop (mkF m 312 #[.val (.int len), .val (.long la), .second, .val (.long lb), .second, .val (.int (4 : Int32)), .val (.int c28), .val (.int c29), .val (.int c30), .val (.int c31), .val (.int c32), .val (.int c33), .val (.ref b176), .val (.ref b183), .val (.int got194), .unset] [(.int (3 : Int32)), (.ref b176)]))
      refine g_caload S204 V202 ⟨by decide, by decide⟩ (x := c31) rfl (hb hby at_312) ?_
      show Go p e below _ (T204.setTop (mkF m 313 #[.val (.int len), .val (.long la), .second, .val (.long lb), .second, .val (.int (4 : Int32)), .val (.int c28), .val (.int c29), .val (.int c30), .val (.int c31), .val (.int c32), .val (.int c33), .val (.ref b176), .val (.ref b183), .val (.int got194), .unset] [(.int c31)]))
      show Go p e below _ (T204.setTop (mkF m 313 #[.val (.int len), .val (.long la), .second, .val (.long lb), .second, .val (.int (4 : Int32)), .val (.int c28), .val (.int c29), .val (.int c30), .val (.int c31), .val (.int c32), .val (.int c33), .val (.ref b176), .val (.ref b183), .val (.int got194), .unset] [(.int c31)]))
      refine g_static S204 (rmIL X c31 S204.old) (fun _ q => nomatch q) (w71 hw) (w72 hw) (w73 hw) (w74 hw) (by decide) (hb hby at_313) (by rw [hml]; rfl) [(.int c31)] (lenOf pd1 rfl) rfl rfl (Nat.le_of_ble_eq_true rfl) (Nat.le_of_ble_eq_true rfl) (Nat.le_of_ble_eq_true rfl) (Nat.le_of_ble_eq_true rfl) ?_
      intro v206 T206 V206 h206 S206 C206 q206
      obtain ⟨r205, rfl, hr205, rfl⟩ := q206
      rcases hr205 with ⟨rfl, hr205⟩ | ⟨rfl, hr205⟩
      · skip
        show Go p e below _ (T206.setTop (mkF m 316 #[.val (.int len), .val (.long la), .second, .val (.long lb), .second, .val (.int (4 : Int32)), .val (.int c28), .val (.int c29), .val (.int c30), .val (.int c31), .val (.int c32), .val (.int c33), .val (.ref b176), .val (.ref b183), .val (.int got194), .unset] [(.int (1 : Int32))]))
        refine s_ifN S206 (hb hby at_316) (by decide) (pc' := 319) rfl ?_
        refine s_iconst S206 (hb hby at_319) (v := (0 : Int32)) rfl (pc' := 320) rfl ?_
        refine s_iload S206 (hb hby at_320) rfl (pc' := 322) rfl ?_
        refine s_iload S206 (hb hby at_322) rfl (pc' := 324) rfl ?_
        show Go p e below _ (T206.setTop (mkF m 324 #[.val (.int len), .val (.long la), .second, .val (.long lb), .second, .val (.int (4 : Int32)), .val (.int c28), .val (.int c29), .val (.int c30), .val (.int c31), .val (.int c32), .val (.int c33), .val (.ref b176), .val (.ref b183), .val (.int got194), .unset] [(.int c28), (.int (4 : Int32)), (.int (0 : Int32))]))
        refine g_static S206 (rmFI X c28 S206.old (by decide)) (fun _ q => nomatch q) (w75 hw) (w76 hw) (w73 hw) (w77 hw) (by decide) (hb hby at_324) (by rw [hml]; rfl) [(.int (0 : Int32)), (.int (4 : Int32)), (.int c28)] (lenOf pd4 rfl) rfl rfl (Nat.le_of_ble_eq_true rfl) (Nat.le_of_ble_eq_true rfl) (Nat.le_of_ble_eq_true rfl) (Nat.le_of_ble_eq_true rfl) ?_
        intro v208 T208 V208 h208 S208 C208 q208
        obtain ⟨r207, rfl, hr207, rfl⟩ := q208
        rcases hr207 with ⟨rfl, hr207⟩ | ⟨rfl, hr207⟩
        · skip
          show Go p e below _ (T208.setTop (mkF m 327 #[.val (.int len), .val (.long la), .second, .val (.long lb), .second, .val (.int (4 : Int32)), .val (.int c28), .val (.int c29), .val (.int c30), .val (.int c31), .val (.int c32), .val (.int c33), .val (.ref b176), .val (.ref b183), .val (.int got194), .unset] [(.int (1 : Int32))]))
          refine s_ifN S208 (hb hby at_327) (by decide) (pc' := 330) rfl ?_
          refine s_iconst S208 (hb hby at_330) (v := (1 : Int32)) rfl (pc' := 331) rfl ?_
          refine s_iload S208 (hb hby at_331) rfl (pc' := 333) rfl ?_
          refine s_iload S208 (hb hby at_333) rfl (pc' := 335) rfl ?_
          show Go p e below _ (T208.setTop (mkF m 335 #[.val (.int len), .val (.long la), .second, .val (.long lb), .second, .val (.int (4 : Int32)), .val (.int c28), .val (.int c29), .val (.int c30), .val (.int c31), .val (.int c32), .val (.int c33), .val (.ref b176), .val (.ref b183), .val (.int got194), .unset] [(.int c29), (.int (4 : Int32)), (.int (1 : Int32))]))
          refine g_static S208 (rmFI X c29 S208.old (by decide)) (fun _ q => nomatch q) (w75 hw) (w76 hw) (w73 hw) (w77 hw) (by decide) (hb hby at_335) (by rw [hml]; rfl) [(.int (1 : Int32)), (.int (4 : Int32)), (.int c29)] (lenOf pd4 rfl) rfl rfl (Nat.le_of_ble_eq_true rfl) (Nat.le_of_ble_eq_true rfl) (Nat.le_of_ble_eq_true rfl) (Nat.le_of_ble_eq_true rfl) ?_
          intro v210 T210 V210 h210 S210 C210 q210
          obtain ⟨r209, rfl, hr209, rfl⟩ := q210
          rcases hr209 with ⟨rfl, hr209⟩ | ⟨rfl, hr209⟩
          · skip
            show Go p e below _ (T210.setTop (mkF m 338 #[.val (.int len), .val (.long la), .second, .val (.long lb), .second, .val (.int (4 : Int32)), .val (.int c28), .val (.int c29), .val (.int c30), .val (.int c31), .val (.int c32), .val (.int c33), .val (.ref b176), .val (.ref b183), .val (.int got194), .unset] [(.int (1 : Int32))]))
            refine s_ifN S210 (hb hby at_338) (by decide) (pc' := 341) rfl ?_
            refine s_iconst S210 (hb hby at_341) (v := (2 : Int32)) rfl (pc' := 342) rfl ?_
            refine s_iload S210 (hb hby at_342) rfl (pc' := 344) rfl ?_
            refine s_iload S210 (hb hby at_344) rfl (pc' := 346) rfl ?_
            show Go p e below _ (T210.setTop (mkF m 346 #[.val (.int len), .val (.long la), .second, .val (.long lb), .second, .val (.int (4 : Int32)), .val (.int c28), .val (.int c29), .val (.int c30), .val (.int c31), .val (.int c32), .val (.int c33), .val (.ref b176), .val (.ref b183), .val (.int got194), .unset] [(.int c30), (.int (4 : Int32)), (.int (2 : Int32))]))
            refine g_static S210 (rmFI X c30 S210.old (by decide)) (fun _ q => nomatch q) (w75 hw) (w76 hw) (w73 hw) (w77 hw) (by decide) (hb hby at_346) (by rw [hml]; rfl) [(.int (2 : Int32)), (.int (4 : Int32)), (.int c30)] (lenOf pd4 rfl) rfl rfl (Nat.le_of_ble_eq_true rfl) (Nat.le_of_ble_eq_true rfl) (Nat.le_of_ble_eq_true rfl) (Nat.le_of_ble_eq_true rfl) ?_
            intro v212 T212 V212 h212 S212 C212 q212
            obtain ⟨r211, rfl, hr211, rfl⟩ := q212
            rcases hr211 with ⟨rfl, hr211⟩ | ⟨rfl, hr211⟩
            · skip
              show Go p e below _ (T212.setTop (mkF m 349 #[.val (.int len), .val (.long la), .second, .val (.long lb), .second, .val (.int (4 : Int32)), .val (.int c28), .val (.int c29), .val (.int c30), .val (.int c31), .val (.int c32), .val (.int c33), .val (.ref b176), .val (.ref b183), .val (.int got194), .unset] [(.int (1 : Int32))]))
              refine s_ifN S212 (hb hby at_349) (by decide) (pc' := 352) rfl ?_
              refine s_iconst S212 (hb hby at_352) (v := (3 : Int32)) rfl (pc' := 353) rfl ?_
              refine s_iload S212 (hb hby at_353) rfl (pc' := 355) rfl ?_
              refine s_iload S212 (hb hby at_355) rfl (pc' := 357) rfl ?_
              show Go p e below _ (T212.setTop (mkF m 357 #[.val (.int len), .val (.long la), .second, .val (.long lb), .second, .val (.int (4 : Int32)), .val (.int c28), .val (.int c29), .val (.int c30), .val (.int c31), .val (.int c32), .val (.int c33), .val (.ref b176), .val (.ref b183), .val (.int got194), .unset] [(.int c31), (.int (4 : Int32)), (.int (3 : Int32))]))
              refine g_static S212 (rmFI X c31 S212.old (by decide)) (fun _ q => nomatch q) (w75 hw) (w76 hw) (w73 hw) (w77 hw) (by decide) (hb hby at_357) (by rw [hml]; rfl) [(.int (3 : Int32)), (.int (4 : Int32)), (.int c31)] (lenOf pd4 rfl) rfl rfl (Nat.le_of_ble_eq_true rfl) (Nat.le_of_ble_eq_true rfl) (Nat.le_of_ble_eq_true rfl) (Nat.le_of_ble_eq_true rfl) ?_
              intro v214 T214 V214 h214 S214 C214 q214
              obtain ⟨r213, rfl, hr213, rfl⟩ := q214
              rcases hr213 with ⟨rfl, hr213⟩ | ⟨rfl, hr213⟩
              · skip
                show Go p e below _ (T214.setTop (mkF m 360 #[.val (.int len), .val (.long la), .second, .val (.long lb), .second, .val (.int (4 : Int32)), .val (.int c28), .val (.int c29), .val (.int c30), .val (.int c31), .val (.int c32), .val (.int c33), .val (.ref b176), .val (.ref b183), .val (.int got194), .unset] [(.int (1 : Int32))]))
                refine s_ifN S214 (hb hby at_360) (by decide) (pc' := 363) rfl ?_
                refine s_iconst S214 (hb hby at_363) (v := (4 : Int32)) rfl (pc' := 364) rfl ?_
                refine s_iload S214 (hb hby at_364) rfl (pc' := 366) rfl ?_
                refine s_iload S214 (hb hby at_366) rfl (pc' := 368) rfl ?_
                show Go p e below _ (T214.setTop (mkF m 368 #[.val (.int len), .val (.long la), .second, .val (.long lb), .second, .val (.int (4 : Int32)), .val (.int c28), .val (.int c29), .val (.int c30), .val (.int c31), .val (.int c32), .val (.int c33), .val (.ref b176), .val (.ref b183), .val (.int got194), .unset] [(.int c32), (.int (4 : Int32)), (.int (4 : Int32))]))
                refine g_static S214 (rmFO X c32 S214.old (by decide)) (fun _ q => nomatch q) (w75 hw) (w76 hw) (w73 hw) (w77 hw) (by decide) (hb hby at_368) (by rw [hml]; rfl) [(.int (4 : Int32)), (.int (4 : Int32)), (.int c32)] (lenOf pd4 rfl) rfl rfl (Nat.le_of_ble_eq_true rfl) (Nat.le_of_ble_eq_true rfl) (Nat.le_of_ble_eq_true rfl) (Nat.le_of_ble_eq_true rfl) ?_
                intro v215 T215 V215 h215 S215 C215 q215
                obtain ⟨rfl, rfl⟩ := q215
                show Go p e below _ (T215.setTop (mkF m 371 #[.val (.int len), .val (.long la), .second, .val (.long lb), .second, .val (.int (4 : Int32)), .val (.int c28), .val (.int c29), .val (.int c30), .val (.int c31), .val (.int c32), .val (.int c33), .val (.ref b176), .val (.ref b183), .val (.int got194), .unset] [(.int (1 : Int32))]))
                refine s_ifN S215 (hb hby at_371) (by decide) (pc' := 374) rfl ?_
                refine s_iconst S215 (hb hby at_374) (v := (5 : Int32)) rfl (pc' := 375) rfl ?_
                refine s_iload S215 (hb hby at_375) rfl (pc' := 377) rfl ?_
                refine s_iload S215 (hb hby at_377) rfl (pc' := 379) rfl ?_
                show Go p e below _ (T215.setTop (mkF m 379 #[.val (.int len), .val (.long la), .second, .val (.long lb), .second, .val (.int (4 : Int32)), .val (.int c28), .val (.int c29), .val (.int c30), .val (.int c31), .val (.int c32), .val (.int c33), .val (.ref b176), .val (.ref b183), .val (.int got194), .unset] [(.int c33), (.int (4 : Int32)), (.int (5 : Int32))]))
                refine g_static S215 (rmFO X c33 S215.old (by decide)) (fun _ q => nomatch q) (w75 hw) (w76 hw) (w73 hw) (w77 hw) (by decide) (hb hby at_379) (by rw [hml]; rfl) [(.int (5 : Int32)), (.int (4 : Int32)), (.int c33)] (lenOf pd4 rfl) rfl rfl (Nat.le_of_ble_eq_true rfl) (Nat.le_of_ble_eq_true rfl) (Nat.le_of_ble_eq_true rfl) (Nat.le_of_ble_eq_true rfl) ?_
                intro v216 T216 V216 h216 S216 C216 q216
                obtain ⟨rfl, rfl⟩ := q216
                show Go p e below _ (T216.setTop (mkF m 382 #[.val (.int len), .val (.long la), .second, .val (.long lb), .second, .val (.int (4 : Int32)), .val (.int c28), .val (.int c29), .val (.int c30), .val (.int c31), .val (.int c32), .val (.int c33), .val (.ref b176), .val (.ref b183), .val (.int got194), .unset] [(.int (1 : Int32))]))
                refine s_ifN S216 (hb hby at_382) (by decide) (pc' := 385) rfl ?_
                refine s_iconst S216 (hb hby at_385) (v := (1 : Int32)) rfl (pc' := 386) rfl ?_
                refine s_iload S216 (hb hby at_386) rfl (pc' := 388) rfl ?_
                refine s_iload S216 (hb hby at_388) rfl (pc' := 390) rfl ?_
                refine s_iload S216 (hb hby at_390) rfl (pc' := 392) rfl ?_
                show Go p e below _ (T216.setTop (mkF m 392 #[.val (.int len), .val (.long la), .second, .val (.long lb), .second, .val (.int (4 : Int32)), .val (.int c28), .val (.int c29), .val (.int c30), .val (.int c31), .val (.int c32), .val (.int c33), .val (.ref b176), .val (.ref b183), .val (.int got194), .unset] [(.int c29), (.int c28), (.int (4 : Int32)), (.int (1 : Int32))]))
                refine g_static S216 (rmNP X c28 c29 S216.old (by decide)) (fun _ q => nomatch q) (w78 hw) (w79 hw) (w73 hw) (w80 hw) (by decide) (hb hby at_392) (by rw [hml]; rfl) [(.int (1 : Int32)), (.int (4 : Int32)), (.int c28), (.int c29)] (lenOf pd5 rfl) rfl rfl (Nat.le_of_ble_eq_true rfl) (Nat.le_of_ble_eq_true rfl) (Nat.le_of_ble_eq_true rfl) (Nat.le_of_ble_eq_true rfl) ?_
                intro v218 T218 V218 h218 S218 C218 q218
                obtain ⟨r217, rfl, hr217, rfl⟩ := q218
                rcases hr217 with ⟨rfl, hr217⟩ | ⟨rfl, hr217⟩
                · skip
                  show Go p e below _ (T218.setTop (mkF m 395 #[.val (.int len), .val (.long la), .second, .val (.long lb), .second, .val (.int (4 : Int32)), .val (.int c28), .val (.int c29), .val (.int c30), .val (.int c31), .val (.int c32), .val (.int c33), .val (.ref b176), .val (.ref b183), .val (.int got194), .unset] [(.int (1 : Int32))]))
                  refine s_ifN S218 (hb hby at_395) (by decide) (pc' := 398) rfl ?_
                  refine s_iconst S218 (hb hby at_398) (v := (2 : Int32)) rfl (pc' := 399) rfl ?_
                  refine s_iload S218 (hb hby at_399) rfl (pc' := 401) rfl ?_
                  refine s_iload S218 (hb hby at_401) rfl (pc' := 403) rfl ?_
                  refine s_iload S218 (hb hby at_403) rfl (pc' := 405) rfl ?_
                  show Go p e below _ (T218.setTop (mkF m 405 #[.val (.int len), .val (.long la), .second, .val (.long lb), .second, .val (.int (4 : Int32)), .val (.int c28), .val (.int c29), .val (.int c30), .val (.int c31), .val (.int c32), .val (.int c33), .val (.ref b176), .val (.ref b183), .val (.int got194), .unset] [(.int c30), (.int c29), (.int (4 : Int32)), (.int (2 : Int32))]))
                  refine g_static S218 (rmNP X c29 c30 S218.old (by decide)) (fun _ q => nomatch q) (w78 hw) (w79 hw) (w73 hw) (w80 hw) (by decide) (hb hby at_405) (by rw [hml]; rfl) [(.int (2 : Int32)), (.int (4 : Int32)), (.int c29), (.int c30)] (lenOf pd5 rfl) rfl rfl (Nat.le_of_ble_eq_true rfl) (Nat.le_of_ble_eq_true rfl) (Nat.le_of_ble_eq_true rfl) (Nat.le_of_ble_eq_true rfl) ?_
                  intro v220 T220 V220 h220 S220 C220 q220
                  obtain ⟨r219, rfl, hr219, rfl⟩ := q220
                  rcases hr219 with ⟨rfl, hr219⟩ | ⟨rfl, hr219⟩
                  · skip
                    show Go p e below _ (T220.setTop (mkF m 408 #[.val (.int len), .val (.long la), .second, .val (.long lb), .second, .val (.int (4 : Int32)), .val (.int c28), .val (.int c29), .val (.int c30), .val (.int c31), .val (.int c32), .val (.int c33), .val (.ref b176), .val (.ref b183), .val (.int got194), .unset] [(.int (1 : Int32))]))
                    refine s_ifN S220 (hb hby at_408) (by decide) (pc' := 411) rfl ?_
                    refine s_iconst S220 (hb hby at_411) (v := (3 : Int32)) rfl (pc' := 412) rfl ?_
                    refine s_iload S220 (hb hby at_412) rfl (pc' := 414) rfl ?_
                    refine s_iload S220 (hb hby at_414) rfl (pc' := 416) rfl ?_
                    refine s_iload S220 (hb hby at_416) rfl (pc' := 418) rfl ?_
                    show Go p e below _ (T220.setTop (mkF m 418 #[.val (.int len), .val (.long la), .second, .val (.long lb), .second, .val (.int (4 : Int32)), .val (.int c28), .val (.int c29), .val (.int c30), .val (.int c31), .val (.int c32), .val (.int c33), .val (.ref b176), .val (.ref b183), .val (.int got194), .unset] [(.int c31), (.int c30), (.int (4 : Int32)), (.int (3 : Int32))]))
                    refine g_static S220 (rmNP X c30 c31 S220.old (by decide)) (fun _ q => nomatch q) (w78 hw) (w79 hw) (w73 hw) (w80 hw) (by decide) (hb hby at_418) (by rw [hml]; rfl) [(.int (3 : Int32)), (.int (4 : Int32)), (.int c30), (.int c31)] (lenOf pd5 rfl) rfl rfl (Nat.le_of_ble_eq_true rfl) (Nat.le_of_ble_eq_true rfl) (Nat.le_of_ble_eq_true rfl) (Nat.le_of_ble_eq_true rfl) ?_
                    intro v222 T222 V222 h222 S222 C222 q222
                    obtain ⟨r221, rfl, hr221, rfl⟩ := q222
                    rcases hr221 with ⟨rfl, hr221⟩ | ⟨rfl, hr221⟩
                    · skip
                      show Go p e below _ (T222.setTop (mkF m 421 #[.val (.int len), .val (.long la), .second, .val (.long lb), .second, .val (.int (4 : Int32)), .val (.int c28), .val (.int c29), .val (.int c30), .val (.int c31), .val (.int c32), .val (.int c33), .val (.ref b176), .val (.ref b183), .val (.int got194), .unset] [(.int (1 : Int32))]))
                      refine s_ifN S222 (hb hby at_421) (by decide) (pc' := 424) rfl ?_
                      refine s_iconst S222 (hb hby at_424) (v := (4 : Int32)) rfl (pc' := 425) rfl ?_
                      refine s_iload S222 (hb hby at_425) rfl (pc' := 427) rfl ?_
                      refine s_iload S222 (hb hby at_427) rfl (pc' := 429) rfl ?_
                      refine s_iload S222 (hb hby at_429) rfl (pc' := 431) rfl ?_
                      show Go p e below _ (T222.setTop (mkF m 431 #[.val (.int len), .val (.long la), .second, .val (.long lb), .second, .val (.int (4 : Int32)), .val (.int c28), .val (.int c29), .val (.int c30), .val (.int c31), .val (.int c32), .val (.int c33), .val (.ref b176), .val (.ref b183), .val (.int got194), .unset] [(.int c32), (.int c31), (.int (4 : Int32)), (.int (4 : Int32))]))
                      refine g_static S222 (rmNO X c31 c32 S222.old (by decide)) (fun _ q => nomatch q) (w78 hw) (w79 hw) (w73 hw) (w80 hw) (by decide) (hb hby at_431) (by rw [hml]; rfl) [(.int (4 : Int32)), (.int (4 : Int32)), (.int c31), (.int c32)] (lenOf pd5 rfl) rfl rfl (Nat.le_of_ble_eq_true rfl) (Nat.le_of_ble_eq_true rfl) (Nat.le_of_ble_eq_true rfl) (Nat.le_of_ble_eq_true rfl) ?_
                      intro v223 T223 V223 h223 S223 C223 q223
                      obtain ⟨rfl, rfl⟩ := q223
                      show Go p e below _ (T223.setTop (mkF m 434 #[.val (.int len), .val (.long la), .second, .val (.long lb), .second, .val (.int (4 : Int32)), .val (.int c28), .val (.int c29), .val (.int c30), .val (.int c31), .val (.int c32), .val (.int c33), .val (.ref b176), .val (.ref b183), .val (.int got194), .unset] [(.int (1 : Int32))]))
                      refine s_ifN S223 (hb hby at_434) (by decide) (pc' := 437) rfl ?_
                      refine s_iconst S223 (hb hby at_437) (v := (5 : Int32)) rfl (pc' := 438) rfl ?_
                      refine s_iload S223 (hb hby at_438) rfl (pc' := 440) rfl ?_
                      refine s_iload S223 (hb hby at_440) rfl (pc' := 442) rfl ?_
                      refine s_iload S223 (hb hby at_442) rfl (pc' := 444) rfl ?_
                      show Go p e below _ (T223.setTop (mkF m 444 #[.val (.int len), .val (.long la), .second, .val (.long lb), .second, .val (.int (4 : Int32)), .val (.int c28), .val (.int c29), .val (.int c30), .val (.int c31), .val (.int c32), .val (.int c33), .val (.ref b176), .val (.ref b183), .val (.int got194), .unset] [(.int c33), (.int c32), (.int (4 : Int32)), (.int (5 : Int32))]))
                      refine g_static S223 (rmNO X c32 c33 S223.old (by decide)) (fun _ q => nomatch q) (w78 hw) (w79 hw) (w73 hw) (w80 hw) (by decide) (hb hby at_444) (by rw [hml]; rfl) [(.int (5 : Int32)), (.int (4 : Int32)), (.int c32), (.int c33)] (lenOf pd5 rfl) rfl rfl (Nat.le_of_ble_eq_true rfl) (Nat.le_of_ble_eq_true rfl) (Nat.le_of_ble_eq_true rfl) (Nat.le_of_ble_eq_true rfl) ?_
                      intro v224 T224 V224 h224 S224 C224 q224
                      obtain ⟨rfl, rfl⟩ := q224
                      show Go p e below _ (T224.setTop (mkF m 447 #[.val (.int len), .val (.long la), .second, .val (.long lb), .second, .val (.int (4 : Int32)), .val (.int c28), .val (.int c29), .val (.int c30), .val (.int c31), .val (.int c32), .val (.int c33), .val (.ref b176), .val (.ref b183), .val (.int got194), .unset] [(.int (1 : Int32))]))
                      refine s_ifN S224 (hb hby at_447) (by decide) (pc' := 450) rfl ?_
                      refine s_iconst S224 (hb hby at_450) (v := (1 : Int32)) rfl (pc' := 451) rfl ?_
                      refine s_goto S224 (hb hby at_451) (by decide) (pcT := 455) (by decide) ?_
                      exact K195 _ _ S224 _ (Or.inl ⟨rfl, hr203, hr205, hr207, hr209, hr211, hr213, hr217, hr219, hr221⟩)
                    · skip
                      show Go p e below _ (T222.setTop (mkF m 421 #[.val (.int len), .val (.long la), .second, .val (.long lb), .second, .val (.int (4 : Int32)), .val (.int c28), .val (.int c29), .val (.int c30), .val (.int c31), .val (.int c32), .val (.int c33), .val (.ref b176), .val (.ref b183), .val (.int got194), .unset] [(.int (0 : Int32))]))
                      refine s_ifY S222 (hb hby at_421) (by decide) (by decide) (pcT := 454) (by decide) ?_
                      refine s_iconst S222 (hb hby at_454) (v := (0 : Int32)) rfl (pc' := 455) rfl ?_
                      exact K195 _ _ S222 _ (Or.inr ⟨rfl, fun q => hr221 q.2.2.2.2.2.2.2.2⟩)
                  · skip
                    show Go p e below _ (T220.setTop (mkF m 408 #[.val (.int len), .val (.long la), .second, .val (.long lb), .second, .val (.int (4 : Int32)), .val (.int c28), .val (.int c29), .val (.int c30), .val (.int c31), .val (.int c32), .val (.int c33), .val (.ref b176), .val (.ref b183), .val (.int got194), .unset] [(.int (0 : Int32))]))
                    refine s_ifY S220 (hb hby at_408) (by decide) (by decide) (pcT := 454) (by decide) ?_
                    refine s_iconst S220 (hb hby at_454) (v := (0 : Int32)) rfl (pc' := 455) rfl ?_
                    exact K195 _ _ S220 _ (Or.inr ⟨rfl, fun q => hr219 q.2.2.2.2.2.2.2.1⟩)
                · skip
                  show Go p e below _ (T218.setTop (mkF m 395 #[.val (.int len), .val (.long la), .second, .val (.long lb), .second, .val (.int (4 : Int32)), .val (.int c28), .val (.int c29), .val (.int c30), .val (.int c31), .val (.int c32), .val (.int c33), .val (.ref b176), .val (.ref b183), .val (.int got194), .unset] [(.int (0 : Int32))]))
                  refine s_ifY S218 (hb hby at_395) (by decide) (by decide) (pcT := 454) (by decide) ?_
                  refine s_iconst S218 (hb hby at_454) (v := (0 : Int32)) rfl (pc' := 455) rfl ?_
                  exact K195 _ _ S218 _ (Or.inr ⟨rfl, fun q => hr217 q.2.2.2.2.2.2.1⟩)
              · skip
                show Go p e below _ (T214.setTop (mkF m 360 #[.val (.int len), .val (.long la), .second, .val (.long lb), .second, .val (.int (4 : Int32)), .val (.int c28), .val (.int c29), .val (.int c30), .val (.int c31), .val (.int c32), .val (.int c33), .val (.ref b176), .val (.ref b183), .val (.int got194), .unset] [(.int (0 : Int32))]))
                refine s_ifY S214 (hb hby at_360) (by decide) (by decide) (pcT := 454) (by decide) ?_
                refine s_iconst S214 (hb hby at_454) (v := (0 : Int32)) rfl (pc' := 455) rfl ?_
                exact K195 _ _ S214 _ (Or.inr ⟨rfl, fun q => hr213 q.2.2.2.2.2.1⟩)
            · skip
              show Go p e below _ (T212.setTop (mkF m 349 #[.val (.int len), .val (.long la), .second, .val (.long lb), .second, .val (.int (4 : Int32)), .val (.int c28), .val (.int c29), .val (.int c30), .val (.int c31), .val (.int c32), .val (.int c33), .val (.ref b176), .val (.ref b183), .val (.int got194), .unset] [(.int (0 : Int32))]))
              refine s_ifY S212 (hb hby at_349) (by decide) (by decide) (pcT := 454) (by decide) ?_
              refine s_iconst S212 (hb hby at_454) (v := (0 : Int32)) rfl (pc' := 455) rfl ?_
              exact K195 _ _ S212 _ (Or.inr ⟨rfl, fun q => hr211 q.2.2.2.2.1⟩)
          · skip
            show Go p e below _ (T210.setTop (mkF m 338 #[.val (.int len), .val (.long la), .second, .val (.long lb), .second, .val (.int (4 : Int32)), .val (.int c28), .val (.int c29), .val (.int c30), .val (.int c31), .val (.int c32), .val (.int c33), .val (.ref b176), .val (.ref b183), .val (.int got194), .unset] [(.int (0 : Int32))]))
            refine s_ifY S210 (hb hby at_338) (by decide) (by decide) (pcT := 454) (by decide) ?_
            refine s_iconst S210 (hb hby at_454) (v := (0 : Int32)) rfl (pc' := 455) rfl ?_
            exact K195 _ _ S210 _ (Or.inr ⟨rfl, fun q => hr209 q.2.2.2.1⟩)
        · skip
          show Go p e below _ (T208.setTop (mkF m 327 #[.val (.int len), .val (.long la), .second, .val (.long lb), .second, .val (.int (4 : Int32)), .val (.int c28), .val (.int c29), .val (.int c30), .val (.int c31), .val (.int c32), .val (.int c33), .val (.ref b176), .val (.ref b183), .val (.int got194), .unset] [(.int (0 : Int32))]))
          refine s_ifY S208 (hb hby at_327) (by decide) (by decide) (pcT := 454) (by decide) ?_
          refine s_iconst S208 (hb hby at_454) (v := (0 : Int32)) rfl (pc' := 455) rfl ?_
          exact K195 _ _ S208 _ (Or.inr ⟨rfl, fun q => hr207 q.2.2.1⟩)
      · skip
        show Go p e below _ (T206.setTop (mkF m 316 #[.val (.int len), .val (.long la), .second, .val (.long lb), .second, .val (.int (4 : Int32)), .val (.int c28), .val (.int c29), .val (.int c30), .val (.int c31), .val (.int c32), .val (.int c33), .val (.ref b176), .val (.ref b183), .val (.int got194), .unset] [(.int (0 : Int32))]))
        refine s_ifY S206 (hb hby at_316) (by decide) (by decide) (pcT := 454) (by decide) ?_
        refine s_iconst S206 (hb hby at_454) (v := (0 : Int32)) rfl (pc' := 455) rfl ?_
        exact K195 _ _ S206 _ (Or.inr ⟨rfl, fun q => hr205 q.2.1⟩)
    · skip
      show Go p e below _ (T204.setTop (mkF m 303 #[.val (.int len), .val (.long la), .second, .val (.long lb), .second, .val (.int (4 : Int32)), .val (.int c28), .val (.int c29), .val (.int c30), .val (.int c31), .val (.int c32), .val (.int c33), .val (.ref b176), .val (.ref b183), .val (.int got194), .unset] [(.int (0 : Int32))]))
      refine s_ifY S204 (hb hby at_303) (by decide) (by decide) (pcT := 454) (by decide) ?_
      refine s_iconst S204 (hb hby at_454) (v := (0 : Int32)) rfl (pc' := 455) rfl ?_
      exact K195 _ _ S204 _ (Or.inr ⟨rfl, fun q => hr203 q.1⟩)
  · skip
    show Go p e below _ (T0.setTop (mkF m 75 #[.val (.int len), .val (.long la), .second, .val (.long lb), .second, .val (.int (5 : Int32)), .val (.int c28), .val (.int c29), .val (.int c30), .val (.int c31), .val (.int c32), .val (.int c33), .unset, .unset, .unset, .unset] []))
    refine s_bipush S0 (hb hby at_75) (v := (6 : Int32)) rfl (pc' := 77) rfl ?_
    refine g_newarr (aty := .char) S0 (w2 hw) (hb hby at_77) (by decide) (cap := 6) (by decide) (by decide) (Nat.le_of_ble_eq_true rfl) (Nat.le_of_ble_eq_true rfl) ?_
    intro T225 h225 b225 kc225 S225 E225 fr225 lt225 na225 sf225 A225
    have V225 : Arv Z h225 b225 kc225 .char (6 : Int32) [(.int (0 : Int32)), (.int (0 : Int32)), (.int (0 : Int32)), (.int (0 : Int32)), (.int (0 : Int32)), (.int (0 : Int32))] (.int (0 : Int32)) := A225 6
    show Go p e below _ (T225.setTop (mkF m 79 #[.val (.int len), .val (.long la), .second, .val (.long lb), .second, .val (.int (5 : Int32)), .val (.int c28), .val (.int c29), .val (.int c30), .val (.int c31), .val (.int c32), .val (.int c33), .unset, .unset, .unset, .unset] [(.ref b225)]))
    refine s_astore S225 (hb hby at_79) rfl (L' := #[.val (.int len), .val (.long la), .second, .val (.long lb), .second, .val (.int (5 : Int32)), .val (.int c28), .val (.int c29), .val (.int c30), .val (.int c31), .val (.int c32), .val (.int c33), .val (.ref b225), .unset, .unset, .unset]) rfl (pc' := 81) rfl ?_
    refine s_aload S225 (hb hby at_81) rfl rfl (pc' := 83) rfl ?_
    refine s_iconst S225 (hb hby at_83) (v := (0 : Int32)) rfl (pc' := 84) rfl ?_
    refine s_iload S225 (hb hby at_84) rfl (pc' := 86) rfl ?_
    refine g_castore S225 V225 ⟨by decide, by decide⟩ 0 rfl (Nat.le_of_ble_eq_true rfl) na225 (hb hby at_86) ?_
    intro T226 h226 S226 K226 V226
    rw [narC8 rc28] at V226
    have V226 : Arv Z h226 b225 kc225 .char (6 : Int32) [(.int c28), (.int (0 : Int32)), (.int (0 : Int32)), (.int (0 : Int32)), (.int (0 : Int32)), (.int (0 : Int32))] (.int (0 : Int32)) := V226
    show Go p e below _ (T226.setTop (mkF m 87 #[.val (.int len), .val (.long la), .second, .val (.long lb), .second, .val (.int (5 : Int32)), .val (.int c28), .val (.int c29), .val (.int c30), .val (.int c31), .val (.int c32), .val (.int c33), .val (.ref b225), .unset, .unset, .unset] []))
    refine s_aload S226 (hb hby at_87) rfl rfl (pc' := 89) rfl ?_
    refine s_iconst S226 (hb hby at_89) (v := (1 : Int32)) rfl (pc' := 90) rfl ?_
    refine s_iload S226 (hb hby at_90) rfl (pc' := 92) rfl ?_
    refine g_castore S226 V226 ⟨by decide, by decide⟩ 1 rfl (Nat.le_of_ble_eq_true rfl) na225 (hb hby at_92) ?_
    intro T227 h227 S227 K227 V227
    rw [narC8 rc29] at V227
    have V227 : Arv Z h227 b225 kc225 .char (6 : Int32) [(.int c28), (.int c29), (.int (0 : Int32)), (.int (0 : Int32)), (.int (0 : Int32)), (.int (0 : Int32))] (.int (0 : Int32)) := V227
    show Go p e below _ (T227.setTop (mkF m 93 #[.val (.int len), .val (.long la), .second, .val (.long lb), .second, .val (.int (5 : Int32)), .val (.int c28), .val (.int c29), .val (.int c30), .val (.int c31), .val (.int c32), .val (.int c33), .val (.ref b225), .unset, .unset, .unset] []))
    refine s_aload S227 (hb hby at_93) rfl rfl (pc' := 95) rfl ?_
    refine s_iconst S227 (hb hby at_95) (v := (2 : Int32)) rfl (pc' := 96) rfl ?_
    refine s_iload S227 (hb hby at_96) rfl (pc' := 98) rfl ?_
    refine g_castore S227 V227 ⟨by decide, by decide⟩ 2 rfl (Nat.le_of_ble_eq_true rfl) na225 (hb hby at_98) ?_
    intro T228 h228 S228 K228 V228
    rw [narC8 rc30] at V228
    have V228 : Arv Z h228 b225 kc225 .char (6 : Int32) [(.int c28), (.int c29), (.int c30), (.int (0 : Int32)), (.int (0 : Int32)), (.int (0 : Int32))] (.int (0 : Int32)) := V228
    show Go p e below _ (T228.setTop (mkF m 99 #[.val (.int len), .val (.long la), .second, .val (.long lb), .second, .val (.int (5 : Int32)), .val (.int c28), .val (.int c29), .val (.int c30), .val (.int c31), .val (.int c32), .val (.int c33), .val (.ref b225), .unset, .unset, .unset] []))
    refine s_aload S228 (hb hby at_99) rfl rfl (pc' := 101) rfl ?_
    refine s_iconst S228 (hb hby at_101) (v := (3 : Int32)) rfl (pc' := 102) rfl ?_
    refine s_iload S228 (hb hby at_102) rfl (pc' := 104) rfl ?_
    refine g_castore S228 V228 ⟨by decide, by decide⟩ 3 rfl (Nat.le_of_ble_eq_true rfl) na225 (hb hby at_104) ?_
    intro T229 h229 S229 K229 V229
    rw [narC8 rc31] at V229
    have V229 : Arv Z h229 b225 kc225 .char (6 : Int32) [(.int c28), (.int c29), (.int c30), (.int c31), (.int (0 : Int32)), (.int (0 : Int32))] (.int (0 : Int32)) := V229
    show Go p e below _ (T229.setTop (mkF m 105 #[.val (.int len), .val (.long la), .second, .val (.long lb), .second, .val (.int (5 : Int32)), .val (.int c28), .val (.int c29), .val (.int c30), .val (.int c31), .val (.int c32), .val (.int c33), .val (.ref b225), .unset, .unset, .unset] []))
    refine s_aload S229 (hb hby at_105) rfl rfl (pc' := 107) rfl ?_
    refine s_iconst S229 (hb hby at_107) (v := (4 : Int32)) rfl (pc' := 108) rfl ?_
    refine s_iload S229 (hb hby at_108) rfl (pc' := 110) rfl ?_
    refine g_castore S229 V229 ⟨by decide, by decide⟩ 4 rfl (Nat.le_of_ble_eq_true rfl) na225 (hb hby at_110) ?_
    intro T230 h230 S230 K230 V230
    rw [narC8 rc32] at V230
    have V230 : Arv Z h230 b225 kc225 .char (6 : Int32) [(.int c28), (.int c29), (.int c30), (.int c31), (.int c32), (.int (0 : Int32))] (.int (0 : Int32)) := V230
    show Go p e below _ (T230.setTop (mkF m 111 #[.val (.int len), .val (.long la), .second, .val (.long lb), .second, .val (.int (5 : Int32)), .val (.int c28), .val (.int c29), .val (.int c30), .val (.int c31), .val (.int c32), .val (.int c33), .val (.ref b225), .unset, .unset, .unset] []))
    refine s_aload S230 (hb hby at_111) rfl rfl (pc' := 113) rfl ?_
    refine s_iconst S230 (hb hby at_113) (v := (5 : Int32)) rfl (pc' := 114) rfl ?_
    refine s_iload S230 (hb hby at_114) rfl (pc' := 116) rfl ?_
    refine g_castore S230 V230 ⟨by decide, by decide⟩ 5 rfl (Nat.le_of_ble_eq_true rfl) na225 (hb hby at_116) ?_
    intro T231 h231 S231 K231 V231
    rw [narC8 rc33] at V231
    have V231 : Arv Z h231 b225 kc225 .char (6 : Int32) [(.int c28), (.int c29), (.int c30), (.int c31), (.int c32), (.int c33)] (.int (0 : Int32)) := V231
    show Go p e below _ (T231.setTop (mkF m 117 #[.val (.int len), .val (.long la), .second, .val (.long lb), .second, .val (.int (5 : Int32)), .val (.int c28), .val (.int c29), .val (.int c30), .val (.int c31), .val (.int c32), .val (.int c33), .val (.ref b225), .unset, .unset, .unset] []))
    refine s_iload S231 (hb hby at_117) rfl (pc' := 119) rfl ?_
    refine s_ifY S231 (hb hby at_119) (by decide) (by decide) (pcT := 130) (by decide) ?_
    refine s_iload S231 (hb hby at_130) rfl (pc' := 132) rfl ?_
    refine s_iconst S231 (hb hby at_132) (v := (1 : Int32)) rfl (pc' := 133) rfl ?_
    refine s_icmpY S231 (hb hby at_133) (by decide) (by decide) (pcT := 144) (by decide) ?_
    refine s_iload S231 (hb hby at_144) rfl (pc' := 146) rfl ?_
    refine s_iconst S231 (hb hby at_146) (v := (2 : Int32)) rfl (pc' := 147) rfl ?_
    refine s_icmpY S231 (hb hby at_147) (by decide) (by decide) (pcT := 158) (by decide) ?_
    refine s_iload S231 (hb hby at_158) rfl (pc' := 160) rfl ?_
    refine s_iconst S231 (hb hby at_160) (v := (3 : Int32)) rfl (pc' := 161) rfl ?_
    refine s_icmpY S231 (hb hby at_161) (by decide) (by decide) (pcT := 172) (by decide) ?_
    refine s_iload S231 (hb hby at_172) rfl (pc' := 174) rfl ?_
    refine s_iconst S231 (hb hby at_174) (v := (4 : Int32)) rfl (pc' := 175) rfl ?_
    refine s_icmpY S231 (hb hby at_175) (by decide) (by decide) (pcT := 186) (by decide) ?_
    refine s_iload S231 (hb hby at_186) rfl (pc' := 188) rfl ?_
    refine s_iconst S231 (hb hby at_188) (v := (5 : Int32)) rfl (pc' := 189) rfl ?_
    refine s_icmpN S231 (hb hby at_189) (by decide) (pc' := 192) rfl ?_
    refine s_iconst S231 (hb hby at_192) (v := (5 : Int32)) rfl (pc' := 193) rfl ?_
    refine g_newarr (aty := .char) S231 (w2 hw) (hb hby at_193) (by decide) (cap := 5) (by decide) (by decide) (Nat.le_of_ble_eq_true rfl) (Nat.le_of_ble_eq_true rfl) ?_
    intro T232 h232 b232 kc232 S232 E232 fr232 lt232 na232 sf232 A232
    have V232 : Arv Z h232 b232 kc232 .char (5 : Int32) [(.int (0 : Int32)), (.int (0 : Int32)), (.int (0 : Int32)), (.int (0 : Int32)), (.int (0 : Int32))] (.int (0 : Int32)) := A232 5
    show Go p e below _ (T232.setTop (mkF m 195 #[.val (.int len), .val (.long la), .second, .val (.long lb), .second, .val (.int (5 : Int32)), .val (.int c28), .val (.int c29), .val (.int c30), .val (.int c31), .val (.int c32), .val (.int c33), .val (.ref b225), .unset, .unset, .unset] [(.ref b232)]))
    refine s_astore S232 (hb hby at_195) rfl (L' := #[.val (.int len), .val (.long la), .second, .val (.long lb), .second, .val (.int (5 : Int32)), .val (.int c28), .val (.int c29), .val (.int c30), .val (.int c31), .val (.int c32), .val (.int c33), .val (.ref b225), .val (.ref b232), .unset, .unset]) rfl (pc' := 197) rfl ?_
    refine s_goto S232 (hb hby at_197) (by decide) (pcT := 206) (by decide) ?_
    refine s_iload S232 (hb hby at_206) rfl (pc' := 208) rfl ?_
    refine s_ifN S232 (hb hby at_208) (by decide) (pc' := 211) rfl ?_
    refine s_aload S232 (hb hby at_211) rfl rfl (pc' := 213) rfl ?_
    refine s_iconst S232 (hb hby at_213) (v := (0 : Int32)) rfl (pc' := 214) rfl ?_
    refine s_iload S232 (hb hby at_214) rfl (pc' := 216) rfl ?_
    refine g_castore S232 V232 ⟨by decide, by decide⟩ 0 rfl (Nat.le_of_ble_eq_true rfl) na232 (hb hby at_216) ?_
    intro T233 h233 S233 K233 V233
    rw [narC8 rc28] at V233
    have V233 : Arv Z h233 b232 kc232 .char (5 : Int32) [(.int c28), (.int (0 : Int32)), (.int (0 : Int32)), (.int (0 : Int32)), (.int (0 : Int32))] (.int (0 : Int32)) := V233
    show Go p e below _ (T233.setTop (mkF m 217 #[.val (.int len), .val (.long la), .second, .val (.long lb), .second, .val (.int (5 : Int32)), .val (.int c28), .val (.int c29), .val (.int c30), .val (.int c31), .val (.int c32), .val (.int c33), .val (.ref b225), .val (.ref b232), .unset, .unset] []))
    refine s_iload S233 (hb hby at_217) rfl (pc' := 219) rfl ?_
    refine s_iconst S233 (hb hby at_219) (v := (1 : Int32)) rfl (pc' := 220) rfl ?_
    refine s_icmpN S233 (hb hby at_220) (by decide) (pc' := 223) rfl ?_
    refine s_aload S233 (hb hby at_223) rfl rfl (pc' := 225) rfl ?_
    refine s_iconst S233 (hb hby at_225) (v := (1 : Int32)) rfl (pc' := 226) rfl ?_
    refine s_iload S233 (hb hby at_226) rfl (pc' := 228) rfl ?_
    refine g_castore S233 V233 ⟨by decide, by decide⟩ 1 rfl (Nat.le_of_ble_eq_true rfl) na232 (hb hby at_228) ?_
    intro T234 h234 S234 K234 V234
    rw [narC8 rc29] at V234
    have V234 : Arv Z h234 b232 kc232 .char (5 : Int32) [(.int c28), (.int c29), (.int (0 : Int32)), (.int (0 : Int32)), (.int (0 : Int32))] (.int (0 : Int32)) := V234
    show Go p e below _ (T234.setTop (mkF m 229 #[.val (.int len), .val (.long la), .second, .val (.long lb), .second, .val (.int (5 : Int32)), .val (.int c28), .val (.int c29), .val (.int c30), .val (.int c31), .val (.int c32), .val (.int c33), .val (.ref b225), .val (.ref b232), .unset, .unset] []))
    refine s_iload S234 (hb hby at_229) rfl (pc' := 231) rfl ?_
    refine s_iconst S234 (hb hby at_231) (v := (2 : Int32)) rfl (pc' := 232) rfl ?_
    refine s_icmpN S234 (hb hby at_232) (by decide) (pc' := 235) rfl ?_
    refine s_aload S234 (hb hby at_235) rfl rfl (pc' := 237) rfl ?_
    refine s_iconst S234 (hb hby at_237) (v := (2 : Int32)) rfl (pc' := 238) rfl ?_
    refine s_iload S234 (hb hby at_238) rfl (pc' := 240) rfl ?_
    refine g_castore S234 V234 ⟨by decide, by decide⟩ 2 rfl (Nat.le_of_ble_eq_true rfl) na232 (hb hby at_240) ?_
    intro T235 h235 S235 K235 V235
    rw [narC8 rc30] at V235
    have V235 : Arv Z h235 b232 kc232 .char (5 : Int32) [(.int c28), (.int c29), (.int c30), (.int (0 : Int32)), (.int (0 : Int32))] (.int (0 : Int32)) := V235
    show Go p e below _ (T235.setTop (mkF m 241 #[.val (.int len), .val (.long la), .second, .val (.long lb), .second, .val (.int (5 : Int32)), .val (.int c28), .val (.int c29), .val (.int c30), .val (.int c31), .val (.int c32), .val (.int c33), .val (.ref b225), .val (.ref b232), .unset, .unset] []))
    refine s_iload S235 (hb hby at_241) rfl (pc' := 243) rfl ?_
    refine s_iconst S235 (hb hby at_243) (v := (3 : Int32)) rfl (pc' := 244) rfl ?_
    refine s_icmpN S235 (hb hby at_244) (by decide) (pc' := 247) rfl ?_
    refine s_aload S235 (hb hby at_247) rfl rfl (pc' := 249) rfl ?_
    refine s_iconst S235 (hb hby at_249) (v := (3 : Int32)) rfl (pc' := 250) rfl ?_
    refine s_iload S235 (hb hby at_250) rfl (pc' := 252) rfl ?_
    refine g_castore S235 V235 ⟨by decide, by decide⟩ 3 rfl (Nat.le_of_ble_eq_true rfl) na232 (hb hby at_252) ?_
    intro T236 h236 S236 K236 V236
    rw [narC8 rc31] at V236
    have V236 : Arv Z h236 b232 kc232 .char (5 : Int32) [(.int c28), (.int c29), (.int c30), (.int c31), (.int (0 : Int32))] (.int (0 : Int32)) := V236
    show Go p e below _ (T236.setTop (mkF m 253 #[.val (.int len), .val (.long la), .second, .val (.long lb), .second, .val (.int (5 : Int32)), .val (.int c28), .val (.int c29), .val (.int c30), .val (.int c31), .val (.int c32), .val (.int c33), .val (.ref b225), .val (.ref b232), .unset, .unset] []))
    refine s_iload S236 (hb hby at_253) rfl (pc' := 255) rfl ?_
    refine s_iconst S236 (hb hby at_255) (v := (4 : Int32)) rfl (pc' := 256) rfl ?_
    refine s_icmpN S236 (hb hby at_256) (by decide) (pc' := 259) rfl ?_
    refine s_aload S236 (hb hby at_259) rfl rfl (pc' := 261) rfl ?_
    refine s_iconst S236 (hb hby at_261) (v := (4 : Int32)) rfl (pc' := 262) rfl ?_
    refine s_iload S236 (hb hby at_262) rfl (pc' := 264) rfl ?_
    refine g_castore S236 V236 ⟨by decide, by decide⟩ 4 rfl (Nat.le_of_ble_eq_true rfl) na232 (hb hby at_264) ?_
    intro T237 h237 S237 K237 V237
    rw [narC8 rc32] at V237
    have V237 : Arv Z h237 b232 kc232 .char (5 : Int32) [(.int c28), (.int c29), (.int c30), (.int c31), (.int c32)] (.int (0 : Int32)) := V237
    show Go p e below _ (T237.setTop (mkF m 265 #[.val (.int len), .val (.long la), .second, .val (.long lb), .second, .val (.int (5 : Int32)), .val (.int c28), .val (.int c29), .val (.int c30), .val (.int c31), .val (.int c32), .val (.int c33), .val (.ref b225), .val (.ref b232), .unset, .unset] []))
    refine s_iload S237 (hb hby at_265) rfl (pc' := 267) rfl ?_
    refine s_iconst S237 (hb hby at_267) (v := (5 : Int32)) rfl (pc' := 268) rfl ?_
    refine s_icmpY S237 (hb hby at_268) (by decide) (by decide) (pcT := 277) (by decide) ?_
    refine g_new S237 (w3 hw) (w4 hw) (w5 hw) (hb hby at_277) (Nat.le_of_ble_eq_true rfl) (Nat.le_of_ble_eq_true rfl) ?_
    intro T238 h238 b238 S238 E238 fr238 lt238 na238 sf238 A238 D238
    have F239 : Fld Z h238 b238 "java/lang/String" "value" "[B" .null := D238 (Or.inr (w18 hw)) (ty := (.array .byte)) (by decide)
    have F240 : Fld Z h238 b238 "java/lang/String" "coder" "B" (.int (0 : Int32)) := D238 (Or.inr (w19 hw)) (ty := .byte) (by decide)
    show Go p e below _ (T238.setTop (mkF m 280 #[.val (.int len), .val (.long la), .second, .val (.long lb), .second, .val (.int (5 : Int32)), .val (.int c28), .val (.int c29), .val (.int c30), .val (.int c31), .val (.int c32), .val (.int c33), .val (.ref b225), .val (.ref b232), .unset, .unset] [(.ref b238)]))
    refine s_dup S238 (hb hby at_280) rfl (pc' := 281) rfl ?_
    refine s_aload S238 (hb hby at_281) rfl rfl (pc' := 283) rfl ?_
    show Go p e below _ (T238.setTop (mkF m 283 #[.val (.int len), .val (.long la), .second, .val (.long lb), .second, .val (.int (5 : Int32)), .val (.int c28), .val (.int c29), .val (.int c30), .val (.int c31), .val (.int c32), .val (.int c33), .val (.ref b225), .val (.ref b232), .unset, .unset] [(.ref b232), (.ref b238), (.ref b238)]))
    have V242 := V237.ext E238
    refine g_newStr S238 X (cs := [c28, c29, c30, c31, c32]) (Nat.le_of_ble_eq_true rfl) (Nat.le_of_ble_eq_true rfl) rfl na238 sf238 A238 F239 F240 V242 (faS rc28 (faS rc29 (faS rc30 (faS rc31 (faS rc32 fa0))))) (w6 hw) (hb hby at_283) (by rw [hml]; rfl) (Nat.le_of_ble_eq_true rfl) (Nat.le_of_ble_eq_true rfl) (Nat.le_of_ble_eq_true rfl) (Nat.le_of_ble_eq_true rfl) ?_
    intro T241 h241 S241 K241 F241
    show Go p e below _ (T241.setTop (mkF m 286 #[.val (.int len), .val (.long la), .second, .val (.long lb), .second, .val (.int (5 : Int32)), .val (.int c28), .val (.int c29), .val (.int c30), .val (.int c31), .val (.int c32), .val (.int c33), .val (.ref b225), .val (.ref b232), .unset, .unset] [(.ref b238)]))
    show Go p e below _ (T241.setTop (mkF m 286 #[.val (.int len), .val (.long la), .second, .val (.long lb), .second, .val (.int (5 : Int32)), .val (.int c28), .val (.int c29), .val (.int c30), .val (.int c31), .val (.int c32), .val (.int c33), .val (.ref b225), .val (.ref b232), .unset, .unset] [(.ref b238)]))
    refine g_static S241 (rmIM X S241.old F241 (faS rc28.2 (faS rc29.2 (faS rc30.2 (faS rc31.2 (faS rc32.2 fa0)))))) (fun _ q => nomatch q) (w24 hw) (w25 hw) (w26 hw) (w27 hw) (by decide) (hb hby at_286) (by rw [hml]; rfl) [(.ref b238)] (lenOf pd3 rfl) rfl rfl (Nat.le_of_ble_eq_true rfl) (Nat.le_of_ble_eq_true rfl) (Nat.le_of_ble_eq_true rfl) (Nat.le_of_ble_eq_true rfl) ?_
    intro v243 T243 V243 h243 S243 C243 q243
    obtain ⟨rfl, rfl⟩ := q243
    show Go p e below _ (T243.setTop (mkF m 289 #[.val (.int len), .val (.long la), .second, .val (.long lb), .second, .val (.int (5 : Int32)), .val (.int c28), .val (.int c29), .val (.int c30), .val (.int c31), .val (.int c32), .val (.int c33), .val (.ref b225), .val (.ref b232), .unset, .unset] [(.int (if imF false [c28, c29, c30, c31, c32] = true then (1 : Int32) else (0 : Int32)))]))
    generalize egot244 : (if imF false [c28, c29, c30, c31, c32] = true then (1 : Int32) else (0 : Int32)) = got244
    refine s_istore S243 (hb hby at_289) (L' := #[.val (.int len), .val (.long la), .second, .val (.long lb), .second, .val (.int (5 : Int32)), .val (.int c28), .val (.int c29), .val (.int c30), .val (.int c31), .val (.int c32), .val (.int c33), .val (.ref b225), .val (.ref b232), .val (.int got244), .unset]) rfl (pc' := 291) rfl ?_
    have X246 : Ext h231 h233 := ext_keep1 E232 K233 fr232
    have X247 : Ext h231 h234 := ext_keep1 X246 K234 fr232
    have X248 : Ext h231 h235 := ext_keep1 X247 K235 fr232
    have X249 : Ext h231 h236 := ext_keep1 X248 K236 fr232
    have X250 : Ext h231 h237 := ext_keep1 X249 K237 fr232
    have X251 : Ext h231 h238 := ext_trans X250 E238
    have X252 : Ext h231 h243 := ext_keep1 X251 K241 (Nat.le_trans X250.1 fr238)
    have V253 := V231.ext X252
    show Go p e below _ (T243.setTop (mkF m 291 #[.val (.int len), .val (.long la), .second, .val (.long lb), .second, .val (.int (5 : Int32)), .val (.int c28), .val (.int c29), .val (.int c30), .val (.int c31), .val (.int c32), .val (.int c33), .val (.ref b225), .val (.ref b232), .val (.int got244), .unset] []))
    have K245 : ∀ (T8 : State) (V8 : Vm), St p l e room_1 s m #[(.int len), (.long la), (.long lb)] below meth c Z a0 EL1 n0 "com/example/remora/remora/MethodsIsMethodNamePinLaw" T8 V8 h243 4 20 → ∀ wx : Int32, ((wx = 1 ∧ own_W5 c28 c29 c30 c31 c32) ∨ (wx = 0 ∧ ¬ own_W5 c28 c29 c30 c31 c32)) → Go p e below (Fini Z EL1 n0 s room_1 (fun v h' => v = some (.int 1) ∧ True)) (T8.setTop (mkF m 455 #[.val (.int len), .val (.long la), .second, .val (.long lb), .second, .val (.int (5 : Int32)), .val (.int c28), .val (.int c29), .val (.int c30), .val (.int c31), .val (.int c32), .val (.int c33), .val (.ref b225), .val (.ref b232), .val (.int got244), .unset] [(.int wx)])) := by
      intro T8 V8 S8 wx hwx
      obtain rfl : wx = got244 := by
        rw [← egot244]
        exact own_if (own_eq5 c28 c29 c30 c31 c32) hwx
      show Go p e below _ (T8.setTop (mkF m 455 #[.val (.int len), .val (.long la), .second, .val (.long lb), .second, .val (.int (5 : Int32)), .val (.int c28), .val (.int c29), .val (.int c30), .val (.int c31), .val (.int c32), .val (.int c33), .val (.ref b225), .val (.ref b232), .val (.int wx), .unset] [(.int wx)]))
      refine s_istore S8 (hb hby at_455) (L' := #[.val (.int len), .val (.long la), .second, .val (.long lb), .second, .val (.int (5 : Int32)), .val (.int c28), .val (.int c29), .val (.int c30), .val (.int c31), .val (.int c32), .val (.int c33), .val (.ref b225), .val (.ref b232), .val (.int wx), .val (.int wx)]) rfl (pc' := 457) rfl ?_
      refine s_iload S8 (hb hby at_457) rfl (pc' := 459) rfl ?_
      refine s_iload S8 (hb hby at_459) rfl (pc' := 461) rfl ?_
      refine s_icmpN S8 (hb hby at_461) (by simp [if_icmp.holds]) (pc' := 464) rfl ?_
      refine s_iconst S8 (hb hby at_464) (v := (1 : Int32)) rfl (pc' := 465) rfl ?_
      refine s_goto S8 (hb hby at_465) (by decide) (pcT := 469) (by decide) ?_
      exact g_iretN S8 (hb hby at_469) hret (by simp) ⟨rfl, trivial⟩
    refine s_iload S243 (hb hby at_291) rfl (pc' := 293) rfl ?_
    refine s_ifN S243 (hb hby at_293) (by decide) (pc' := 296) rfl ?_
    refine s_aload S243 (hb hby at_296) rfl rfl (pc' := 298) rfl ?_
    refine s_iconst S243 (hb hby at_298) (v := (0 : Int32)) rfl (pc' := 299) rfl ?_
    show Go p e below _ (T243.setTop (mkF m 299 #[.val (.int len), .val (.long la), .second, .val (.long lb), .second, .val (.int (5 : Int32)), .val (.int c28), .val (.int c29), .val (.int c30), .val (.int c31), .val (.int c32), .val (.int c33), .val (.ref b225), .val (.ref b232), .val (.int got244), .unset] [(.int (0 : Int32)), (.ref b225)]))
    refine g_caload S243 V253 ⟨by decide, by decide⟩ (x := c28) rfl (hb hby at_299) ?_
    show Go p e below _ (T243.setTop (mkF m 300 #[.val (.int len), .val (.long la), .second, .val (.long lb), .second, .val (.int (5 : Int32)), .val (.int c28), .val (.int c29), .val (.int c30), .val (.int c31), .val (.int c32), .val (.int c33), .val (.ref b225), .val (.ref b232), .val (.int got244), .unset] [(.int c28)]))
    show Go p e below _ (T243.setTop (mkF m 300 #[.val (.int len), .val (.long la), .second, .val (.long lb), .second, .val (.int (5 : Int32)), .val (.int c28), .val (.int c29), .val (.int c30), .val (.int c31), .val (.int c32), .val (.int c33), .val (.ref b225), .val (.ref b232), .val (.int got244), .unset] [(.int c28)]))
    refine g_static S243 (rmIL X c28 S243.old) (fun _ q => nomatch q) (w71 hw) (w72 hw) (w73 hw) (w74 hw) (by decide) (hb hby at_300) (by rw [hml]; rfl) [(.int c28)] (lenOf pd1 rfl) rfl rfl (Nat.le_of_ble_eq_true rfl) (Nat.le_of_ble_eq_true rfl) (Nat.le_of_ble_eq_true rfl) (Nat.le_of_ble_eq_true rfl) ?_
    intro v255 T255 V255 h255 S255 C255 q255
    obtain ⟨r254, rfl, hr254, rfl⟩ := q255
    rcases hr254 with ⟨rfl, hr254⟩ | ⟨rfl, hr254⟩
    · skip
      show Go p e below _ (T255.setTop (mkF m 303 #[.val (.int len), .val (.long la), .second, .val (.long lb), .second, .val (.int (5 : Int32)), .val (.int c28), .val (.int c29), .val (.int c30), .val (.int c31), .val (.int c32), .val (.int c33), .val (.ref b225), .val (.ref b232), .val (.int got244), .unset] [(.int (1 : Int32))]))
      refine s_ifN S255 (hb hby at_303) (by decide) (pc' := 306) rfl ?_
      refine s_aload S255 (hb hby at_306) rfl rfl (pc' := 308) rfl ?_
      refine s_iload S255 (hb hby at_308) rfl (pc' := 310) rfl ?_
      refine s_iconst S255 (hb hby at_310) (v := (1 : Int32)) rfl (pc' := 311) rfl ?_
      refine s_isub S255 (hb hby at_311) (z := (4 : Int32)) rfl (pc' := 312) rfl ?_
      show Go p e below _ (T255.setTop (mkF m 312 #[.val (.int len), .val (.long la), .second, .val (.long lb), .second, .val (.int (5 : Int32)), .val (.int c28), .val (.int c29), .val (.int c30), .val (.int c31), .val (.int c32), .val (.int c33), .val (.ref b225), .val (.ref b232), .val (.int got244), .unset] [(.int (4 : Int32)), (.ref b225)]))
      refine g_caload S255 V253 ⟨by decide, by decide⟩ (x := c32) rfl (hb hby at_312) ?_
      show Go p e below _ (T255.setTop (mkF m 313 #[.val (.int len), .val (.long la), .second, .val (.long lb), .second, .val (.int (5 : Int32)), .val (.int c28), .val (.int c29), .val (.int c30), .val (.int c31), .val (.int c32), .val (.int c33), .val (.ref b225), .val (.ref b232), .val (.int got244), .unset] [(.int c32)]))
      show Go p e below _ (T255.setTop (mkF m 313 #[.val (.int len), .val (.long la), .second, .val (.long lb), .second, .val (.int (5 : Int32)), .val (.int c28), .val (.int c29), .val (.int c30), .val (.int c31), .val (.int c32), .val (.int c33), .val (.ref b225), .val (.ref b232), .val (.int got244), .unset] [(.int c32)]))
      refine g_static S255 (rmIL X c32 S255.old) (fun _ q => nomatch q) (w71 hw) (w72 hw) (w73 hw) (w74 hw) (by decide) (hb hby at_313) (by rw [hml]; rfl) [(.int c32)] (lenOf pd1 rfl) rfl rfl (Nat.le_of_ble_eq_true rfl) (Nat.le_of_ble_eq_true rfl) (Nat.le_of_ble_eq_true rfl) (Nat.le_of_ble_eq_true rfl) ?_
      intro v257 T257 V257 h257 S257 C257 q257
      obtain ⟨r256, rfl, hr256, rfl⟩ := q257
      rcases hr256 with ⟨rfl, hr256⟩ | ⟨rfl, hr256⟩
      · skip
        show Go p e below _ (T257.setTop (mkF m 316 #[.val (.int len), .val (.long la), .second, .val (.long lb), .second, .val (.int (5 : Int32)), .val (.int c28), .val (.int c29), .val (.int c30), .val (.int c31), .val (.int c32), .val (.int c33), .val (.ref b225), .val (.ref b232), .val (.int got244), .unset] [(.int (1 : Int32))]))
        refine s_ifN S257 (hb hby at_316) (by decide) (pc' := 319) rfl ?_
        refine s_iconst S257 (hb hby at_319) (v := (0 : Int32)) rfl (pc' := 320) rfl ?_
        refine s_iload S257 (hb hby at_320) rfl (pc' := 322) rfl ?_
        refine s_iload S257 (hb hby at_322) rfl (pc' := 324) rfl ?_
        show Go p e below _ (T257.setTop (mkF m 324 #[.val (.int len), .val (.long la), .second, .val (.long lb), .second, .val (.int (5 : Int32)), .val (.int c28), .val (.int c29), .val (.int c30), .val (.int c31), .val (.int c32), .val (.int c33), .val (.ref b225), .val (.ref b232), .val (.int got244), .unset] [(.int c28), (.int (5 : Int32)), (.int (0 : Int32))]))
        refine g_static S257 (rmFI X c28 S257.old (by decide)) (fun _ q => nomatch q) (w75 hw) (w76 hw) (w73 hw) (w77 hw) (by decide) (hb hby at_324) (by rw [hml]; rfl) [(.int (0 : Int32)), (.int (5 : Int32)), (.int c28)] (lenOf pd4 rfl) rfl rfl (Nat.le_of_ble_eq_true rfl) (Nat.le_of_ble_eq_true rfl) (Nat.le_of_ble_eq_true rfl) (Nat.le_of_ble_eq_true rfl) ?_
        intro v259 T259 V259 h259 S259 C259 q259
        obtain ⟨r258, rfl, hr258, rfl⟩ := q259
        rcases hr258 with ⟨rfl, hr258⟩ | ⟨rfl, hr258⟩
        · skip
          show Go p e below _ (T259.setTop (mkF m 327 #[.val (.int len), .val (.long la), .second, .val (.long lb), .second, .val (.int (5 : Int32)), .val (.int c28), .val (.int c29), .val (.int c30), .val (.int c31), .val (.int c32), .val (.int c33), .val (.ref b225), .val (.ref b232), .val (.int got244), .unset] [(.int (1 : Int32))]))
          refine s_ifN S259 (hb hby at_327) (by decide) (pc' := 330) rfl ?_
          refine s_iconst S259 (hb hby at_330) (v := (1 : Int32)) rfl (pc' := 331) rfl ?_
          refine s_iload S259 (hb hby at_331) rfl (pc' := 333) rfl ?_
          refine s_iload S259 (hb hby at_333) rfl (pc' := 335) rfl ?_
          show Go p e below _ (T259.setTop (mkF m 335 #[.val (.int len), .val (.long la), .second, .val (.long lb), .second, .val (.int (5 : Int32)), .val (.int c28), .val (.int c29), .val (.int c30), .val (.int c31), .val (.int c32), .val (.int c33), .val (.ref b225), .val (.ref b232), .val (.int got244), .unset] [(.int c29), (.int (5 : Int32)), (.int (1 : Int32))]))
          refine g_static S259 (rmFI X c29 S259.old (by decide)) (fun _ q => nomatch q) (w75 hw) (w76 hw) (w73 hw) (w77 hw) (by decide) (hb hby at_335) (by rw [hml]; rfl) [(.int (1 : Int32)), (.int (5 : Int32)), (.int c29)] (lenOf pd4 rfl) rfl rfl (Nat.le_of_ble_eq_true rfl) (Nat.le_of_ble_eq_true rfl) (Nat.le_of_ble_eq_true rfl) (Nat.le_of_ble_eq_true rfl) ?_
          intro v261 T261 V261 h261 S261 C261 q261
          obtain ⟨r260, rfl, hr260, rfl⟩ := q261
          rcases hr260 with ⟨rfl, hr260⟩ | ⟨rfl, hr260⟩
          · skip
            show Go p e below _ (T261.setTop (mkF m 338 #[.val (.int len), .val (.long la), .second, .val (.long lb), .second, .val (.int (5 : Int32)), .val (.int c28), .val (.int c29), .val (.int c30), .val (.int c31), .val (.int c32), .val (.int c33), .val (.ref b225), .val (.ref b232), .val (.int got244), .unset] [(.int (1 : Int32))]))
            refine s_ifN S261 (hb hby at_338) (by decide) (pc' := 341) rfl ?_
            refine s_iconst S261 (hb hby at_341) (v := (2 : Int32)) rfl (pc' := 342) rfl ?_
            refine s_iload S261 (hb hby at_342) rfl (pc' := 344) rfl ?_
            refine s_iload S261 (hb hby at_344) rfl (pc' := 346) rfl ?_
            show Go p e below _ (T261.setTop (mkF m 346 #[.val (.int len), .val (.long la), .second, .val (.long lb), .second, .val (.int (5 : Int32)), .val (.int c28), .val (.int c29), .val (.int c30), .val (.int c31), .val (.int c32), .val (.int c33), .val (.ref b225), .val (.ref b232), .val (.int got244), .unset] [(.int c30), (.int (5 : Int32)), (.int (2 : Int32))]))
            refine g_static S261 (rmFI X c30 S261.old (by decide)) (fun _ q => nomatch q) (w75 hw) (w76 hw) (w73 hw) (w77 hw) (by decide) (hb hby at_346) (by rw [hml]; rfl) [(.int (2 : Int32)), (.int (5 : Int32)), (.int c30)] (lenOf pd4 rfl) rfl rfl (Nat.le_of_ble_eq_true rfl) (Nat.le_of_ble_eq_true rfl) (Nat.le_of_ble_eq_true rfl) (Nat.le_of_ble_eq_true rfl) ?_
            intro v263 T263 V263 h263 S263 C263 q263
            obtain ⟨r262, rfl, hr262, rfl⟩ := q263
            rcases hr262 with ⟨rfl, hr262⟩ | ⟨rfl, hr262⟩
            · skip
              show Go p e below _ (T263.setTop (mkF m 349 #[.val (.int len), .val (.long la), .second, .val (.long lb), .second, .val (.int (5 : Int32)), .val (.int c28), .val (.int c29), .val (.int c30), .val (.int c31), .val (.int c32), .val (.int c33), .val (.ref b225), .val (.ref b232), .val (.int got244), .unset] [(.int (1 : Int32))]))
              refine s_ifN S263 (hb hby at_349) (by decide) (pc' := 352) rfl ?_
              refine s_iconst S263 (hb hby at_352) (v := (3 : Int32)) rfl (pc' := 353) rfl ?_
              refine s_iload S263 (hb hby at_353) rfl (pc' := 355) rfl ?_
              refine s_iload S263 (hb hby at_355) rfl (pc' := 357) rfl ?_
              show Go p e below _ (T263.setTop (mkF m 357 #[.val (.int len), .val (.long la), .second, .val (.long lb), .second, .val (.int (5 : Int32)), .val (.int c28), .val (.int c29), .val (.int c30), .val (.int c31), .val (.int c32), .val (.int c33), .val (.ref b225), .val (.ref b232), .val (.int got244), .unset] [(.int c31), (.int (5 : Int32)), (.int (3 : Int32))]))
              refine g_static S263 (rmFI X c31 S263.old (by decide)) (fun _ q => nomatch q) (w75 hw) (w76 hw) (w73 hw) (w77 hw) (by decide) (hb hby at_357) (by rw [hml]; rfl) [(.int (3 : Int32)), (.int (5 : Int32)), (.int c31)] (lenOf pd4 rfl) rfl rfl (Nat.le_of_ble_eq_true rfl) (Nat.le_of_ble_eq_true rfl) (Nat.le_of_ble_eq_true rfl) (Nat.le_of_ble_eq_true rfl) ?_
              intro v265 T265 V265 h265 S265 C265 q265
              obtain ⟨r264, rfl, hr264, rfl⟩ := q265
              rcases hr264 with ⟨rfl, hr264⟩ | ⟨rfl, hr264⟩
              · skip
                show Go p e below _ (T265.setTop (mkF m 360 #[.val (.int len), .val (.long la), .second, .val (.long lb), .second, .val (.int (5 : Int32)), .val (.int c28), .val (.int c29), .val (.int c30), .val (.int c31), .val (.int c32), .val (.int c33), .val (.ref b225), .val (.ref b232), .val (.int got244), .unset] [(.int (1 : Int32))]))
                refine s_ifN S265 (hb hby at_360) (by decide) (pc' := 363) rfl ?_
                refine s_iconst S265 (hb hby at_363) (v := (4 : Int32)) rfl (pc' := 364) rfl ?_
                refine s_iload S265 (hb hby at_364) rfl (pc' := 366) rfl ?_
                refine s_iload S265 (hb hby at_366) rfl (pc' := 368) rfl ?_
                show Go p e below _ (T265.setTop (mkF m 368 #[.val (.int len), .val (.long la), .second, .val (.long lb), .second, .val (.int (5 : Int32)), .val (.int c28), .val (.int c29), .val (.int c30), .val (.int c31), .val (.int c32), .val (.int c33), .val (.ref b225), .val (.ref b232), .val (.int got244), .unset] [(.int c32), (.int (5 : Int32)), (.int (4 : Int32))]))
                refine g_static S265 (rmFI X c32 S265.old (by decide)) (fun _ q => nomatch q) (w75 hw) (w76 hw) (w73 hw) (w77 hw) (by decide) (hb hby at_368) (by rw [hml]; rfl) [(.int (4 : Int32)), (.int (5 : Int32)), (.int c32)] (lenOf pd4 rfl) rfl rfl (Nat.le_of_ble_eq_true rfl) (Nat.le_of_ble_eq_true rfl) (Nat.le_of_ble_eq_true rfl) (Nat.le_of_ble_eq_true rfl) ?_
                intro v267 T267 V267 h267 S267 C267 q267
                obtain ⟨r266, rfl, hr266, rfl⟩ := q267
                rcases hr266 with ⟨rfl, hr266⟩ | ⟨rfl, hr266⟩
                · skip
                  show Go p e below _ (T267.setTop (mkF m 371 #[.val (.int len), .val (.long la), .second, .val (.long lb), .second, .val (.int (5 : Int32)), .val (.int c28), .val (.int c29), .val (.int c30), .val (.int c31), .val (.int c32), .val (.int c33), .val (.ref b225), .val (.ref b232), .val (.int got244), .unset] [(.int (1 : Int32))]))
                  refine s_ifN S267 (hb hby at_371) (by decide) (pc' := 374) rfl ?_
                  refine s_iconst S267 (hb hby at_374) (v := (5 : Int32)) rfl (pc' := 375) rfl ?_
                  refine s_iload S267 (hb hby at_375) rfl (pc' := 377) rfl ?_
                  refine s_iload S267 (hb hby at_377) rfl (pc' := 379) rfl ?_
                  show Go p e below _ (T267.setTop (mkF m 379 #[.val (.int len), .val (.long la), .second, .val (.long lb), .second, .val (.int (5 : Int32)), .val (.int c28), .val (.int c29), .val (.int c30), .val (.int c31), .val (.int c32), .val (.int c33), .val (.ref b225), .val (.ref b232), .val (.int got244), .unset] [(.int c33), (.int (5 : Int32)), (.int (5 : Int32))]))
                  refine g_static S267 (rmFO X c33 S267.old (by decide)) (fun _ q => nomatch q) (w75 hw) (w76 hw) (w73 hw) (w77 hw) (by decide) (hb hby at_379) (by rw [hml]; rfl) [(.int (5 : Int32)), (.int (5 : Int32)), (.int c33)] (lenOf pd4 rfl) rfl rfl (Nat.le_of_ble_eq_true rfl) (Nat.le_of_ble_eq_true rfl) (Nat.le_of_ble_eq_true rfl) (Nat.le_of_ble_eq_true rfl) ?_
                  intro v268 T268 V268 h268 S268 C268 q268
                  obtain ⟨rfl, rfl⟩ := q268
                  show Go p e below _ (T268.setTop (mkF m 382 #[.val (.int len), .val (.long la), .second, .val (.long lb), .second, .val (.int (5 : Int32)), .val (.int c28), .val (.int c29), .val (.int c30), .val (.int c31), .val (.int c32), .val (.int c33), .val (.ref b225), .val (.ref b232), .val (.int got244), .unset] [(.int (1 : Int32))]))
                  refine s_ifN S268 (hb hby at_382) (by decide) (pc' := 385) rfl ?_
                  refine s_iconst S268 (hb hby at_385) (v := (1 : Int32)) rfl (pc' := 386) rfl ?_
                  refine s_iload S268 (hb hby at_386) rfl (pc' := 388) rfl ?_
                  refine s_iload S268 (hb hby at_388) rfl (pc' := 390) rfl ?_
                  refine s_iload S268 (hb hby at_390) rfl (pc' := 392) rfl ?_
                  show Go p e below _ (T268.setTop (mkF m 392 #[.val (.int len), .val (.long la), .second, .val (.long lb), .second, .val (.int (5 : Int32)), .val (.int c28), .val (.int c29), .val (.int c30), .val (.int c31), .val (.int c32), .val (.int c33), .val (.ref b225), .val (.ref b232), .val (.int got244), .unset] [(.int c29), (.int c28), (.int (5 : Int32)), (.int (1 : Int32))]))
                  refine g_static S268 (rmNP X c28 c29 S268.old (by decide)) (fun _ q => nomatch q) (w78 hw) (w79 hw) (w73 hw) (w80 hw) (by decide) (hb hby at_392) (by rw [hml]; rfl) [(.int (1 : Int32)), (.int (5 : Int32)), (.int c28), (.int c29)] (lenOf pd5 rfl) rfl rfl (Nat.le_of_ble_eq_true rfl) (Nat.le_of_ble_eq_true rfl) (Nat.le_of_ble_eq_true rfl) (Nat.le_of_ble_eq_true rfl) ?_
                  intro v270 T270 V270 h270 S270 C270 q270
                  obtain ⟨r269, rfl, hr269, rfl⟩ := q270
                  rcases hr269 with ⟨rfl, hr269⟩ | ⟨rfl, hr269⟩
                  · skip
                    show Go p e below _ (T270.setTop (mkF m 395 #[.val (.int len), .val (.long la), .second, .val (.long lb), .second, .val (.int (5 : Int32)), .val (.int c28), .val (.int c29), .val (.int c30), .val (.int c31), .val (.int c32), .val (.int c33), .val (.ref b225), .val (.ref b232), .val (.int got244), .unset] [(.int (1 : Int32))]))
                    refine s_ifN S270 (hb hby at_395) (by decide) (pc' := 398) rfl ?_
                    refine s_iconst S270 (hb hby at_398) (v := (2 : Int32)) rfl (pc' := 399) rfl ?_
                    refine s_iload S270 (hb hby at_399) rfl (pc' := 401) rfl ?_
                    refine s_iload S270 (hb hby at_401) rfl (pc' := 403) rfl ?_
                    refine s_iload S270 (hb hby at_403) rfl (pc' := 405) rfl ?_
                    show Go p e below _ (T270.setTop (mkF m 405 #[.val (.int len), .val (.long la), .second, .val (.long lb), .second, .val (.int (5 : Int32)), .val (.int c28), .val (.int c29), .val (.int c30), .val (.int c31), .val (.int c32), .val (.int c33), .val (.ref b225), .val (.ref b232), .val (.int got244), .unset] [(.int c30), (.int c29), (.int (5 : Int32)), (.int (2 : Int32))]))
                    refine g_static S270 (rmNP X c29 c30 S270.old (by decide)) (fun _ q => nomatch q) (w78 hw) (w79 hw) (w73 hw) (w80 hw) (by decide) (hb hby at_405) (by rw [hml]; rfl) [(.int (2 : Int32)), (.int (5 : Int32)), (.int c29), (.int c30)] (lenOf pd5 rfl) rfl rfl (Nat.le_of_ble_eq_true rfl) (Nat.le_of_ble_eq_true rfl) (Nat.le_of_ble_eq_true rfl) (Nat.le_of_ble_eq_true rfl) ?_
                    intro v272 T272 V272 h272 S272 C272 q272
                    obtain ⟨r271, rfl, hr271, rfl⟩ := q272
                    rcases hr271 with ⟨rfl, hr271⟩ | ⟨rfl, hr271⟩
                    · skip
                      show Go p e below _ (T272.setTop (mkF m 408 #[.val (.int len), .val (.long la), .second, .val (.long lb), .second, .val (.int (5 : Int32)), .val (.int c28), .val (.int c29), .val (.int c30), .val (.int c31), .val (.int c32), .val (.int c33), .val (.ref b225), .val (.ref b232), .val (.int got244), .unset] [(.int (1 : Int32))]))
                      refine s_ifN S272 (hb hby at_408) (by decide) (pc' := 411) rfl ?_
                      refine s_iconst S272 (hb hby at_411) (v := (3 : Int32)) rfl (pc' := 412) rfl ?_
                      refine s_iload S272 (hb hby at_412) rfl (pc' := 414) rfl ?_
                      refine s_iload S272 (hb hby at_414) rfl (pc' := 416) rfl ?_
                      refine s_iload S272 (hb hby at_416) rfl (pc' := 418) rfl ?_
                      show Go p e below _ (T272.setTop (mkF m 418 #[.val (.int len), .val (.long la), .second, .val (.long lb), .second, .val (.int (5 : Int32)), .val (.int c28), .val (.int c29), .val (.int c30), .val (.int c31), .val (.int c32), .val (.int c33), .val (.ref b225), .val (.ref b232), .val (.int got244), .unset] [(.int c31), (.int c30), (.int (5 : Int32)), (.int (3 : Int32))]))
                      refine g_static S272 (rmNP X c30 c31 S272.old (by decide)) (fun _ q => nomatch q) (w78 hw) (w79 hw) (w73 hw) (w80 hw) (by decide) (hb hby at_418) (by rw [hml]; rfl) [(.int (3 : Int32)), (.int (5 : Int32)), (.int c30), (.int c31)] (lenOf pd5 rfl) rfl rfl (Nat.le_of_ble_eq_true rfl) (Nat.le_of_ble_eq_true rfl) (Nat.le_of_ble_eq_true rfl) (Nat.le_of_ble_eq_true rfl) ?_
                      intro v274 T274 V274 h274 S274 C274 q274
                      obtain ⟨r273, rfl, hr273, rfl⟩ := q274
                      rcases hr273 with ⟨rfl, hr273⟩ | ⟨rfl, hr273⟩
                      · skip
                        show Go p e below _ (T274.setTop (mkF m 421 #[.val (.int len), .val (.long la), .second, .val (.long lb), .second, .val (.int (5 : Int32)), .val (.int c28), .val (.int c29), .val (.int c30), .val (.int c31), .val (.int c32), .val (.int c33), .val (.ref b225), .val (.ref b232), .val (.int got244), .unset] [(.int (1 : Int32))]))
                        refine s_ifN S274 (hb hby at_421) (by decide) (pc' := 424) rfl ?_
                        refine s_iconst S274 (hb hby at_424) (v := (4 : Int32)) rfl (pc' := 425) rfl ?_
                        refine s_iload S274 (hb hby at_425) rfl (pc' := 427) rfl ?_
                        refine s_iload S274 (hb hby at_427) rfl (pc' := 429) rfl ?_
                        refine s_iload S274 (hb hby at_429) rfl (pc' := 431) rfl ?_
                        show Go p e below _ (T274.setTop (mkF m 431 #[.val (.int len), .val (.long la), .second, .val (.long lb), .second, .val (.int (5 : Int32)), .val (.int c28), .val (.int c29), .val (.int c30), .val (.int c31), .val (.int c32), .val (.int c33), .val (.ref b225), .val (.ref b232), .val (.int got244), .unset] [(.int c32), (.int c31), (.int (5 : Int32)), (.int (4 : Int32))]))
                        refine g_static S274 (rmNP X c31 c32 S274.old (by decide)) (fun _ q => nomatch q) (w78 hw) (w79 hw) (w73 hw) (w80 hw) (by decide) (hb hby at_431) (by rw [hml]; rfl) [(.int (4 : Int32)), (.int (5 : Int32)), (.int c31), (.int c32)] (lenOf pd5 rfl) rfl rfl (Nat.le_of_ble_eq_true rfl) (Nat.le_of_ble_eq_true rfl) (Nat.le_of_ble_eq_true rfl) (Nat.le_of_ble_eq_true rfl) ?_
                        intro v276 T276 V276 h276 S276 C276 q276
                        obtain ⟨r275, rfl, hr275, rfl⟩ := q276
                        rcases hr275 with ⟨rfl, hr275⟩ | ⟨rfl, hr275⟩
                        · skip
                          show Go p e below _ (T276.setTop (mkF m 434 #[.val (.int len), .val (.long la), .second, .val (.long lb), .second, .val (.int (5 : Int32)), .val (.int c28), .val (.int c29), .val (.int c30), .val (.int c31), .val (.int c32), .val (.int c33), .val (.ref b225), .val (.ref b232), .val (.int got244), .unset] [(.int (1 : Int32))]))
                          refine s_ifN S276 (hb hby at_434) (by decide) (pc' := 437) rfl ?_
                          refine s_iconst S276 (hb hby at_437) (v := (5 : Int32)) rfl (pc' := 438) rfl ?_
                          refine s_iload S276 (hb hby at_438) rfl (pc' := 440) rfl ?_
                          refine s_iload S276 (hb hby at_440) rfl (pc' := 442) rfl ?_
                          refine s_iload S276 (hb hby at_442) rfl (pc' := 444) rfl ?_
                          show Go p e below _ (T276.setTop (mkF m 444 #[.val (.int len), .val (.long la), .second, .val (.long lb), .second, .val (.int (5 : Int32)), .val (.int c28), .val (.int c29), .val (.int c30), .val (.int c31), .val (.int c32), .val (.int c33), .val (.ref b225), .val (.ref b232), .val (.int got244), .unset] [(.int c33), (.int c32), (.int (5 : Int32)), (.int (5 : Int32))]))
                          refine g_static S276 (rmNO X c32 c33 S276.old (by decide)) (fun _ q => nomatch q) (w78 hw) (w79 hw) (w73 hw) (w80 hw) (by decide) (hb hby at_444) (by rw [hml]; rfl) [(.int (5 : Int32)), (.int (5 : Int32)), (.int c32), (.int c33)] (lenOf pd5 rfl) rfl rfl (Nat.le_of_ble_eq_true rfl) (Nat.le_of_ble_eq_true rfl) (Nat.le_of_ble_eq_true rfl) (Nat.le_of_ble_eq_true rfl) ?_
                          intro v277 T277 V277 h277 S277 C277 q277
                          obtain ⟨rfl, rfl⟩ := q277
                          show Go p e below _ (T277.setTop (mkF m 447 #[.val (.int len), .val (.long la), .second, .val (.long lb), .second, .val (.int (5 : Int32)), .val (.int c28), .val (.int c29), .val (.int c30), .val (.int c31), .val (.int c32), .val (.int c33), .val (.ref b225), .val (.ref b232), .val (.int got244), .unset] [(.int (1 : Int32))]))
                          refine s_ifN S277 (hb hby at_447) (by decide) (pc' := 450) rfl ?_
                          refine s_iconst S277 (hb hby at_450) (v := (1 : Int32)) rfl (pc' := 451) rfl ?_
                          refine s_goto S277 (hb hby at_451) (by decide) (pcT := 455) (by decide) ?_
                          exact K245 _ _ S277 _ (Or.inl ⟨rfl, hr254, hr256, hr258, hr260, hr262, hr264, hr266, hr269, hr271, hr273, hr275⟩)
                        · skip
                          show Go p e below _ (T276.setTop (mkF m 434 #[.val (.int len), .val (.long la), .second, .val (.long lb), .second, .val (.int (5 : Int32)), .val (.int c28), .val (.int c29), .val (.int c30), .val (.int c31), .val (.int c32), .val (.int c33), .val (.ref b225), .val (.ref b232), .val (.int got244), .unset] [(.int (0 : Int32))]))
                          refine s_ifY S276 (hb hby at_434) (by decide) (by decide) (pcT := 454) (by decide) ?_
                          refine s_iconst S276 (hb hby at_454) (v := (0 : Int32)) rfl (pc' := 455) rfl ?_
                          exact K245 _ _ S276 _ (Or.inr ⟨rfl, fun q => hr275 q.2.2.2.2.2.2.2.2.2.2⟩)
                      · skip
                        show Go p e below _ (T274.setTop (mkF m 421 #[.val (.int len), .val (.long la), .second, .val (.long lb), .second, .val (.int (5 : Int32)), .val (.int c28), .val (.int c29), .val (.int c30), .val (.int c31), .val (.int c32), .val (.int c33), .val (.ref b225), .val (.ref b232), .val (.int got244), .unset] [(.int (0 : Int32))]))
                        refine s_ifY S274 (hb hby at_421) (by decide) (by decide) (pcT := 454) (by decide) ?_
                        refine s_iconst S274 (hb hby at_454) (v := (0 : Int32)) rfl (pc' := 455) rfl ?_
                        exact K245 _ _ S274 _ (Or.inr ⟨rfl, fun q => hr273 q.2.2.2.2.2.2.2.2.2.1⟩)
                    · skip
                      show Go p e below _ (T272.setTop (mkF m 408 #[.val (.int len), .val (.long la), .second, .val (.long lb), .second, .val (.int (5 : Int32)), .val (.int c28), .val (.int c29), .val (.int c30), .val (.int c31), .val (.int c32), .val (.int c33), .val (.ref b225), .val (.ref b232), .val (.int got244), .unset] [(.int (0 : Int32))]))
                      refine s_ifY S272 (hb hby at_408) (by decide) (by decide) (pcT := 454) (by decide) ?_
                      refine s_iconst S272 (hb hby at_454) (v := (0 : Int32)) rfl (pc' := 455) rfl ?_
                      exact K245 _ _ S272 _ (Or.inr ⟨rfl, fun q => hr271 q.2.2.2.2.2.2.2.2.1⟩)
                  · skip
                    show Go p e below _ (T270.setTop (mkF m 395 #[.val (.int len), .val (.long la), .second, .val (.long lb), .second, .val (.int (5 : Int32)), .val (.int c28), .val (.int c29), .val (.int c30), .val (.int c31), .val (.int c32), .val (.int c33), .val (.ref b225), .val (.ref b232), .val (.int got244), .unset] [(.int (0 : Int32))]))
                    refine s_ifY S270 (hb hby at_395) (by decide) (by decide) (pcT := 454) (by decide) ?_
                    refine s_iconst S270 (hb hby at_454) (v := (0 : Int32)) rfl (pc' := 455) rfl ?_
                    exact K245 _ _ S270 _ (Or.inr ⟨rfl, fun q => hr269 q.2.2.2.2.2.2.2.1⟩)
                · skip
                  show Go p e below _ (T267.setTop (mkF m 371 #[.val (.int len), .val (.long la), .second, .val (.long lb), .second, .val (.int (5 : Int32)), .val (.int c28), .val (.int c29), .val (.int c30), .val (.int c31), .val (.int c32), .val (.int c33), .val (.ref b225), .val (.ref b232), .val (.int got244), .unset] [(.int (0 : Int32))]))
                  refine s_ifY S267 (hb hby at_371) (by decide) (by decide) (pcT := 454) (by decide) ?_
                  refine s_iconst S267 (hb hby at_454) (v := (0 : Int32)) rfl (pc' := 455) rfl ?_
                  exact K245 _ _ S267 _ (Or.inr ⟨rfl, fun q => hr266 q.2.2.2.2.2.2.1⟩)
              · skip
                show Go p e below _ (T265.setTop (mkF m 360 #[.val (.int len), .val (.long la), .second, .val (.long lb), .second, .val (.int (5 : Int32)), .val (.int c28), .val (.int c29), .val (.int c30), .val (.int c31), .val (.int c32), .val (.int c33), .val (.ref b225), .val (.ref b232), .val (.int got244), .unset] [(.int (0 : Int32))]))
                refine s_ifY S265 (hb hby at_360) (by decide) (by decide) (pcT := 454) (by decide) ?_
                refine s_iconst S265 (hb hby at_454) (v := (0 : Int32)) rfl (pc' := 455) rfl ?_
                exact K245 _ _ S265 _ (Or.inr ⟨rfl, fun q => hr264 q.2.2.2.2.2.1⟩)
            · skip
              show Go p e below _ (T263.setTop (mkF m 349 #[.val (.int len), .val (.long la), .second, .val (.long lb), .second, .val (.int (5 : Int32)), .val (.int c28), .val (.int c29), .val (.int c30), .val (.int c31), .val (.int c32), .val (.int c33), .val (.ref b225), .val (.ref b232), .val (.int got244), .unset] [(.int (0 : Int32))]))
              refine s_ifY S263 (hb hby at_349) (by decide) (by decide) (pcT := 454) (by decide) ?_
              refine s_iconst S263 (hb hby at_454) (v := (0 : Int32)) rfl (pc' := 455) rfl ?_
              exact K245 _ _ S263 _ (Or.inr ⟨rfl, fun q => hr262 q.2.2.2.2.1⟩)
          · skip
            show Go p e below _ (T261.setTop (mkF m 338 #[.val (.int len), .val (.long la), .second, .val (.long lb), .second, .val (.int (5 : Int32)), .val (.int c28), .val (.int c29), .val (.int c30), .val (.int c31), .val (.int c32), .val (.int c33), .val (.ref b225), .val (.ref b232), .val (.int got244), .unset] [(.int (0 : Int32))]))
            refine s_ifY S261 (hb hby at_338) (by decide) (by decide) (pcT := 454) (by decide) ?_
            refine s_iconst S261 (hb hby at_454) (v := (0 : Int32)) rfl (pc' := 455) rfl ?_
            exact K245 _ _ S261 _ (Or.inr ⟨rfl, fun q => hr260 q.2.2.2.1⟩)
        · skip
          show Go p e below _ (T259.setTop (mkF m 327 #[.val (.int len), .val (.long la), .second, .val (.long lb), .second, .val (.int (5 : Int32)), .val (.int c28), .val (.int c29), .val (.int c30), .val (.int c31), .val (.int c32), .val (.int c33), .val (.ref b225), .val (.ref b232), .val (.int got244), .unset] [(.int (0 : Int32))]))
          refine s_ifY S259 (hb hby at_327) (by decide) (by decide) (pcT := 454) (by decide) ?_
          refine s_iconst S259 (hb hby at_454) (v := (0 : Int32)) rfl (pc' := 455) rfl ?_
          exact K245 _ _ S259 _ (Or.inr ⟨rfl, fun q => hr258 q.2.2.1⟩)
      · skip
        show Go p e below _ (T257.setTop (mkF m 316 #[.val (.int len), .val (.long la), .second, .val (.long lb), .second, .val (.int (5 : Int32)), .val (.int c28), .val (.int c29), .val (.int c30), .val (.int c31), .val (.int c32), .val (.int c33), .val (.ref b225), .val (.ref b232), .val (.int got244), .unset] [(.int (0 : Int32))]))
        refine s_ifY S257 (hb hby at_316) (by decide) (by decide) (pcT := 454) (by decide) ?_
        refine s_iconst S257 (hb hby at_454) (v := (0 : Int32)) rfl (pc' := 455) rfl ?_
        exact K245 _ _ S257 _ (Or.inr ⟨rfl, fun q => hr256 q.2.1⟩)
    · skip
      show Go p e below _ (T255.setTop (mkF m 303 #[.val (.int len), .val (.long la), .second, .val (.long lb), .second, .val (.int (5 : Int32)), .val (.int c28), .val (.int c29), .val (.int c30), .val (.int c31), .val (.int c32), .val (.int c33), .val (.ref b225), .val (.ref b232), .val (.int got244), .unset] [(.int (0 : Int32))]))
      refine s_ifY S255 (hb hby at_303) (by decide) (by decide) (pcT := 454) (by decide) ?_
      refine s_iconst S255 (hb hby at_454) (v := (0 : Int32)) rfl (pc' := 455) rfl ?_
      exact K245 _ _ S255 _ (Or.inr ⟨rfl, fun q => hr254 q.1⟩)
  · skip
    show Go p e below _ (T0.setTop (mkF m 75 #[.val (.int len), .val (.long la), .second, .val (.long lb), .second, .val (.int (6 : Int32)), .val (.int c28), .val (.int c29), .val (.int c30), .val (.int c31), .val (.int c32), .val (.int c33), .unset, .unset, .unset, .unset] []))
    refine s_bipush S0 (hb hby at_75) (v := (6 : Int32)) rfl (pc' := 77) rfl ?_
    refine g_newarr (aty := .char) S0 (w2 hw) (hb hby at_77) (by decide) (cap := 6) (by decide) (by decide) (Nat.le_of_ble_eq_true rfl) (Nat.le_of_ble_eq_true rfl) ?_
    intro T278 h278 b278 kc278 S278 E278 fr278 lt278 na278 sf278 A278
    have V278 : Arv Z h278 b278 kc278 .char (6 : Int32) [(.int (0 : Int32)), (.int (0 : Int32)), (.int (0 : Int32)), (.int (0 : Int32)), (.int (0 : Int32)), (.int (0 : Int32))] (.int (0 : Int32)) := A278 6
    show Go p e below _ (T278.setTop (mkF m 79 #[.val (.int len), .val (.long la), .second, .val (.long lb), .second, .val (.int (6 : Int32)), .val (.int c28), .val (.int c29), .val (.int c30), .val (.int c31), .val (.int c32), .val (.int c33), .unset, .unset, .unset, .unset] [(.ref b278)]))
    refine s_astore S278 (hb hby at_79) rfl (L' := #[.val (.int len), .val (.long la), .second, .val (.long lb), .second, .val (.int (6 : Int32)), .val (.int c28), .val (.int c29), .val (.int c30), .val (.int c31), .val (.int c32), .val (.int c33), .val (.ref b278), .unset, .unset, .unset]) rfl (pc' := 81) rfl ?_
    refine s_aload S278 (hb hby at_81) rfl rfl (pc' := 83) rfl ?_
    refine s_iconst S278 (hb hby at_83) (v := (0 : Int32)) rfl (pc' := 84) rfl ?_
    refine s_iload S278 (hb hby at_84) rfl (pc' := 86) rfl ?_
    refine g_castore S278 V278 ⟨by decide, by decide⟩ 0 rfl (Nat.le_of_ble_eq_true rfl) na278 (hb hby at_86) ?_
    intro T279 h279 S279 K279 V279
    rw [narC8 rc28] at V279
    have V279 : Arv Z h279 b278 kc278 .char (6 : Int32) [(.int c28), (.int (0 : Int32)), (.int (0 : Int32)), (.int (0 : Int32)), (.int (0 : Int32)), (.int (0 : Int32))] (.int (0 : Int32)) := V279
    show Go p e below _ (T279.setTop (mkF m 87 #[.val (.int len), .val (.long la), .second, .val (.long lb), .second, .val (.int (6 : Int32)), .val (.int c28), .val (.int c29), .val (.int c30), .val (.int c31), .val (.int c32), .val (.int c33), .val (.ref b278), .unset, .unset, .unset] []))
    refine s_aload S279 (hb hby at_87) rfl rfl (pc' := 89) rfl ?_
    refine s_iconst S279 (hb hby at_89) (v := (1 : Int32)) rfl (pc' := 90) rfl ?_
    refine s_iload S279 (hb hby at_90) rfl (pc' := 92) rfl ?_
    refine g_castore S279 V279 ⟨by decide, by decide⟩ 1 rfl (Nat.le_of_ble_eq_true rfl) na278 (hb hby at_92) ?_
    intro T280 h280 S280 K280 V280
    rw [narC8 rc29] at V280
    have V280 : Arv Z h280 b278 kc278 .char (6 : Int32) [(.int c28), (.int c29), (.int (0 : Int32)), (.int (0 : Int32)), (.int (0 : Int32)), (.int (0 : Int32))] (.int (0 : Int32)) := V280
    show Go p e below _ (T280.setTop (mkF m 93 #[.val (.int len), .val (.long la), .second, .val (.long lb), .second, .val (.int (6 : Int32)), .val (.int c28), .val (.int c29), .val (.int c30), .val (.int c31), .val (.int c32), .val (.int c33), .val (.ref b278), .unset, .unset, .unset] []))
    refine s_aload S280 (hb hby at_93) rfl rfl (pc' := 95) rfl ?_
    refine s_iconst S280 (hb hby at_95) (v := (2 : Int32)) rfl (pc' := 96) rfl ?_
    refine s_iload S280 (hb hby at_96) rfl (pc' := 98) rfl ?_
    refine g_castore S280 V280 ⟨by decide, by decide⟩ 2 rfl (Nat.le_of_ble_eq_true rfl) na278 (hb hby at_98) ?_
    intro T281 h281 S281 K281 V281
    rw [narC8 rc30] at V281
    have V281 : Arv Z h281 b278 kc278 .char (6 : Int32) [(.int c28), (.int c29), (.int c30), (.int (0 : Int32)), (.int (0 : Int32)), (.int (0 : Int32))] (.int (0 : Int32)) := V281
    show Go p e below _ (T281.setTop (mkF m 99 #[.val (.int len), .val (.long la), .second, .val (.long lb), .second, .val (.int (6 : Int32)), .val (.int c28), .val (.int c29), .val (.int c30), .val (.int c31), .val (.int c32), .val (.int c33), .val (.ref b278), .unset, .unset, .unset] []))
    refine s_aload S281 (hb hby at_99) rfl rfl (pc' := 101) rfl ?_
    refine s_iconst S281 (hb hby at_101) (v := (3 : Int32)) rfl (pc' := 102) rfl ?_
    refine s_iload S281 (hb hby at_102) rfl (pc' := 104) rfl ?_
    refine g_castore S281 V281 ⟨by decide, by decide⟩ 3 rfl (Nat.le_of_ble_eq_true rfl) na278 (hb hby at_104) ?_
    intro T282 h282 S282 K282 V282
    rw [narC8 rc31] at V282
    have V282 : Arv Z h282 b278 kc278 .char (6 : Int32) [(.int c28), (.int c29), (.int c30), (.int c31), (.int (0 : Int32)), (.int (0 : Int32))] (.int (0 : Int32)) := V282
    show Go p e below _ (T282.setTop (mkF m 105 #[.val (.int len), .val (.long la), .second, .val (.long lb), .second, .val (.int (6 : Int32)), .val (.int c28), .val (.int c29), .val (.int c30), .val (.int c31), .val (.int c32), .val (.int c33), .val (.ref b278), .unset, .unset, .unset] []))
    refine s_aload S282 (hb hby at_105) rfl rfl (pc' := 107) rfl ?_
    refine s_iconst S282 (hb hby at_107) (v := (4 : Int32)) rfl (pc' := 108) rfl ?_
    refine s_iload S282 (hb hby at_108) rfl (pc' := 110) rfl ?_
    refine g_castore S282 V282 ⟨by decide, by decide⟩ 4 rfl (Nat.le_of_ble_eq_true rfl) na278 (hb hby at_110) ?_
    intro T283 h283 S283 K283 V283
    rw [narC8 rc32] at V283
    have V283 : Arv Z h283 b278 kc278 .char (6 : Int32) [(.int c28), (.int c29), (.int c30), (.int c31), (.int c32), (.int (0 : Int32))] (.int (0 : Int32)) := V283
    show Go p e below _ (T283.setTop (mkF m 111 #[.val (.int len), .val (.long la), .second, .val (.long lb), .second, .val (.int (6 : Int32)), .val (.int c28), .val (.int c29), .val (.int c30), .val (.int c31), .val (.int c32), .val (.int c33), .val (.ref b278), .unset, .unset, .unset] []))
    refine s_aload S283 (hb hby at_111) rfl rfl (pc' := 113) rfl ?_
    refine s_iconst S283 (hb hby at_113) (v := (5 : Int32)) rfl (pc' := 114) rfl ?_
    refine s_iload S283 (hb hby at_114) rfl (pc' := 116) rfl ?_
    refine g_castore S283 V283 ⟨by decide, by decide⟩ 5 rfl (Nat.le_of_ble_eq_true rfl) na278 (hb hby at_116) ?_
    intro T284 h284 S284 K284 V284
    rw [narC8 rc33] at V284
    have V284 : Arv Z h284 b278 kc278 .char (6 : Int32) [(.int c28), (.int c29), (.int c30), (.int c31), (.int c32), (.int c33)] (.int (0 : Int32)) := V284
    show Go p e below _ (T284.setTop (mkF m 117 #[.val (.int len), .val (.long la), .second, .val (.long lb), .second, .val (.int (6 : Int32)), .val (.int c28), .val (.int c29), .val (.int c30), .val (.int c31), .val (.int c32), .val (.int c33), .val (.ref b278), .unset, .unset, .unset] []))
    refine s_iload S284 (hb hby at_117) rfl (pc' := 119) rfl ?_
    refine s_ifY S284 (hb hby at_119) (by decide) (by decide) (pcT := 130) (by decide) ?_
    refine s_iload S284 (hb hby at_130) rfl (pc' := 132) rfl ?_
    refine s_iconst S284 (hb hby at_132) (v := (1 : Int32)) rfl (pc' := 133) rfl ?_
    refine s_icmpY S284 (hb hby at_133) (by decide) (by decide) (pcT := 144) (by decide) ?_
    refine s_iload S284 (hb hby at_144) rfl (pc' := 146) rfl ?_
    refine s_iconst S284 (hb hby at_146) (v := (2 : Int32)) rfl (pc' := 147) rfl ?_
    refine s_icmpY S284 (hb hby at_147) (by decide) (by decide) (pcT := 158) (by decide) ?_
    refine s_iload S284 (hb hby at_158) rfl (pc' := 160) rfl ?_
    refine s_iconst S284 (hb hby at_160) (v := (3 : Int32)) rfl (pc' := 161) rfl ?_
    refine s_icmpY S284 (hb hby at_161) (by decide) (by decide) (pcT := 172) (by decide) ?_
    refine s_iload S284 (hb hby at_172) rfl (pc' := 174) rfl ?_
    refine s_iconst S284 (hb hby at_174) (v := (4 : Int32)) rfl (pc' := 175) rfl ?_
    refine s_icmpY S284 (hb hby at_175) (by decide) (by decide) (pcT := 186) (by decide) ?_
    refine s_iload S284 (hb hby at_186) rfl (pc' := 188) rfl ?_
    refine s_iconst S284 (hb hby at_188) (v := (5 : Int32)) rfl (pc' := 189) rfl ?_
    refine s_icmpY S284 (hb hby at_189) (by decide) (by decide) (pcT := 200) (by decide) ?_
    refine s_bipush S284 (hb hby at_200) (v := (6 : Int32)) rfl (pc' := 202) rfl ?_
    refine g_newarr (aty := .char) S284 (w2 hw) (hb hby at_202) (by decide) (cap := 6) (by decide) (by decide) (Nat.le_of_ble_eq_true rfl) (Nat.le_of_ble_eq_true rfl) ?_
    intro T285 h285 b285 kc285 S285 E285 fr285 lt285 na285 sf285 A285
    have V285 : Arv Z h285 b285 kc285 .char (6 : Int32) [(.int (0 : Int32)), (.int (0 : Int32)), (.int (0 : Int32)), (.int (0 : Int32)), (.int (0 : Int32)), (.int (0 : Int32))] (.int (0 : Int32)) := A285 6
    show Go p e below _ (T285.setTop (mkF m 204 #[.val (.int len), .val (.long la), .second, .val (.long lb), .second, .val (.int (6 : Int32)), .val (.int c28), .val (.int c29), .val (.int c30), .val (.int c31), .val (.int c32), .val (.int c33), .val (.ref b278), .unset, .unset, .unset] [(.ref b285)]))
    refine s_astore S285 (hb hby at_204) rfl (L' := #[.val (.int len), .val (.long la), .second, .val (.long lb), .second, .val (.int (6 : Int32)), .val (.int c28), .val (.int c29), .val (.int c30), .val (.int c31), .val (.int c32), .val (.int c33), .val (.ref b278), .val (.ref b285), .unset, .unset]) rfl (pc' := 206) rfl ?_
    refine s_iload S285 (hb hby at_206) rfl (pc' := 208) rfl ?_
    refine s_ifN S285 (hb hby at_208) (by decide) (pc' := 211) rfl ?_
    refine s_aload S285 (hb hby at_211) rfl rfl (pc' := 213) rfl ?_
    refine s_iconst S285 (hb hby at_213) (v := (0 : Int32)) rfl (pc' := 214) rfl ?_
    refine s_iload S285 (hb hby at_214) rfl (pc' := 216) rfl ?_
    refine g_castore S285 V285 ⟨by decide, by decide⟩ 0 rfl (Nat.le_of_ble_eq_true rfl) na285 (hb hby at_216) ?_
    intro T286 h286 S286 K286 V286
    rw [narC8 rc28] at V286
    have V286 : Arv Z h286 b285 kc285 .char (6 : Int32) [(.int c28), (.int (0 : Int32)), (.int (0 : Int32)), (.int (0 : Int32)), (.int (0 : Int32)), (.int (0 : Int32))] (.int (0 : Int32)) := V286
    show Go p e below _ (T286.setTop (mkF m 217 #[.val (.int len), .val (.long la), .second, .val (.long lb), .second, .val (.int (6 : Int32)), .val (.int c28), .val (.int c29), .val (.int c30), .val (.int c31), .val (.int c32), .val (.int c33), .val (.ref b278), .val (.ref b285), .unset, .unset] []))
    refine s_iload S286 (hb hby at_217) rfl (pc' := 219) rfl ?_
    refine s_iconst S286 (hb hby at_219) (v := (1 : Int32)) rfl (pc' := 220) rfl ?_
    refine s_icmpN S286 (hb hby at_220) (by decide) (pc' := 223) rfl ?_
    refine s_aload S286 (hb hby at_223) rfl rfl (pc' := 225) rfl ?_
    refine s_iconst S286 (hb hby at_225) (v := (1 : Int32)) rfl (pc' := 226) rfl ?_
    refine s_iload S286 (hb hby at_226) rfl (pc' := 228) rfl ?_
    refine g_castore S286 V286 ⟨by decide, by decide⟩ 1 rfl (Nat.le_of_ble_eq_true rfl) na285 (hb hby at_228) ?_
    intro T287 h287 S287 K287 V287
    rw [narC8 rc29] at V287
    have V287 : Arv Z h287 b285 kc285 .char (6 : Int32) [(.int c28), (.int c29), (.int (0 : Int32)), (.int (0 : Int32)), (.int (0 : Int32)), (.int (0 : Int32))] (.int (0 : Int32)) := V287
    show Go p e below _ (T287.setTop (mkF m 229 #[.val (.int len), .val (.long la), .second, .val (.long lb), .second, .val (.int (6 : Int32)), .val (.int c28), .val (.int c29), .val (.int c30), .val (.int c31), .val (.int c32), .val (.int c33), .val (.ref b278), .val (.ref b285), .unset, .unset] []))
    refine s_iload S287 (hb hby at_229) rfl (pc' := 231) rfl ?_
    refine s_iconst S287 (hb hby at_231) (v := (2 : Int32)) rfl (pc' := 232) rfl ?_
    refine s_icmpN S287 (hb hby at_232) (by decide) (pc' := 235) rfl ?_
    refine s_aload S287 (hb hby at_235) rfl rfl (pc' := 237) rfl ?_
    refine s_iconst S287 (hb hby at_237) (v := (2 : Int32)) rfl (pc' := 238) rfl ?_
    refine s_iload S287 (hb hby at_238) rfl (pc' := 240) rfl ?_
    refine g_castore S287 V287 ⟨by decide, by decide⟩ 2 rfl (Nat.le_of_ble_eq_true rfl) na285 (hb hby at_240) ?_
    intro T288 h288 S288 K288 V288
    rw [narC8 rc30] at V288
    have V288 : Arv Z h288 b285 kc285 .char (6 : Int32) [(.int c28), (.int c29), (.int c30), (.int (0 : Int32)), (.int (0 : Int32)), (.int (0 : Int32))] (.int (0 : Int32)) := V288
    show Go p e below _ (T288.setTop (mkF m 241 #[.val (.int len), .val (.long la), .second, .val (.long lb), .second, .val (.int (6 : Int32)), .val (.int c28), .val (.int c29), .val (.int c30), .val (.int c31), .val (.int c32), .val (.int c33), .val (.ref b278), .val (.ref b285), .unset, .unset] []))
    refine s_iload S288 (hb hby at_241) rfl (pc' := 243) rfl ?_
    refine s_iconst S288 (hb hby at_243) (v := (3 : Int32)) rfl (pc' := 244) rfl ?_
    refine s_icmpN S288 (hb hby at_244) (by decide) (pc' := 247) rfl ?_
    refine s_aload S288 (hb hby at_247) rfl rfl (pc' := 249) rfl ?_
    refine s_iconst S288 (hb hby at_249) (v := (3 : Int32)) rfl (pc' := 250) rfl ?_
    refine s_iload S288 (hb hby at_250) rfl (pc' := 252) rfl ?_
    refine g_castore S288 V288 ⟨by decide, by decide⟩ 3 rfl (Nat.le_of_ble_eq_true rfl) na285 (hb hby at_252) ?_
    intro T289 h289 S289 K289 V289
    rw [narC8 rc31] at V289
    have V289 : Arv Z h289 b285 kc285 .char (6 : Int32) [(.int c28), (.int c29), (.int c30), (.int c31), (.int (0 : Int32)), (.int (0 : Int32))] (.int (0 : Int32)) := V289
    show Go p e below _ (T289.setTop (mkF m 253 #[.val (.int len), .val (.long la), .second, .val (.long lb), .second, .val (.int (6 : Int32)), .val (.int c28), .val (.int c29), .val (.int c30), .val (.int c31), .val (.int c32), .val (.int c33), .val (.ref b278), .val (.ref b285), .unset, .unset] []))
    refine s_iload S289 (hb hby at_253) rfl (pc' := 255) rfl ?_
    refine s_iconst S289 (hb hby at_255) (v := (4 : Int32)) rfl (pc' := 256) rfl ?_
    refine s_icmpN S289 (hb hby at_256) (by decide) (pc' := 259) rfl ?_
    refine s_aload S289 (hb hby at_259) rfl rfl (pc' := 261) rfl ?_
    refine s_iconst S289 (hb hby at_261) (v := (4 : Int32)) rfl (pc' := 262) rfl ?_
    refine s_iload S289 (hb hby at_262) rfl (pc' := 264) rfl ?_
    refine g_castore S289 V289 ⟨by decide, by decide⟩ 4 rfl (Nat.le_of_ble_eq_true rfl) na285 (hb hby at_264) ?_
    intro T290 h290 S290 K290 V290
    rw [narC8 rc32] at V290
    have V290 : Arv Z h290 b285 kc285 .char (6 : Int32) [(.int c28), (.int c29), (.int c30), (.int c31), (.int c32), (.int (0 : Int32))] (.int (0 : Int32)) := V290
    show Go p e below _ (T290.setTop (mkF m 265 #[.val (.int len), .val (.long la), .second, .val (.long lb), .second, .val (.int (6 : Int32)), .val (.int c28), .val (.int c29), .val (.int c30), .val (.int c31), .val (.int c32), .val (.int c33), .val (.ref b278), .val (.ref b285), .unset, .unset] []))
    refine s_iload S290 (hb hby at_265) rfl (pc' := 267) rfl ?_
    refine s_iconst S290 (hb hby at_267) (v := (5 : Int32)) rfl (pc' := 268) rfl ?_
    refine s_icmpN S290 (hb hby at_268) (by decide) (pc' := 271) rfl ?_
    refine s_aload S290 (hb hby at_271) rfl rfl (pc' := 273) rfl ?_
    refine s_iconst S290 (hb hby at_273) (v := (5 : Int32)) rfl (pc' := 274) rfl ?_
    refine s_iload S290 (hb hby at_274) rfl (pc' := 276) rfl ?_
    refine g_castore S290 V290 ⟨by decide, by decide⟩ 5 rfl (Nat.le_of_ble_eq_true rfl) na285 (hb hby at_276) ?_
    intro T291 h291 S291 K291 V291
    rw [narC8 rc33] at V291
    have V291 : Arv Z h291 b285 kc285 .char (6 : Int32) [(.int c28), (.int c29), (.int c30), (.int c31), (.int c32), (.int c33)] (.int (0 : Int32)) := V291
    show Go p e below _ (T291.setTop (mkF m 277 #[.val (.int len), .val (.long la), .second, .val (.long lb), .second, .val (.int (6 : Int32)), .val (.int c28), .val (.int c29), .val (.int c30), .val (.int c31), .val (.int c32), .val (.int c33), .val (.ref b278), .val (.ref b285), .unset, .unset] []))
    refine g_new S291 (w3 hw) (w4 hw) (w5 hw) (hb hby at_277) (Nat.le_of_ble_eq_true rfl) (Nat.le_of_ble_eq_true rfl) ?_
    intro T292 h292 b292 S292 E292 fr292 lt292 na292 sf292 A292 D292
    have F293 : Fld Z h292 b292 "java/lang/String" "value" "[B" .null := D292 (Or.inr (w18 hw)) (ty := (.array .byte)) (by decide)
    have F294 : Fld Z h292 b292 "java/lang/String" "coder" "B" (.int (0 : Int32)) := D292 (Or.inr (w19 hw)) (ty := .byte) (by decide)
    show Go p e below _ (T292.setTop (mkF m 280 #[.val (.int len), .val (.long la), .second, .val (.long lb), .second, .val (.int (6 : Int32)), .val (.int c28), .val (.int c29), .val (.int c30), .val (.int c31), .val (.int c32), .val (.int c33), .val (.ref b278), .val (.ref b285), .unset, .unset] [(.ref b292)]))
    refine s_dup S292 (hb hby at_280) rfl (pc' := 281) rfl ?_
    refine s_aload S292 (hb hby at_281) rfl rfl (pc' := 283) rfl ?_
    show Go p e below _ (T292.setTop (mkF m 283 #[.val (.int len), .val (.long la), .second, .val (.long lb), .second, .val (.int (6 : Int32)), .val (.int c28), .val (.int c29), .val (.int c30), .val (.int c31), .val (.int c32), .val (.int c33), .val (.ref b278), .val (.ref b285), .unset, .unset] [(.ref b285), (.ref b292), (.ref b292)]))
    have V296 := V291.ext E292
    refine g_newStr S292 X (cs := [c28, c29, c30, c31, c32, c33]) (Nat.le_of_ble_eq_true rfl) (Nat.le_of_ble_eq_true rfl) rfl na292 sf292 A292 F293 F294 V296 (faS rc28 (faS rc29 (faS rc30 (faS rc31 (faS rc32 (faS rc33 fa0)))))) (w6 hw) (hb hby at_283) (by rw [hml]; rfl) (Nat.le_of_ble_eq_true rfl) (Nat.le_of_ble_eq_true rfl) (Nat.le_of_ble_eq_true rfl) (Nat.le_of_ble_eq_true rfl) ?_
    intro T295 h295 S295 K295 F295
    show Go p e below _ (T295.setTop (mkF m 286 #[.val (.int len), .val (.long la), .second, .val (.long lb), .second, .val (.int (6 : Int32)), .val (.int c28), .val (.int c29), .val (.int c30), .val (.int c31), .val (.int c32), .val (.int c33), .val (.ref b278), .val (.ref b285), .unset, .unset] [(.ref b292)]))
    show Go p e below _ (T295.setTop (mkF m 286 #[.val (.int len), .val (.long la), .second, .val (.long lb), .second, .val (.int (6 : Int32)), .val (.int c28), .val (.int c29), .val (.int c30), .val (.int c31), .val (.int c32), .val (.int c33), .val (.ref b278), .val (.ref b285), .unset, .unset] [(.ref b292)]))
    refine g_static S295 (rmIM X S295.old F295 (faS rc28.2 (faS rc29.2 (faS rc30.2 (faS rc31.2 (faS rc32.2 (faS rc33.2 fa0))))))) (fun _ q => nomatch q) (w24 hw) (w25 hw) (w26 hw) (w27 hw) (by decide) (hb hby at_286) (by rw [hml]; rfl) [(.ref b292)] (lenOf pd3 rfl) rfl rfl (Nat.le_of_ble_eq_true rfl) (Nat.le_of_ble_eq_true rfl) (Nat.le_of_ble_eq_true rfl) (Nat.le_of_ble_eq_true rfl) ?_
    intro v297 T297 V297 h297 S297 C297 q297
    obtain ⟨rfl, rfl⟩ := q297
    show Go p e below _ (T297.setTop (mkF m 289 #[.val (.int len), .val (.long la), .second, .val (.long lb), .second, .val (.int (6 : Int32)), .val (.int c28), .val (.int c29), .val (.int c30), .val (.int c31), .val (.int c32), .val (.int c33), .val (.ref b278), .val (.ref b285), .unset, .unset] [(.int (if imF false [c28, c29, c30, c31, c32, c33] = true then (1 : Int32) else (0 : Int32)))]))
    generalize egot298 : (if imF false [c28, c29, c30, c31, c32, c33] = true then (1 : Int32) else (0 : Int32)) = got298
    refine s_istore S297 (hb hby at_289) (L' := #[.val (.int len), .val (.long la), .second, .val (.long lb), .second, .val (.int (6 : Int32)), .val (.int c28), .val (.int c29), .val (.int c30), .val (.int c31), .val (.int c32), .val (.int c33), .val (.ref b278), .val (.ref b285), .val (.int got298), .unset]) rfl (pc' := 291) rfl ?_
    have X300 : Ext h284 h286 := ext_keep1 E285 K286 fr285
    have X301 : Ext h284 h287 := ext_keep1 X300 K287 fr285
    have X302 : Ext h284 h288 := ext_keep1 X301 K288 fr285
    have X303 : Ext h284 h289 := ext_keep1 X302 K289 fr285
    have X304 : Ext h284 h290 := ext_keep1 X303 K290 fr285
    have X305 : Ext h284 h291 := ext_keep1 X304 K291 fr285
    have X306 : Ext h284 h292 := ext_trans X305 E292
    have X307 : Ext h284 h297 := ext_keep1 X306 K295 (Nat.le_trans X305.1 fr292)
    have V308 := V284.ext X307
    show Go p e below _ (T297.setTop (mkF m 291 #[.val (.int len), .val (.long la), .second, .val (.long lb), .second, .val (.int (6 : Int32)), .val (.int c28), .val (.int c29), .val (.int c30), .val (.int c31), .val (.int c32), .val (.int c33), .val (.ref b278), .val (.ref b285), .val (.int got298), .unset] []))
    have K299 : ∀ (T8 : State) (V8 : Vm), St p l e room_1 s m #[(.int len), (.long la), (.long lb)] below meth c Z a0 EL1 n0 "com/example/remora/remora/MethodsIsMethodNamePinLaw" T8 V8 h297 4 22 → ∀ wx : Int32, ((wx = 1 ∧ own_W6 c28 c29 c30 c31 c32 c33) ∨ (wx = 0 ∧ ¬ own_W6 c28 c29 c30 c31 c32 c33)) → Go p e below (Fini Z EL1 n0 s room_1 (fun v h' => v = some (.int 1) ∧ True)) (T8.setTop (mkF m 455 #[.val (.int len), .val (.long la), .second, .val (.long lb), .second, .val (.int (6 : Int32)), .val (.int c28), .val (.int c29), .val (.int c30), .val (.int c31), .val (.int c32), .val (.int c33), .val (.ref b278), .val (.ref b285), .val (.int got298), .unset] [(.int wx)])) := by
      intro T8 V8 S8 wx hwx
      obtain rfl : wx = got298 := by
        rw [← egot298]
        exact own_if (own_eq6 c28 c29 c30 c31 c32 c33) hwx
      show Go p e below _ (T8.setTop (mkF m 455 #[.val (.int len), .val (.long la), .second, .val (.long lb), .second, .val (.int (6 : Int32)), .val (.int c28), .val (.int c29), .val (.int c30), .val (.int c31), .val (.int c32), .val (.int c33), .val (.ref b278), .val (.ref b285), .val (.int wx), .unset] [(.int wx)]))
      refine s_istore S8 (hb hby at_455) (L' := #[.val (.int len), .val (.long la), .second, .val (.long lb), .second, .val (.int (6 : Int32)), .val (.int c28), .val (.int c29), .val (.int c30), .val (.int c31), .val (.int c32), .val (.int c33), .val (.ref b278), .val (.ref b285), .val (.int wx), .val (.int wx)]) rfl (pc' := 457) rfl ?_
      refine s_iload S8 (hb hby at_457) rfl (pc' := 459) rfl ?_
      refine s_iload S8 (hb hby at_459) rfl (pc' := 461) rfl ?_
      refine s_icmpN S8 (hb hby at_461) (by simp [if_icmp.holds]) (pc' := 464) rfl ?_
      refine s_iconst S8 (hb hby at_464) (v := (1 : Int32)) rfl (pc' := 465) rfl ?_
      refine s_goto S8 (hb hby at_465) (by decide) (pcT := 469) (by decide) ?_
      exact g_iretN S8 (hb hby at_469) hret (by simp) ⟨rfl, trivial⟩
    refine s_iload S297 (hb hby at_291) rfl (pc' := 293) rfl ?_
    refine s_ifN S297 (hb hby at_293) (by decide) (pc' := 296) rfl ?_
    refine s_aload S297 (hb hby at_296) rfl rfl (pc' := 298) rfl ?_
    refine s_iconst S297 (hb hby at_298) (v := (0 : Int32)) rfl (pc' := 299) rfl ?_
    show Go p e below _ (T297.setTop (mkF m 299 #[.val (.int len), .val (.long la), .second, .val (.long lb), .second, .val (.int (6 : Int32)), .val (.int c28), .val (.int c29), .val (.int c30), .val (.int c31), .val (.int c32), .val (.int c33), .val (.ref b278), .val (.ref b285), .val (.int got298), .unset] [(.int (0 : Int32)), (.ref b278)]))
    refine g_caload S297 V308 ⟨by decide, by decide⟩ (x := c28) rfl (hb hby at_299) ?_
    show Go p e below _ (T297.setTop (mkF m 300 #[.val (.int len), .val (.long la), .second, .val (.long lb), .second, .val (.int (6 : Int32)), .val (.int c28), .val (.int c29), .val (.int c30), .val (.int c31), .val (.int c32), .val (.int c33), .val (.ref b278), .val (.ref b285), .val (.int got298), .unset] [(.int c28)]))
    show Go p e below _ (T297.setTop (mkF m 300 #[.val (.int len), .val (.long la), .second, .val (.long lb), .second, .val (.int (6 : Int32)), .val (.int c28), .val (.int c29), .val (.int c30), .val (.int c31), .val (.int c32), .val (.int c33), .val (.ref b278), .val (.ref b285), .val (.int got298), .unset] [(.int c28)]))
    refine g_static S297 (rmIL X c28 S297.old) (fun _ q => nomatch q) (w71 hw) (w72 hw) (w73 hw) (w74 hw) (by decide) (hb hby at_300) (by rw [hml]; rfl) [(.int c28)] (lenOf pd1 rfl) rfl rfl (Nat.le_of_ble_eq_true rfl) (Nat.le_of_ble_eq_true rfl) (Nat.le_of_ble_eq_true rfl) (Nat.le_of_ble_eq_true rfl) ?_
    intro v310 T310 V310 h310 S310 C310 q310
    obtain ⟨r309, rfl, hr309, rfl⟩ := q310
    rcases hr309 with ⟨rfl, hr309⟩ | ⟨rfl, hr309⟩
    · skip
      show Go p e below _ (T310.setTop (mkF m 303 #[.val (.int len), .val (.long la), .second, .val (.long lb), .second, .val (.int (6 : Int32)), .val (.int c28), .val (.int c29), .val (.int c30), .val (.int c31), .val (.int c32), .val (.int c33), .val (.ref b278), .val (.ref b285), .val (.int got298), .unset] [(.int (1 : Int32))]))
      refine s_ifN S310 (hb hby at_303) (by decide) (pc' := 306) rfl ?_
      refine s_aload S310 (hb hby at_306) rfl rfl (pc' := 308) rfl ?_
      refine s_iload S310 (hb hby at_308) rfl (pc' := 310) rfl ?_
      refine s_iconst S310 (hb hby at_310) (v := (1 : Int32)) rfl (pc' := 311) rfl ?_
      refine s_isub S310 (hb hby at_311) (z := (5 : Int32)) rfl (pc' := 312) rfl ?_
      show Go p e below _ (T310.setTop (mkF m 312 #[.val (.int len), .val (.long la), .second, .val (.long lb), .second, .val (.int (6 : Int32)), .val (.int c28), .val (.int c29), .val (.int c30), .val (.int c31), .val (.int c32), .val (.int c33), .val (.ref b278), .val (.ref b285), .val (.int got298), .unset] [(.int (5 : Int32)), (.ref b278)]))
      refine g_caload S310 V308 ⟨by decide, by decide⟩ (x := c33) rfl (hb hby at_312) ?_
      show Go p e below _ (T310.setTop (mkF m 313 #[.val (.int len), .val (.long la), .second, .val (.long lb), .second, .val (.int (6 : Int32)), .val (.int c28), .val (.int c29), .val (.int c30), .val (.int c31), .val (.int c32), .val (.int c33), .val (.ref b278), .val (.ref b285), .val (.int got298), .unset] [(.int c33)]))
      show Go p e below _ (T310.setTop (mkF m 313 #[.val (.int len), .val (.long la), .second, .val (.long lb), .second, .val (.int (6 : Int32)), .val (.int c28), .val (.int c29), .val (.int c30), .val (.int c31), .val (.int c32), .val (.int c33), .val (.ref b278), .val (.ref b285), .val (.int got298), .unset] [(.int c33)]))
      refine g_static S310 (rmIL X c33 S310.old) (fun _ q => nomatch q) (w71 hw) (w72 hw) (w73 hw) (w74 hw) (by decide) (hb hby at_313) (by rw [hml]; rfl) [(.int c33)] (lenOf pd1 rfl) rfl rfl (Nat.le_of_ble_eq_true rfl) (Nat.le_of_ble_eq_true rfl) (Nat.le_of_ble_eq_true rfl) (Nat.le_of_ble_eq_true rfl) ?_
      intro v312 T312 V312 h312 S312 C312 q312
      obtain ⟨r311, rfl, hr311, rfl⟩ := q312
      rcases hr311 with ⟨rfl, hr311⟩ | ⟨rfl, hr311⟩
      · skip
        show Go p e below _ (T312.setTop (mkF m 316 #[.val (.int len), .val (.long la), .second, .val (.long lb), .second, .val (.int (6 : Int32)), .val (.int c28), .val (.int c29), .val (.int c30), .val (.int c31), .val (.int c32), .val (.int c33), .val (.ref b278), .val (.ref b285), .val (.int got298), .unset] [(.int (1 : Int32))]))
        refine s_ifN S312 (hb hby at_316) (by decide) (pc' := 319) rfl ?_
        refine s_iconst S312 (hb hby at_319) (v := (0 : Int32)) rfl (pc' := 320) rfl ?_
        refine s_iload S312 (hb hby at_320) rfl (pc' := 322) rfl ?_
        refine s_iload S312 (hb hby at_322) rfl (pc' := 324) rfl ?_
        show Go p e below _ (T312.setTop (mkF m 324 #[.val (.int len), .val (.long la), .second, .val (.long lb), .second, .val (.int (6 : Int32)), .val (.int c28), .val (.int c29), .val (.int c30), .val (.int c31), .val (.int c32), .val (.int c33), .val (.ref b278), .val (.ref b285), .val (.int got298), .unset] [(.int c28), (.int (6 : Int32)), (.int (0 : Int32))]))
        refine g_static S312 (rmFI X c28 S312.old (by decide)) (fun _ q => nomatch q) (w75 hw) (w76 hw) (w73 hw) (w77 hw) (by decide) (hb hby at_324) (by rw [hml]; rfl) [(.int (0 : Int32)), (.int (6 : Int32)), (.int c28)] (lenOf pd4 rfl) rfl rfl (Nat.le_of_ble_eq_true rfl) (Nat.le_of_ble_eq_true rfl) (Nat.le_of_ble_eq_true rfl) (Nat.le_of_ble_eq_true rfl) ?_
        intro v314 T314 V314 h314 S314 C314 q314
        obtain ⟨r313, rfl, hr313, rfl⟩ := q314
        rcases hr313 with ⟨rfl, hr313⟩ | ⟨rfl, hr313⟩
        · skip
          show Go p e below _ (T314.setTop (mkF m 327 #[.val (.int len), .val (.long la), .second, .val (.long lb), .second, .val (.int (6 : Int32)), .val (.int c28), .val (.int c29), .val (.int c30), .val (.int c31), .val (.int c32), .val (.int c33), .val (.ref b278), .val (.ref b285), .val (.int got298), .unset] [(.int (1 : Int32))]))
          refine s_ifN S314 (hb hby at_327) (by decide) (pc' := 330) rfl ?_
          refine s_iconst S314 (hb hby at_330) (v := (1 : Int32)) rfl (pc' := 331) rfl ?_
          refine s_iload S314 (hb hby at_331) rfl (pc' := 333) rfl ?_
          refine s_iload S314 (hb hby at_333) rfl (pc' := 335) rfl ?_
          show Go p e below _ (T314.setTop (mkF m 335 #[.val (.int len), .val (.long la), .second, .val (.long lb), .second, .val (.int (6 : Int32)), .val (.int c28), .val (.int c29), .val (.int c30), .val (.int c31), .val (.int c32), .val (.int c33), .val (.ref b278), .val (.ref b285), .val (.int got298), .unset] [(.int c29), (.int (6 : Int32)), (.int (1 : Int32))]))
          refine g_static S314 (rmFI X c29 S314.old (by decide)) (fun _ q => nomatch q) (w75 hw) (w76 hw) (w73 hw) (w77 hw) (by decide) (hb hby at_335) (by rw [hml]; rfl) [(.int (1 : Int32)), (.int (6 : Int32)), (.int c29)] (lenOf pd4 rfl) rfl rfl (Nat.le_of_ble_eq_true rfl) (Nat.le_of_ble_eq_true rfl) (Nat.le_of_ble_eq_true rfl) (Nat.le_of_ble_eq_true rfl) ?_
          intro v316 T316 V316 h316 S316 C316 q316
          obtain ⟨r315, rfl, hr315, rfl⟩ := q316
          rcases hr315 with ⟨rfl, hr315⟩ | ⟨rfl, hr315⟩
          · skip
            show Go p e below _ (T316.setTop (mkF m 338 #[.val (.int len), .val (.long la), .second, .val (.long lb), .second, .val (.int (6 : Int32)), .val (.int c28), .val (.int c29), .val (.int c30), .val (.int c31), .val (.int c32), .val (.int c33), .val (.ref b278), .val (.ref b285), .val (.int got298), .unset] [(.int (1 : Int32))]))
            refine s_ifN S316 (hb hby at_338) (by decide) (pc' := 341) rfl ?_
            refine s_iconst S316 (hb hby at_341) (v := (2 : Int32)) rfl (pc' := 342) rfl ?_
            refine s_iload S316 (hb hby at_342) rfl (pc' := 344) rfl ?_
            refine s_iload S316 (hb hby at_344) rfl (pc' := 346) rfl ?_
            show Go p e below _ (T316.setTop (mkF m 346 #[.val (.int len), .val (.long la), .second, .val (.long lb), .second, .val (.int (6 : Int32)), .val (.int c28), .val (.int c29), .val (.int c30), .val (.int c31), .val (.int c32), .val (.int c33), .val (.ref b278), .val (.ref b285), .val (.int got298), .unset] [(.int c30), (.int (6 : Int32)), (.int (2 : Int32))]))
            refine g_static S316 (rmFI X c30 S316.old (by decide)) (fun _ q => nomatch q) (w75 hw) (w76 hw) (w73 hw) (w77 hw) (by decide) (hb hby at_346) (by rw [hml]; rfl) [(.int (2 : Int32)), (.int (6 : Int32)), (.int c30)] (lenOf pd4 rfl) rfl rfl (Nat.le_of_ble_eq_true rfl) (Nat.le_of_ble_eq_true rfl) (Nat.le_of_ble_eq_true rfl) (Nat.le_of_ble_eq_true rfl) ?_
            intro v318 T318 V318 h318 S318 C318 q318
            obtain ⟨r317, rfl, hr317, rfl⟩ := q318
            rcases hr317 with ⟨rfl, hr317⟩ | ⟨rfl, hr317⟩
            · skip
              show Go p e below _ (T318.setTop (mkF m 349 #[.val (.int len), .val (.long la), .second, .val (.long lb), .second, .val (.int (6 : Int32)), .val (.int c28), .val (.int c29), .val (.int c30), .val (.int c31), .val (.int c32), .val (.int c33), .val (.ref b278), .val (.ref b285), .val (.int got298), .unset] [(.int (1 : Int32))]))
              refine s_ifN S318 (hb hby at_349) (by decide) (pc' := 352) rfl ?_
              refine s_iconst S318 (hb hby at_352) (v := (3 : Int32)) rfl (pc' := 353) rfl ?_
              refine s_iload S318 (hb hby at_353) rfl (pc' := 355) rfl ?_
              refine s_iload S318 (hb hby at_355) rfl (pc' := 357) rfl ?_
              show Go p e below _ (T318.setTop (mkF m 357 #[.val (.int len), .val (.long la), .second, .val (.long lb), .second, .val (.int (6 : Int32)), .val (.int c28), .val (.int c29), .val (.int c30), .val (.int c31), .val (.int c32), .val (.int c33), .val (.ref b278), .val (.ref b285), .val (.int got298), .unset] [(.int c31), (.int (6 : Int32)), (.int (3 : Int32))]))
              refine g_static S318 (rmFI X c31 S318.old (by decide)) (fun _ q => nomatch q) (w75 hw) (w76 hw) (w73 hw) (w77 hw) (by decide) (hb hby at_357) (by rw [hml]; rfl) [(.int (3 : Int32)), (.int (6 : Int32)), (.int c31)] (lenOf pd4 rfl) rfl rfl (Nat.le_of_ble_eq_true rfl) (Nat.le_of_ble_eq_true rfl) (Nat.le_of_ble_eq_true rfl) (Nat.le_of_ble_eq_true rfl) ?_
              intro v320 T320 V320 h320 S320 C320 q320
              obtain ⟨r319, rfl, hr319, rfl⟩ := q320
              rcases hr319 with ⟨rfl, hr319⟩ | ⟨rfl, hr319⟩
              · skip
                show Go p e below _ (T320.setTop (mkF m 360 #[.val (.int len), .val (.long la), .second, .val (.long lb), .second, .val (.int (6 : Int32)), .val (.int c28), .val (.int c29), .val (.int c30), .val (.int c31), .val (.int c32), .val (.int c33), .val (.ref b278), .val (.ref b285), .val (.int got298), .unset] [(.int (1 : Int32))]))
                refine s_ifN S320 (hb hby at_360) (by decide) (pc' := 363) rfl ?_
                refine s_iconst S320 (hb hby at_363) (v := (4 : Int32)) rfl (pc' := 364) rfl ?_
                refine s_iload S320 (hb hby at_364) rfl (pc' := 366) rfl ?_
                refine s_iload S320 (hb hby at_366) rfl (pc' := 368) rfl ?_
                show Go p e below _ (T320.setTop (mkF m 368 #[.val (.int len), .val (.long la), .second, .val (.long lb), .second, .val (.int (6 : Int32)), .val (.int c28), .val (.int c29), .val (.int c30), .val (.int c31), .val (.int c32), .val (.int c33), .val (.ref b278), .val (.ref b285), .val (.int got298), .unset] [(.int c32), (.int (6 : Int32)), (.int (4 : Int32))]))
                refine g_static S320 (rmFI X c32 S320.old (by decide)) (fun _ q => nomatch q) (w75 hw) (w76 hw) (w73 hw) (w77 hw) (by decide) (hb hby at_368) (by rw [hml]; rfl) [(.int (4 : Int32)), (.int (6 : Int32)), (.int c32)] (lenOf pd4 rfl) rfl rfl (Nat.le_of_ble_eq_true rfl) (Nat.le_of_ble_eq_true rfl) (Nat.le_of_ble_eq_true rfl) (Nat.le_of_ble_eq_true rfl) ?_
                intro v322 T322 V322 h322 S322 C322 q322
                obtain ⟨r321, rfl, hr321, rfl⟩ := q322
                rcases hr321 with ⟨rfl, hr321⟩ | ⟨rfl, hr321⟩
                · skip
                  show Go p e below _ (T322.setTop (mkF m 371 #[.val (.int len), .val (.long la), .second, .val (.long lb), .second, .val (.int (6 : Int32)), .val (.int c28), .val (.int c29), .val (.int c30), .val (.int c31), .val (.int c32), .val (.int c33), .val (.ref b278), .val (.ref b285), .val (.int got298), .unset] [(.int (1 : Int32))]))
                  refine s_ifN S322 (hb hby at_371) (by decide) (pc' := 374) rfl ?_
                  refine s_iconst S322 (hb hby at_374) (v := (5 : Int32)) rfl (pc' := 375) rfl ?_
                  refine s_iload S322 (hb hby at_375) rfl (pc' := 377) rfl ?_
                  refine s_iload S322 (hb hby at_377) rfl (pc' := 379) rfl ?_
                  show Go p e below _ (T322.setTop (mkF m 379 #[.val (.int len), .val (.long la), .second, .val (.long lb), .second, .val (.int (6 : Int32)), .val (.int c28), .val (.int c29), .val (.int c30), .val (.int c31), .val (.int c32), .val (.int c33), .val (.ref b278), .val (.ref b285), .val (.int got298), .unset] [(.int c33), (.int (6 : Int32)), (.int (5 : Int32))]))
                  refine g_static S322 (rmFI X c33 S322.old (by decide)) (fun _ q => nomatch q) (w75 hw) (w76 hw) (w73 hw) (w77 hw) (by decide) (hb hby at_379) (by rw [hml]; rfl) [(.int (5 : Int32)), (.int (6 : Int32)), (.int c33)] (lenOf pd4 rfl) rfl rfl (Nat.le_of_ble_eq_true rfl) (Nat.le_of_ble_eq_true rfl) (Nat.le_of_ble_eq_true rfl) (Nat.le_of_ble_eq_true rfl) ?_
                  intro v324 T324 V324 h324 S324 C324 q324
                  obtain ⟨r323, rfl, hr323, rfl⟩ := q324
                  rcases hr323 with ⟨rfl, hr323⟩ | ⟨rfl, hr323⟩
                  · skip
                    show Go p e below _ (T324.setTop (mkF m 382 #[.val (.int len), .val (.long la), .second, .val (.long lb), .second, .val (.int (6 : Int32)), .val (.int c28), .val (.int c29), .val (.int c30), .val (.int c31), .val (.int c32), .val (.int c33), .val (.ref b278), .val (.ref b285), .val (.int got298), .unset] [(.int (1 : Int32))]))
                    refine s_ifN S324 (hb hby at_382) (by decide) (pc' := 385) rfl ?_
                    refine s_iconst S324 (hb hby at_385) (v := (1 : Int32)) rfl (pc' := 386) rfl ?_
                    refine s_iload S324 (hb hby at_386) rfl (pc' := 388) rfl ?_
                    refine s_iload S324 (hb hby at_388) rfl (pc' := 390) rfl ?_
                    refine s_iload S324 (hb hby at_390) rfl (pc' := 392) rfl ?_
                    show Go p e below _ (T324.setTop (mkF m 392 #[.val (.int len), .val (.long la), .second, .val (.long lb), .second, .val (.int (6 : Int32)), .val (.int c28), .val (.int c29), .val (.int c30), .val (.int c31), .val (.int c32), .val (.int c33), .val (.ref b278), .val (.ref b285), .val (.int got298), .unset] [(.int c29), (.int c28), (.int (6 : Int32)), (.int (1 : Int32))]))
                    refine g_static S324 (rmNP X c28 c29 S324.old (by decide)) (fun _ q => nomatch q) (w78 hw) (w79 hw) (w73 hw) (w80 hw) (by decide) (hb hby at_392) (by rw [hml]; rfl) [(.int (1 : Int32)), (.int (6 : Int32)), (.int c28), (.int c29)] (lenOf pd5 rfl) rfl rfl (Nat.le_of_ble_eq_true rfl) (Nat.le_of_ble_eq_true rfl) (Nat.le_of_ble_eq_true rfl) (Nat.le_of_ble_eq_true rfl) ?_
                    intro v326 T326 V326 h326 S326 C326 q326
                    obtain ⟨r325, rfl, hr325, rfl⟩ := q326
                    rcases hr325 with ⟨rfl, hr325⟩ | ⟨rfl, hr325⟩
                    · skip
                      show Go p e below _ (T326.setTop (mkF m 395 #[.val (.int len), .val (.long la), .second, .val (.long lb), .second, .val (.int (6 : Int32)), .val (.int c28), .val (.int c29), .val (.int c30), .val (.int c31), .val (.int c32), .val (.int c33), .val (.ref b278), .val (.ref b285), .val (.int got298), .unset] [(.int (1 : Int32))]))
                      refine s_ifN S326 (hb hby at_395) (by decide) (pc' := 398) rfl ?_
                      refine s_iconst S326 (hb hby at_398) (v := (2 : Int32)) rfl (pc' := 399) rfl ?_
                      refine s_iload S326 (hb hby at_399) rfl (pc' := 401) rfl ?_
                      refine s_iload S326 (hb hby at_401) rfl (pc' := 403) rfl ?_
                      refine s_iload S326 (hb hby at_403) rfl (pc' := 405) rfl ?_
                      show Go p e below _ (T326.setTop (mkF m 405 #[.val (.int len), .val (.long la), .second, .val (.long lb), .second, .val (.int (6 : Int32)), .val (.int c28), .val (.int c29), .val (.int c30), .val (.int c31), .val (.int c32), .val (.int c33), .val (.ref b278), .val (.ref b285), .val (.int got298), .unset] [(.int c30), (.int c29), (.int (6 : Int32)), (.int (2 : Int32))]))
                      refine g_static S326 (rmNP X c29 c30 S326.old (by decide)) (fun _ q => nomatch q) (w78 hw) (w79 hw) (w73 hw) (w80 hw) (by decide) (hb hby at_405) (by rw [hml]; rfl) [(.int (2 : Int32)), (.int (6 : Int32)), (.int c29), (.int c30)] (lenOf pd5 rfl) rfl rfl (Nat.le_of_ble_eq_true rfl) (Nat.le_of_ble_eq_true rfl) (Nat.le_of_ble_eq_true rfl) (Nat.le_of_ble_eq_true rfl) ?_
                      intro v328 T328 V328 h328 S328 C328 q328
                      obtain ⟨r327, rfl, hr327, rfl⟩ := q328
                      rcases hr327 with ⟨rfl, hr327⟩ | ⟨rfl, hr327⟩
                      · skip
                        show Go p e below _ (T328.setTop (mkF m 408 #[.val (.int len), .val (.long la), .second, .val (.long lb), .second, .val (.int (6 : Int32)), .val (.int c28), .val (.int c29), .val (.int c30), .val (.int c31), .val (.int c32), .val (.int c33), .val (.ref b278), .val (.ref b285), .val (.int got298), .unset] [(.int (1 : Int32))]))
                        refine s_ifN S328 (hb hby at_408) (by decide) (pc' := 411) rfl ?_
                        refine s_iconst S328 (hb hby at_411) (v := (3 : Int32)) rfl (pc' := 412) rfl ?_
                        refine s_iload S328 (hb hby at_412) rfl (pc' := 414) rfl ?_
                        refine s_iload S328 (hb hby at_414) rfl (pc' := 416) rfl ?_
                        refine s_iload S328 (hb hby at_416) rfl (pc' := 418) rfl ?_
                        show Go p e below _ (T328.setTop (mkF m 418 #[.val (.int len), .val (.long la), .second, .val (.long lb), .second, .val (.int (6 : Int32)), .val (.int c28), .val (.int c29), .val (.int c30), .val (.int c31), .val (.int c32), .val (.int c33), .val (.ref b278), .val (.ref b285), .val (.int got298), .unset] [(.int c31), (.int c30), (.int (6 : Int32)), (.int (3 : Int32))]))
                        refine g_static S328 (rmNP X c30 c31 S328.old (by decide)) (fun _ q => nomatch q) (w78 hw) (w79 hw) (w73 hw) (w80 hw) (by decide) (hb hby at_418) (by rw [hml]; rfl) [(.int (3 : Int32)), (.int (6 : Int32)), (.int c30), (.int c31)] (lenOf pd5 rfl) rfl rfl (Nat.le_of_ble_eq_true rfl) (Nat.le_of_ble_eq_true rfl) (Nat.le_of_ble_eq_true rfl) (Nat.le_of_ble_eq_true rfl) ?_
                        intro v330 T330 V330 h330 S330 C330 q330
                        obtain ⟨r329, rfl, hr329, rfl⟩ := q330
                        rcases hr329 with ⟨rfl, hr329⟩ | ⟨rfl, hr329⟩
                        · skip
                          show Go p e below _ (T330.setTop (mkF m 421 #[.val (.int len), .val (.long la), .second, .val (.long lb), .second, .val (.int (6 : Int32)), .val (.int c28), .val (.int c29), .val (.int c30), .val (.int c31), .val (.int c32), .val (.int c33), .val (.ref b278), .val (.ref b285), .val (.int got298), .unset] [(.int (1 : Int32))]))
                          refine s_ifN S330 (hb hby at_421) (by decide) (pc' := 424) rfl ?_
                          refine s_iconst S330 (hb hby at_424) (v := (4 : Int32)) rfl (pc' := 425) rfl ?_
                          refine s_iload S330 (hb hby at_425) rfl (pc' := 427) rfl ?_
                          refine s_iload S330 (hb hby at_427) rfl (pc' := 429) rfl ?_
                          refine s_iload S330 (hb hby at_429) rfl (pc' := 431) rfl ?_
                          show Go p e below _ (T330.setTop (mkF m 431 #[.val (.int len), .val (.long la), .second, .val (.long lb), .second, .val (.int (6 : Int32)), .val (.int c28), .val (.int c29), .val (.int c30), .val (.int c31), .val (.int c32), .val (.int c33), .val (.ref b278), .val (.ref b285), .val (.int got298), .unset] [(.int c32), (.int c31), (.int (6 : Int32)), (.int (4 : Int32))]))
                          refine g_static S330 (rmNP X c31 c32 S330.old (by decide)) (fun _ q => nomatch q) (w78 hw) (w79 hw) (w73 hw) (w80 hw) (by decide) (hb hby at_431) (by rw [hml]; rfl) [(.int (4 : Int32)), (.int (6 : Int32)), (.int c31), (.int c32)] (lenOf pd5 rfl) rfl rfl (Nat.le_of_ble_eq_true rfl) (Nat.le_of_ble_eq_true rfl) (Nat.le_of_ble_eq_true rfl) (Nat.le_of_ble_eq_true rfl) ?_
                          intro v332 T332 V332 h332 S332 C332 q332
                          obtain ⟨r331, rfl, hr331, rfl⟩ := q332
                          rcases hr331 with ⟨rfl, hr331⟩ | ⟨rfl, hr331⟩
                          · skip
                            show Go p e below _ (T332.setTop (mkF m 434 #[.val (.int len), .val (.long la), .second, .val (.long lb), .second, .val (.int (6 : Int32)), .val (.int c28), .val (.int c29), .val (.int c30), .val (.int c31), .val (.int c32), .val (.int c33), .val (.ref b278), .val (.ref b285), .val (.int got298), .unset] [(.int (1 : Int32))]))
                            refine s_ifN S332 (hb hby at_434) (by decide) (pc' := 437) rfl ?_
                            refine s_iconst S332 (hb hby at_437) (v := (5 : Int32)) rfl (pc' := 438) rfl ?_
                            refine s_iload S332 (hb hby at_438) rfl (pc' := 440) rfl ?_
                            refine s_iload S332 (hb hby at_440) rfl (pc' := 442) rfl ?_
                            refine s_iload S332 (hb hby at_442) rfl (pc' := 444) rfl ?_
                            show Go p e below _ (T332.setTop (mkF m 444 #[.val (.int len), .val (.long la), .second, .val (.long lb), .second, .val (.int (6 : Int32)), .val (.int c28), .val (.int c29), .val (.int c30), .val (.int c31), .val (.int c32), .val (.int c33), .val (.ref b278), .val (.ref b285), .val (.int got298), .unset] [(.int c33), (.int c32), (.int (6 : Int32)), (.int (5 : Int32))]))
                            refine g_static S332 (rmNP X c32 c33 S332.old (by decide)) (fun _ q => nomatch q) (w78 hw) (w79 hw) (w73 hw) (w80 hw) (by decide) (hb hby at_444) (by rw [hml]; rfl) [(.int (5 : Int32)), (.int (6 : Int32)), (.int c32), (.int c33)] (lenOf pd5 rfl) rfl rfl (Nat.le_of_ble_eq_true rfl) (Nat.le_of_ble_eq_true rfl) (Nat.le_of_ble_eq_true rfl) (Nat.le_of_ble_eq_true rfl) ?_
                            intro v334 T334 V334 h334 S334 C334 q334
                            obtain ⟨r333, rfl, hr333, rfl⟩ := q334
                            rcases hr333 with ⟨rfl, hr333⟩ | ⟨rfl, hr333⟩
                            · skip
                              show Go p e below _ (T334.setTop (mkF m 447 #[.val (.int len), .val (.long la), .second, .val (.long lb), .second, .val (.int (6 : Int32)), .val (.int c28), .val (.int c29), .val (.int c30), .val (.int c31), .val (.int c32), .val (.int c33), .val (.ref b278), .val (.ref b285), .val (.int got298), .unset] [(.int (1 : Int32))]))
                              refine s_ifN S334 (hb hby at_447) (by decide) (pc' := 450) rfl ?_
                              refine s_iconst S334 (hb hby at_450) (v := (1 : Int32)) rfl (pc' := 451) rfl ?_
                              refine s_goto S334 (hb hby at_451) (by decide) (pcT := 455) (by decide) ?_
                              exact K299 _ _ S334 _ (Or.inl ⟨rfl, hr309, hr311, hr313, hr315, hr317, hr319, hr321, hr323, hr325, hr327, hr329, hr331, hr333⟩)
                            · skip
                              show Go p e below _ (T334.setTop (mkF m 447 #[.val (.int len), .val (.long la), .second, .val (.long lb), .second, .val (.int (6 : Int32)), .val (.int c28), .val (.int c29), .val (.int c30), .val (.int c31), .val (.int c32), .val (.int c33), .val (.ref b278), .val (.ref b285), .val (.int got298), .unset] [(.int (0 : Int32))]))
                              refine s_ifY S334 (hb hby at_447) (by decide) (by decide) (pcT := 454) (by decide) ?_
                              refine s_iconst S334 (hb hby at_454) (v := (0 : Int32)) rfl (pc' := 455) rfl ?_
                              exact K299 _ _ S334 _ (Or.inr ⟨rfl, fun q => hr333 q.2.2.2.2.2.2.2.2.2.2.2.2⟩)
                          · skip
                            show Go p e below _ (T332.setTop (mkF m 434 #[.val (.int len), .val (.long la), .second, .val (.long lb), .second, .val (.int (6 : Int32)), .val (.int c28), .val (.int c29), .val (.int c30), .val (.int c31), .val (.int c32), .val (.int c33), .val (.ref b278), .val (.ref b285), .val (.int got298), .unset] [(.int (0 : Int32))]))
                            refine s_ifY S332 (hb hby at_434) (by decide) (by decide) (pcT := 454) (by decide) ?_
                            refine s_iconst S332 (hb hby at_454) (v := (0 : Int32)) rfl (pc' := 455) rfl ?_
                            exact K299 _ _ S332 _ (Or.inr ⟨rfl, fun q => hr331 q.2.2.2.2.2.2.2.2.2.2.2.1⟩)
                        · skip
                          show Go p e below _ (T330.setTop (mkF m 421 #[.val (.int len), .val (.long la), .second, .val (.long lb), .second, .val (.int (6 : Int32)), .val (.int c28), .val (.int c29), .val (.int c30), .val (.int c31), .val (.int c32), .val (.int c33), .val (.ref b278), .val (.ref b285), .val (.int got298), .unset] [(.int (0 : Int32))]))
                          refine s_ifY S330 (hb hby at_421) (by decide) (by decide) (pcT := 454) (by decide) ?_
                          refine s_iconst S330 (hb hby at_454) (v := (0 : Int32)) rfl (pc' := 455) rfl ?_
                          exact K299 _ _ S330 _ (Or.inr ⟨rfl, fun q => hr329 q.2.2.2.2.2.2.2.2.2.2.1⟩)
                      · skip
                        show Go p e below _ (T328.setTop (mkF m 408 #[.val (.int len), .val (.long la), .second, .val (.long lb), .second, .val (.int (6 : Int32)), .val (.int c28), .val (.int c29), .val (.int c30), .val (.int c31), .val (.int c32), .val (.int c33), .val (.ref b278), .val (.ref b285), .val (.int got298), .unset] [(.int (0 : Int32))]))
                        refine s_ifY S328 (hb hby at_408) (by decide) (by decide) (pcT := 454) (by decide) ?_
                        refine s_iconst S328 (hb hby at_454) (v := (0 : Int32)) rfl (pc' := 455) rfl ?_
                        exact K299 _ _ S328 _ (Or.inr ⟨rfl, fun q => hr327 q.2.2.2.2.2.2.2.2.2.1⟩)
                    · skip
                      show Go p e below _ (T326.setTop (mkF m 395 #[.val (.int len), .val (.long la), .second, .val (.long lb), .second, .val (.int (6 : Int32)), .val (.int c28), .val (.int c29), .val (.int c30), .val (.int c31), .val (.int c32), .val (.int c33), .val (.ref b278), .val (.ref b285), .val (.int got298), .unset] [(.int (0 : Int32))]))
                      refine s_ifY S326 (hb hby at_395) (by decide) (by decide) (pcT := 454) (by decide) ?_
                      refine s_iconst S326 (hb hby at_454) (v := (0 : Int32)) rfl (pc' := 455) rfl ?_
                      exact K299 _ _ S326 _ (Or.inr ⟨rfl, fun q => hr325 q.2.2.2.2.2.2.2.2.1⟩)
                  · skip
                    show Go p e below _ (T324.setTop (mkF m 382 #[.val (.int len), .val (.long la), .second, .val (.long lb), .second, .val (.int (6 : Int32)), .val (.int c28), .val (.int c29), .val (.int c30), .val (.int c31), .val (.int c32), .val (.int c33), .val (.ref b278), .val (.ref b285), .val (.int got298), .unset] [(.int (0 : Int32))]))
                    refine s_ifY S324 (hb hby at_382) (by decide) (by decide) (pcT := 454) (by decide) ?_
                    refine s_iconst S324 (hb hby at_454) (v := (0 : Int32)) rfl (pc' := 455) rfl ?_
                    exact K299 _ _ S324 _ (Or.inr ⟨rfl, fun q => hr323 q.2.2.2.2.2.2.2.1⟩)
                · skip
                  show Go p e below _ (T322.setTop (mkF m 371 #[.val (.int len), .val (.long la), .second, .val (.long lb), .second, .val (.int (6 : Int32)), .val (.int c28), .val (.int c29), .val (.int c30), .val (.int c31), .val (.int c32), .val (.int c33), .val (.ref b278), .val (.ref b285), .val (.int got298), .unset] [(.int (0 : Int32))]))
                  refine s_ifY S322 (hb hby at_371) (by decide) (by decide) (pcT := 454) (by decide) ?_
                  refine s_iconst S322 (hb hby at_454) (v := (0 : Int32)) rfl (pc' := 455) rfl ?_
                  exact K299 _ _ S322 _ (Or.inr ⟨rfl, fun q => hr321 q.2.2.2.2.2.2.1⟩)
              · skip
                show Go p e below _ (T320.setTop (mkF m 360 #[.val (.int len), .val (.long la), .second, .val (.long lb), .second, .val (.int (6 : Int32)), .val (.int c28), .val (.int c29), .val (.int c30), .val (.int c31), .val (.int c32), .val (.int c33), .val (.ref b278), .val (.ref b285), .val (.int got298), .unset] [(.int (0 : Int32))]))
                refine s_ifY S320 (hb hby at_360) (by decide) (by decide) (pcT := 454) (by decide) ?_
                refine s_iconst S320 (hb hby at_454) (v := (0 : Int32)) rfl (pc' := 455) rfl ?_
                exact K299 _ _ S320 _ (Or.inr ⟨rfl, fun q => hr319 q.2.2.2.2.2.1⟩)
            · skip
              show Go p e below _ (T318.setTop (mkF m 349 #[.val (.int len), .val (.long la), .second, .val (.long lb), .second, .val (.int (6 : Int32)), .val (.int c28), .val (.int c29), .val (.int c30), .val (.int c31), .val (.int c32), .val (.int c33), .val (.ref b278), .val (.ref b285), .val (.int got298), .unset] [(.int (0 : Int32))]))
              refine s_ifY S318 (hb hby at_349) (by decide) (by decide) (pcT := 454) (by decide) ?_
              refine s_iconst S318 (hb hby at_454) (v := (0 : Int32)) rfl (pc' := 455) rfl ?_
              exact K299 _ _ S318 _ (Or.inr ⟨rfl, fun q => hr317 q.2.2.2.2.1⟩)
          · skip
            show Go p e below _ (T316.setTop (mkF m 338 #[.val (.int len), .val (.long la), .second, .val (.long lb), .second, .val (.int (6 : Int32)), .val (.int c28), .val (.int c29), .val (.int c30), .val (.int c31), .val (.int c32), .val (.int c33), .val (.ref b278), .val (.ref b285), .val (.int got298), .unset] [(.int (0 : Int32))]))
            refine s_ifY S316 (hb hby at_338) (by decide) (by decide) (pcT := 454) (by decide) ?_
            refine s_iconst S316 (hb hby at_454) (v := (0 : Int32)) rfl (pc' := 455) rfl ?_
            exact K299 _ _ S316 _ (Or.inr ⟨rfl, fun q => hr315 q.2.2.2.1⟩)
        · skip
          show Go p e below _ (T314.setTop (mkF m 327 #[.val (.int len), .val (.long la), .second, .val (.long lb), .second, .val (.int (6 : Int32)), .val (.int c28), .val (.int c29), .val (.int c30), .val (.int c31), .val (.int c32), .val (.int c33), .val (.ref b278), .val (.ref b285), .val (.int got298), .unset] [(.int (0 : Int32))]))
          refine s_ifY S314 (hb hby at_327) (by decide) (by decide) (pcT := 454) (by decide) ?_
          refine s_iconst S314 (hb hby at_454) (v := (0 : Int32)) rfl (pc' := 455) rfl ?_
          exact K299 _ _ S314 _ (Or.inr ⟨rfl, fun q => hr313 q.2.2.1⟩)
      · skip
        show Go p e below _ (T312.setTop (mkF m 316 #[.val (.int len), .val (.long la), .second, .val (.long lb), .second, .val (.int (6 : Int32)), .val (.int c28), .val (.int c29), .val (.int c30), .val (.int c31), .val (.int c32), .val (.int c33), .val (.ref b278), .val (.ref b285), .val (.int got298), .unset] [(.int (0 : Int32))]))
        refine s_ifY S312 (hb hby at_316) (by decide) (by decide) (pcT := 454) (by decide) ?_
        refine s_iconst S312 (hb hby at_454) (v := (0 : Int32)) rfl (pc' := 455) rfl ?_
        exact K299 _ _ S312 _ (Or.inr ⟨rfl, fun q => hr311 q.2.1⟩)
    · skip
      show Go p e below _ (T310.setTop (mkF m 303 #[.val (.int len), .val (.long la), .second, .val (.long lb), .second, .val (.int (6 : Int32)), .val (.int c28), .val (.int c29), .val (.int c30), .val (.int c31), .val (.int c32), .val (.int c33), .val (.ref b278), .val (.ref b285), .val (.int got298), .unset] [(.int (0 : Int32))]))
      refine s_ifY S310 (hb hby at_303) (by decide) (by decide) (pcT := 454) (by decide) ?_
      refine s_iconst S310 (hb hby at_454) (v := (0 : Int32)) rfl (pc' := 455) rfl ?_
      exact K299 _ _ S310 _ (Or.inr ⟨rfl, fun q => hr309 q.1⟩)
set_option maxRecDepth 65536 in
set_option maxHeartbeats 40000000 in
theorem comes_1 {Post : Tables → Env → Array Value → State → Outcome → State → Prop} (hpost : ∀ tb e args s v u, (limb_1_1.after args s (.returned v) u = true ∧ limb_1_2.after args s (.returned v) u = true) → FramedW s (.returned v) u (Jvm.fieldLocs frame_1_writes args s ++ Jvm.arrayLocs frame_1_arrays args s ++ Jvm.staticLocs frame_1_statics s) 24 1152 → Post tb e args s (.returned v) u) :
    ArmFor flags0 classFile x code maxLocals ret World_1 tables_1 room_1 Calls_1 rest_1 Pre_1 Post := by
  intro l hfl _ _ p e ha hc hk s m args below hf hA hF happ hP
  obtain ⟨hcalls, hrest, hpre⟩ := hP
  obtain ⟨-, -, -, hnamed, -, -, -, hat⟩ := (Spec.applies_iff hf).mp happ
  obtain ⟨hg, hn⟩ := and_e (Cond.before_iff.mp (show (Jvm.Cond.and given_1 narrow_1).before args s = true from hpre))
  obtain ⟨hcount, hgiven⟩ := and_e hg
  obtain ⟨hg0, hr0⟩ := and_e hgiven
  obtain ⟨hg1, hr1⟩ := and_e hr0
  obtain ⟨wa, wb, wc, rfl⟩ : ∃ wa wb wc : Value, args = #[wa, wb, wc] := by
    have hs : args.size = 3 := by simpa [Cond.value, given_1] using hcount
    obtain ⟨L⟩ := args
    match L, hs with
    | [wa, wb, wc], _ => exact ⟨wa, wb, wc, rfl⟩
  have hw : HW _ s := fun d (hd : d ∈ tables_1) => atoms_spec (ws := Jvm.Cond.code x code maxLocals ret :: tables_1) hat d (List.mem_cons_of_mem _ hd)
  obtain ⟨hsets, hown0⟩ := atoms_of _ (rest_1_c_eq ▸ (show rest_1_c.before _ s = true from hrest))
  obtain ⟨i0, ei0⟩ := is_v hg0
  obtain rfl : wa = (.int i0) := Option.some.inj ei0
  obtain ⟨i1, ei1⟩ := isL_v hg1
  obtain rfl : wb = (.long i1) := Option.some.inj ei1
  obtain ⟨i2, ei2⟩ := isL_v hr1
  obtain rfl : wc = (.long i2) := Option.some.inj ei2
  obtain ⟨z1, ez1⟩ := is_v (Cond.before_iff.mp (hsets _ (List.mem_of_getElem? (i := 1) rfl)))
  have Sz1 : Sta s s.heap "java/lang/String" "COMPACT_STRINGS" "Z" (.int z1) := Sta.start ez1 (Or.inl (hsets _ (List.mem_of_getElem? (i := 0) rfl)))
  obtain ⟨v2, ev2, rv2⟩ := isR_v (Cond.before_iff.mp (hsets _ (List.mem_of_getElem? (i := 8) rfl)))
  have Sv2 : Sta s s.heap "jdk/internal/util/Preconditions" "SIOOBE_FORMATTER" "Ljava/util/function/BiFunction;" v2 := Sta.start ev2 (Or.inl (hsets _ (List.mem_of_getElem? (i := 7) rfl)))
  have cz1 : ¬ (z1 = (0 : Int32)) := gotF (Cond.eq_ints ez1 (Term.int_eval (0))) (not_v (Cond.before_iff.mp (hsets _ (List.mem_of_getElem? (i := 2) rfl))))
  have hEW : EW s _ EL1 := (EW.cons (hw _ (List.mem_of_getElem? (i := 16) rfl)) (by decide +kernel) EW.nil)
  have hCH : CHv s EL1 s.vm s.heap := CHv.start hEW (fun q hq => hcalls.1 q ((by decide : ∀ q ∈ EL1, q ∈ consts_1) q hq)) (hsets _ (List.mem_of_getElem? (i := 2) rfl)) (w17 hw) (w4 hw)
  have X : Ctx s _ := ⟨hw, hEW, ⟨z1, Sz1, cz1⟩, v2, Sv2, rv2⟩
  obtain ⟨n, o, h1, h2, h3, v, L, rfl, ⟨⟨rfl, -⟩, N, -⟩, -, hq⟩ := rmL (l := l) X i0 i1 i2 (Old.start s) tables_1 p e ha hc hk s m _ below hf ((Spec.applies_iff_loose hf).mp happ).1 ⟨rfl, State.Warmed39.refl s, rfl, hCH, fun _ q => nomatch q⟩ trivial
  refine ⟨n, _, h1, h2, h3, hpost _ _ _ _ _ _ ⟨Cond.after_iff.mpr rfl, Cond.after_iff.mpr (eq_i res_at (Term.int_eval (1)) rfl)⟩ ⟨hq.1, hq.2.1, hq.2.2.1, (hq.2.2.2.sift fun y hy => Or.inr (N y hy)).mono (by decide) (by decide)⟩⟩
theorem main_1_1 : Claimed_1_1 := comes_1 fun _ _ _ _ _ _ h hF => ⟨h.1, hF⟩
theorem main_1_2 : Claimed_1_2 := comes_1 fun _ _ _ _ _ _ h hF => ⟨h.2, hF⟩
end Jvm.Pilot.@@N@@
namespace Jvm.Pilot.@@N@@
open Jvm Jvm.ClassFile Sem Op Lib Jvm.Free Jvm.Stand Jvm.Pilot.@@N@@.Jvm.D
/-! MADE BY PROGRAM (witnessworld.py) out of the Statement's table words and the real class files: 20 classes; the members and pool entries that the words name. The judged class is class 1, her method 5. -/
namespace start1
open Jvm.ClassFile
def u (s : String) : CpInfo := .utf8 (stringToUtf16 s)
/-- a pool by its gaps: so many unusable entries, then the entry; so many at the end -/
def gap : Nat → List CpInfo → List CpInfo
  | 0, r => r
  | n + 1, r => .unusable :: gap n r
def poolList (es : List (Nat × CpInfo)) (last : Nat) : List CpInfo := es.foldr (fun e r => gap e.1 (e.2 :: r)) (gap last [])
def pool (es : List (Nat × CpInfo)) (last : Nat) : Array CpInfo := ⟨poolList es last⟩
def fileOf (pool : Array CpInfo) (this : Nat) (attrs : Array Attribute := #[]) (ms : Array MethodInfo := #[]) (fl : Nat := 33) (sup : Nat := 0) (ifs : Array Nat := #[]) (fds : Array FieldInfo := #[]) : ClassFile where
  minorVersion := 0
  majorVersion := 65
  constantPool := pool
  accessFlags := fl
  thisClass := this
  superClass := sup
  interfaces := ifs
  fields := fds
  methods := ms
  attributes := attrs
def plain (name : String) (sup : Option ClassId) : Class where
  name := name
  kind := .ordinary
  loader := none
  accessFlags := 33
  super := sup
  interfaces := #[]
  cf := none
  fields := #[]
  methods := #[]
  instanceTypes := #[]
  staticTypes := #[]
  resolved := #[]
  callSites := []
  init := .initialized
  statics := none
  mirror := none

def pool0 : Array CpInfo := pool [(5, u "<init>"), (0, u "()V"), (1, .class_ 10), (1, u "java/lang/Object")] 113

def k0c0 : Code := { maxStack := 0, maxLocals := 1, code := object_method_1_code, exceptionTable := #[], attributes := #[] }
def k0m0 : Method := { name := "<init>", desc := "()V", sig := { parameters := [], returnType := none }, accessFlags := 1, code := some k0c0 }
/-- java/lang/Object -/
def k0 : Class := { plain "java/lang/Object" none with
  accessFlags := 33
  interfaces := #[]
  cf := some (fileOf pool0 8 #[] #[{ accessFlags := 1, nameIndex := 5, descriptorIndex := 6, attributes := #[] }] 33 0 #[] #[])
  fields := #[]
  methods := #[k0m0]
  instanceTypes := #[]
  staticTypes := #[]
  resolved := Array.replicate 124 none
  statics := none }

def pool1 : Array CpInfo := pool [(2, .class_ 4), (1, u "java/lang/Object"), (0, u "<init>"), (0, u "()V"), (0, .methodref 8 9), (0, .class_ 10), (0, .nameAndType 11 12), (0, u "com/example/remora/remora/MethodsIsMethodNamePinLaw"), (0, u "isL"), (0, u "(C)Z"), (0, .methodref 8 14), (0, .nameAndType 15 12), (0, u "isH"), (0, .integer 2147483647), (0, .long 255), (1, .class_ 20), (0, u "java/lang/String"), (0, .methodref 19 22), (0, .nameAndType 5 23), (0, u "([C)V"), (0, .methodref 25 26), (0, .class_ 27), (0, .nameAndType 28 29), (0, u "com/example/remora/remora/Methods"), (0, u "isMethodName"), (0, u "(Ljava/lang/String;)Z"), (0, .methodref 8 31), (0, .nameAndType 32 33), (0, u "fine"), (0, u "(IIC)Z"), (0, .methodref 8 35), (0, .nameAndType 36 37), (0, u "noPair"), (0, u "(IICC)Z"), (3, u "law"), (0, u "(IJJ)Z")] 4

def k1m0 : Method := { name := "<init>", desc := "()V", sig := { parameters := [], returnType := none }, accessFlags := 1, code := none }
def k1c1 : Code := { maxStack := 2, maxLocals := 1, code := method_2_code, exceptionTable := #[], attributes := #[] }
def k1m1 : Method := { name := "isL", desc := "(C)Z", sig := { parameters := [.char], returnType := some .boolean }, accessFlags := 10, code := some k1c1 }
def k1c2 : Code := { maxStack := 2, maxLocals := 1, code := method_3_code, exceptionTable := #[], attributes := #[] }
def k1m2 : Method := { name := "isH", desc := "(C)Z", sig := { parameters := [.char], returnType := some .boolean }, accessFlags := 10, code := some k1c2 }
def k1c3 : Code := { maxStack := 2, maxLocals := 3, code := method_4_code, exceptionTable := #[], attributes := #[] }
def k1m3 : Method := { name := "fine", desc := "(IIC)Z", sig := { parameters := [.int, .int, .char], returnType := some .boolean }, accessFlags := 10, code := some k1c3 }
def k1c4 : Code := { maxStack := 2, maxLocals := 4, code := method_5_code, exceptionTable := #[], attributes := #[] }
def k1m4 : Method := { name := "noPair", desc := "(IICC)Z", sig := { parameters := [.int, .int, .char, .char], returnType := some .boolean }, accessFlags := 10, code := some k1c4 }
def k1c5 : Code := { maxStack := 4, maxLocals := 16, code := code, exceptionTable := #[], attributes := #[] }
def k1m5 : Method := { name := "law", desc := "(IJJ)Z", sig := { parameters := [.int, .long, .long], returnType := some .boolean }, accessFlags := 9, code := some k1c5 }
/-- com/example/remora/remora/MethodsIsMethodNamePinLaw -/
def k1 : Class := { plain "com/example/remora/remora/MethodsIsMethodNamePinLaw" (some 0) with
  accessFlags := 49
  interfaces := #[]
  cf := some (fileOf pool1 8 #[] #[{ accessFlags := 1, nameIndex := 5, descriptorIndex := 6, attributes := #[] }, { accessFlags := 10, nameIndex := 11, descriptorIndex := 12, attributes := #[] }, { accessFlags := 10, nameIndex := 15, descriptorIndex := 12, attributes := #[] }, { accessFlags := 10, nameIndex := 32, descriptorIndex := 33, attributes := #[] }, { accessFlags := 10, nameIndex := 36, descriptorIndex := 37, attributes := #[] }, { accessFlags := 9, nameIndex := 41, descriptorIndex := 42, attributes := #[] }] 49 2 #[] #[])
  fields := #[]
  methods := #[k1m0, k1m1, k1m2, k1m3, k1m4, k1m5]
  instanceTypes := #[]
  staticTypes := #[]
  resolved := Array.replicate 47 none
  statics := none }

def pool2 : Array CpInfo := pool [(1, .class_ 2), (0, u "java/io/Serializable"), (0, .class_ 4), (0, u "java/lang/Object")] 2

/-- java/io/Serializable -/
def k2 : Class := { plain "java/io/Serializable" (some 0) with
  accessFlags := 1537
  interfaces := #[]
  cf := some (fileOf pool2 1 #[] #[] 1537 3 #[] #[])
  fields := #[]
  methods := #[]
  instanceTypes := #[]
  staticTypes := #[]
  resolved := Array.replicate 7 none
  statics := none }

def pool3 : Array CpInfo := pool [(1, .class_ 2), (0, u "java/lang/Comparable"), (0, .class_ 4), (0, u "java/lang/Object")] 7

/-- java/lang/Comparable -/
def k3 : Class := { plain "java/lang/Comparable" (some 0) with
  accessFlags := 1537
  interfaces := #[]
  cf := some (fileOf pool3 1 #[] #[] 1537 3 #[] #[])
  fields := #[]
  methods := #[]
  instanceTypes := #[]
  staticTypes := #[]
  resolved := Array.replicate 12 none
  statics := none }

def pool4 : Array CpInfo := pool [(2, .class_ 4), (1, u "java/lang/CharSequence"), (42, .class_ 48), (0, u "java/lang/CharSequence$1CodePointIterator"), (10, .class_ 60), (0, u "java/lang/CharSequence$1CharIterator"), (5, .class_ 67), (0, u "java/lang/Object")] 63

/-- java/lang/CharSequence -/
def k4 : Class := { plain "java/lang/CharSequence" (some 0) with
  accessFlags := 1537
  interfaces := #[]
  cf := some (fileOf pool4 2 #[.nestMembers #[47, 59]] #[] 1537 66 #[] #[])
  fields := #[]
  methods := #[]
  instanceTypes := #[]
  staticTypes := #[]
  resolved := Array.replicate 131 none
  statics := none }

def pool5 : Array CpInfo := pool [(1, .class_ 2), (0, u "java/lang/constant/Constable"), (0, .class_ 4), (0, u "java/lang/Object")] 6

/-- java/lang/constant/Constable -/
def k5 : Class := { plain "java/lang/constant/Constable" (some 0) with
  accessFlags := 1537
  interfaces := #[]
  cf := some (fileOf pool5 1 #[] #[] 1537 3 #[] #[])
  fields := #[]
  methods := #[]
  instanceTypes := #[]
  staticTypes := #[]
  resolved := Array.replicate 11 none
  statics := none }

def pool6 : Array CpInfo := pool [(1, .class_ 2), (0, u "java/lang/constant/ConstantDesc"), (0, .class_ 4), (0, u "java/lang/Object")] 32

/-- java/lang/constant/ConstantDesc -/
def k6 : Class := { plain "java/lang/constant/ConstantDesc" (some 0) with
  accessFlags := 1537
  interfaces := #[]
  cf := some (fileOf pool6 1 #[] #[] 1537 3 #[] #[])
  fields := #[]
  methods := #[]
  instanceTypes := #[]
  staticTypes := #[]
  resolved := Array.replicate 37 none
  statics := none }

def pool7 : Array CpInfo := pool [(1, .methodref 2 3), (0, .class_ 4), (0, .nameAndType 5 6), (0, u "java/lang/Object"), (0, u "<init>"), (0, u "()V"), (0, .string 8), (0, u ""), (0, .fieldref 10 11), (0, .class_ 12), (0, .nameAndType 13 14), (0, u "java/lang/String"), (0, u "value"), (0, u "[B"), (0, .fieldref 10 16), (0, .nameAndType 17 18), (0, u "coder"), (0, u "B"), (2, u "hash"), (0, u "I"), (2, u "hashIsZero"), (0, u "Z"), (0, .methodref 10 28), (0, .nameAndType 5 29), (0, u "([CIILjava/lang/Void;)V"), (8, .fieldref 10 39), (0, .nameAndType 40 26), (0, u "COMPACT_STRINGS"), (1, .class_ 44), (1, u "java/lang/StringUTF16"), (0, u "compress"), (1, .methodref 42 48), (0, .nameAndType 49 50), (0, u "coderFromArrayLen"), (0, u "([BI)B"), (56, .class_ 109), (1, u "java/lang/StringLatin1"), (32, u "()Z"), (34, .methodref 42 178), (0, .nameAndType 45 179), (0, u "([CII)[B"), (154, u "()I"), (0, .methodref 10 336), (0, .nameAndType 17 337), (0, u "()B"), (25, u "([BI)C"), (27, u "(II)V"), (35, u "(I)C"), (64, .methodref 10 493), (0, .nameAndType 494 142), (0, u "isLatin1"), (0, .methodref 107 496), (0, .nameAndType 497 363), (0, u "charAt"), (3, u "checkIndex"), (5, u "length"), (67, .class_ 576), (0, u "java/lang/CharSequence"), (22, u "CASE_INSENSITIVE_ORDER"), (0, u "Ljava/util/Comparator;"), (409, u "([C)V"), (42, .fieldref 1054 1055), (0, .class_ 1056), (0, .nameAndType 1057 1058), (0, u "jdk/internal/util/Preconditions"), (0, u "SIOOBE_FORMATTER"), (0, u "Ljava/util/function/BiFunction;"), (0, .methodref 1054 1060), (0, .nameAndType 501 1061), (0, u "(IILjava/util/function/BiFunction;)I"), (39, u "serialPersistentFields"), (0, u "[Ljava/io/ObjectStreamField;"), (0, .class_ 1104), (0, u "java/lang/String$CaseInsensitiveComparator"), (1, .class_ 1107), (0, u "java/io/Serializable"), (0, .class_ 1109), (0, u "java/lang/Comparable"), (0, .class_ 1111), (0, u "java/lang/constant/Constable"), (0, .class_ 1113), (0, u "java/lang/constant/ConstantDesc"), (2, u "serialVersionUID"), (0, u "J"), (3, u "REPL"), (0, u "C"), (2, u "LATIN1"), (1, u "UTF16")] 323

def k7m0 : Method := { name := "<init>", desc := "()V", sig := { parameters := [], returnType := none }, accessFlags := 1, code := none }
def k7c1 : Code := { maxStack := 5, maxLocals := 2, code := jdk_42_method_3_code, exceptionTable := #[], attributes := #[] }
def k7m1 : Method := { name := "<init>", desc := "([C)V", sig := { parameters := [(.array .char)], returnType := none }, accessFlags := 1, code := some k7c1 }
def k7c2 : Code := { maxStack := 2, maxLocals := 1, code := jdk_42_method_54_code, exceptionTable := #[], attributes := #[] }
def k7m2 : Method := { name := "length", desc := "()I", sig := { parameters := [], returnType := some .int }, accessFlags := 1, code := some k7c2 }
def k7c3 : Code := { maxStack := 2, maxLocals := 2, code := jdk_42_method_56_code, exceptionTable := #[], attributes := #[] }
def k7m3 : Method := { name := "charAt", desc := "(I)C", sig := { parameters := [.int], returnType := some .char }, accessFlags := 1, code := some k7c3 }
def k7c4 : Code := { maxStack := 4, maxLocals := 6, code := jdk_42_method_149_code, exceptionTable := #[], attributes := #[] }
def k7m4 : Method := { name := "<init>", desc := "([CIILjava/lang/Void;)V", sig := { parameters := [(.array .char), .int, .int, (.object "java/lang/Void")], returnType := none }, accessFlags := 2, code := some k7c4 }
def k7c5 : Code := { maxStack := 1, maxLocals := 1, code := jdk_42_method_152_code, exceptionTable := #[], attributes := #[] }
def k7m5 : Method := { name := "coder", desc := "()B", sig := { parameters := [], returnType := some .byte }, accessFlags := 0, code := some k7c5 }
def k7c6 : Code := { maxStack := 1, maxLocals := 1, code := jdk_42_method_154_code, exceptionTable := #[], attributes := #[] }
def k7m6 : Method := { name := "isLatin1", desc := "()Z", sig := { parameters := [], returnType := some .boolean }, accessFlags := 0, code := some k7c6 }
def k7c7 : Code := { maxStack := 3, maxLocals := 2, code := jdk_42_method_155_code, exceptionTable := #[], attributes := #[] }
def k7m7 : Method := { name := "checkIndex", desc := "(II)V", sig := { parameters := [.int, .int], returnType := none }, accessFlags := 8, code := some k7c7 }
/-- java/lang/String -/
def k7 : Class := { plain "java/lang/String" (some 0) with
  accessFlags := 49
  interfaces := #[2, 3, 4, 5, 6]
  cf := some (fileOf pool7 10 #[.nestMembers #[1103]] #[{ accessFlags := 1, nameIndex := 5, descriptorIndex := 6, attributes := #[] }, { accessFlags := 1, nameIndex := 5, descriptorIndex := 1010, attributes := #[] }, { accessFlags := 1, nameIndex := 507, descriptorIndex := 334, attributes := #[] }, { accessFlags := 1, nameIndex := 497, descriptorIndex := 427, attributes := #[] }, { accessFlags := 2, nameIndex := 5, descriptorIndex := 29, attributes := #[] }, { accessFlags := 0, nameIndex := 17, descriptorIndex := 337, attributes := #[] }, { accessFlags := 0, nameIndex := 494, descriptorIndex := 142, attributes := #[] }, { accessFlags := 8, nameIndex := 501, descriptorIndex := 391, attributes := #[] }] 49 2 #[1106, 1108, 575, 1110, 1112] #[{ accessFlags := 18, nameIndex := 13, descriptorIndex := 14, attributes := #[] }, { accessFlags := 18, nameIndex := 17, descriptorIndex := 18, attributes := #[] }, { accessFlags := 2, nameIndex := 21, descriptorIndex := 22, attributes := #[] }, { accessFlags := 2, nameIndex := 25, descriptorIndex := 26, attributes := #[] }, { accessFlags := 26, nameIndex := 1116, descriptorIndex := 1117, attributes := #[] }, { accessFlags := 24, nameIndex := 40, descriptorIndex := 26, attributes := #[] }, { accessFlags := 26, nameIndex := 1101, descriptorIndex := 1102, attributes := #[] }, { accessFlags := 26, nameIndex := 1121, descriptorIndex := 1122, attributes := #[] }, { accessFlags := 25, nameIndex := 599, descriptorIndex := 600, attributes := #[] }, { accessFlags := 24, nameIndex := 1125, descriptorIndex := 18, attributes := #[] }, { accessFlags := 24, nameIndex := 1127, descriptorIndex := 18, attributes := #[] }])
  fields := #[{ name := "value", type := (.array .byte), accessFlags := 18, slot := 0, constantValue := 0 }, { name := "coder", type := .byte, accessFlags := 18, slot := 1, constantValue := 0 }, { name := "hash", type := .int, accessFlags := 2, slot := 2, constantValue := 0 }, { name := "hashIsZero", type := .boolean, accessFlags := 2, slot := 3, constantValue := 0 }, { name := "serialVersionUID", type := .long, accessFlags := 26, slot := 0, constantValue := 0 }, { name := "COMPACT_STRINGS", type := .boolean, accessFlags := 24, slot := 1, constantValue := 0 }, { name := "serialPersistentFields", type := (.array (.object "java/io/ObjectStreamField")), accessFlags := 26, slot := 2, constantValue := 0 }, { name := "REPL", type := .char, accessFlags := 26, slot := 3, constantValue := 0 }, { name := "CASE_INSENSITIVE_ORDER", type := (.object "java/util/Comparator"), accessFlags := 25, slot := 4, constantValue := 0 }, { name := "LATIN1", type := .byte, accessFlags := 24, slot := 5, constantValue := 0 }, { name := "UTF16", type := .byte, accessFlags := 24, slot := 6, constantValue := 0 }]
  methods := #[k7m0, k7m1, k7m2, k7m3, k7m4, k7m5, k7m6, k7m7]
  instanceTypes := #[(.array .byte), .byte, .int, .boolean]
  staticTypes := #[.long, .boolean, (.array (.object "java/io/ObjectStreamField")), .char, (.object "java/util/Comparator"), .byte, .byte]
  resolved := Array.replicate 1451 none
  statics := some 0 }

def pool8 : Array CpInfo := pool [(2, .class_ 4), (1, u "java/lang/Object"), (0, u "<init>"), (0, u "()V"), (0, .class_ 8), (0, u "com/example/remora/remora/Methods"), (1, u "GET"), (1, .class_ 14), (1, u "java/lang/String"), (3, u "HEAD"), (0, .methodref 12 20), (0, .nameAndType 21 22), (0, u "length"), (0, u "()I"), (0, .methodref 12 24), (0, .nameAndType 25 26), (0, u "charAt"), (0, u "(I)C"), (7, u "Ljava/lang/String;"), (1, u "ANY"), (3, u "(Ljava/lang/String;)Z"), (1, u "isMethodName")] 6

def k8m0 : Method := { name := "<init>", desc := "()V", sig := { parameters := [], returnType := none }, accessFlags := 2, code := none }
def k8c1 : Code := { maxStack := 2, maxLocals := 4, code := prog_5_method_3_code, exceptionTable := #[], attributes := #[] }
def k8m1 : Method := { name := "isMethodName", desc := "(Ljava/lang/String;)Z", sig := { parameters := [(.object "java/lang/String")], returnType := some .boolean }, accessFlags := 8, code := some k8c1 }
/-- com/example/remora/remora/Methods -/
def k8 : Class := { plain "com/example/remora/remora/Methods" (some 0) with
  accessFlags := 48
  interfaces := #[]
  cf := some (fileOf pool8 7 #[] #[{ accessFlags := 2, nameIndex := 5, descriptorIndex := 6, attributes := #[] }, { accessFlags := 8, nameIndex := 42, descriptorIndex := 40, attributes := #[] }] 48 2 #[] #[{ accessFlags := 24, nameIndex := 10, descriptorIndex := 34, attributes := #[] }, { accessFlags := 24, nameIndex := 18, descriptorIndex := 34, attributes := #[] }, { accessFlags := 26, nameIndex := 36, descriptorIndex := 34, attributes := #[] }])
  fields := #[{ name := "GET", type := (.object "java/lang/String"), accessFlags := 24, slot := 0, constantValue := 0 }, { name := "HEAD", type := (.object "java/lang/String"), accessFlags := 24, slot := 1, constantValue := 0 }, { name := "ANY", type := (.object "java/lang/String"), accessFlags := 26, slot := 2, constantValue := 0 }]
  methods := #[k8m0, k8m1]
  instanceTypes := #[]
  staticTypes := #[(.object "java/lang/String"), (.object "java/lang/String"), (.object "java/lang/String")]
  resolved := Array.replicate 49 none
  statics := none }

def pool9 : Array CpInfo := pool [(6, .class_ 8), (1, u "java/lang/Object"), (0, u "<init>"), (0, u "()V"), (1, .class_ 14), (1, u "java/lang/StringUTF16"), (31, u "$assertionsDisabled"), (0, u "Z"), (13, u "HI_BYTE_SHIFT"), (0, u "I"), (2, u "LO_BYTE_SHIFT"), (49, .methodref 12 116), (0, .nameAndType 117 118), (0, u "compress"), (0, u "([CI[BII)I"), (3, u "([CII)[B"), (138, u "coderFromArrayLen"), (0, u "([BI)B"), (106, .class_ 371), (1, u "java/lang/StringUTF16$LinesSpliterator"), (58, u "MAX_LENGTH"), (196, .class_ 628), (0, u "java/lang/StringUTF16$CodePointsSpliterator"), (0, .class_ 630), (0, u "java/lang/StringUTF16$CharsSpliterator")] 4

def k9m0 : Method := { name := "<init>", desc := "()V", sig := { parameters := [], returnType := none }, accessFlags := 0, code := none }
def k9c1 : Code := { maxStack := 2, maxLocals := 2, code := jdk_52_method_15_code, exceptionTable := #[], attributes := #[] }
def k9m1 : Method := { name := "coderFromArrayLen", desc := "([BI)B", sig := { parameters := [(.array .byte), .int], returnType := some .byte }, accessFlags := 8, code := some k9c1 }
def k9c2 : Code := { maxStack := 5, maxLocals := 6, code := jdk_52_method_16_code, exceptionTable := #[], attributes := #[] }
def k9m2 : Method := { name := "compress", desc := "([CII)[B", sig := { parameters := [(.array .char), .int, .int], returnType := some (.array .byte) }, accessFlags := 9, code := some k9c2 }
def k9c3 : Code := { maxStack := 3, maxLocals := 7, code := jdk_52_method_21_code, exceptionTable := #[], attributes := #[] }
def k9m3 : Method := { name := "compress", desc := "([CI[BII)I", sig := { parameters := [(.array .char), .int, (.array .byte), .int, .int], returnType := some .int }, accessFlags := 9, code := some k9c3 }
/-- java/lang/StringUTF16 -/
def k9 : Class := { plain "java/lang/StringUTF16" (some 0) with
  accessFlags := 48
  interfaces := #[]
  cf := some (fileOf pool9 12 #[.nestMembers #[627, 629, 369]] #[{ accessFlags := 0, nameIndex := 9, descriptorIndex := 10, attributes := #[] }, { accessFlags := 8, nameIndex := 261, descriptorIndex := 262, attributes := #[] }, { accessFlags := 9, nameIndex := 117, descriptorIndex := 122, attributes := #[] }, { accessFlags := 9, nameIndex := 117, descriptorIndex := 118, attributes := #[] }] 48 6 #[] #[{ accessFlags := 26, nameIndex := 61, descriptorIndex := 62, attributes := #[] }, { accessFlags := 26, nameIndex := 65, descriptorIndex := 62, attributes := #[] }, { accessFlags := 24, nameIndex := 430, descriptorIndex := 62, attributes := #[] }, { accessFlags := 4120, nameIndex := 46, descriptorIndex := 47, attributes := #[] }])
  fields := #[{ name := "HI_BYTE_SHIFT", type := .int, accessFlags := 26, slot := 0, constantValue := 0 }, { name := "LO_BYTE_SHIFT", type := .int, accessFlags := 26, slot := 1, constantValue := 0 }, { name := "MAX_LENGTH", type := .int, accessFlags := 24, slot := 2, constantValue := 0 }, { name := "$assertionsDisabled", type := .boolean, accessFlags := 4120, slot := 3, constantValue := 0 }]
  methods := #[k9m0, k9m1, k9m2, k9m3]
  instanceTypes := #[]
  staticTypes := #[.int, .int, .int, .boolean]
  resolved := Array.replicate 635 none
  statics := none }

def pool10 : Array CpInfo := pool [(1, .class_ 2), (0, u "java/lang/String"), (1, .class_ 6), (1, u "java/lang/Object"), (0, u "<init>"), (0, u "()V"), (0, .methodref 1 10), (0, .nameAndType 11 12), (0, u "checkIndex"), (0, u "(II)V"), (1, .class_ 16), (1, u "java/lang/StringLatin1"), (36, u "([BI)C"), (67, u "$assertionsDisabled"), (0, u "Z"), (98, .class_ 223), (1, u "java/lang/StringLatin1$LinesSpliterator"), (28, u "charAt"), (137, .class_ 391), (0, u "java/lang/StringLatin1$CharsSpliterator")] 3

def k10m0 : Method := { name := "<init>", desc := "()V", sig := { parameters := [], returnType := none }, accessFlags := 0, code := none }
def k10c1 : Code := { maxStack := 2, maxLocals := 2, code := jdk_43_method_2_code, exceptionTable := #[], attributes := #[] }
def k10m1 : Method := { name := "charAt", desc := "([BI)C", sig := { parameters := [(.array .byte), .int], returnType := some .char }, accessFlags := 9, code := some k10c1 }
/-- java/lang/StringLatin1 -/
def k10 : Class := { plain "java/lang/StringLatin1" (some 0) with
  accessFlags := 48
  interfaces := #[]
  cf := some (fileOf pool10 14 #[.nestMembers #[390, 221]] #[{ accessFlags := 0, nameIndex := 7, descriptorIndex := 8, attributes := #[] }, { accessFlags := 9, nameIndex := 252, descriptorIndex := 53, attributes := #[] }] 48 4 #[] #[{ accessFlags := 4120, nameIndex := 121, descriptorIndex := 122, attributes := #[] }])
  fields := #[{ name := "$assertionsDisabled", type := .boolean, accessFlags := 4120, slot := 0, constantValue := 0 }]
  methods := #[k10m0, k10m1]
  instanceTypes := #[]
  staticTypes := #[.boolean]
  resolved := Array.replicate 395 none
  statics := none }

def pool11 : Array CpInfo := pool [(2, .class_ 4), (1, u "java/lang/Object"), (0, u "<init>"), (0, u "()V"), (17, .class_ 26), (1, u "jdk/internal/util/Preconditions"), (6, u "checkIndex"), (21, .class_ 56), (0, u "jdk/internal/util/Preconditions$4"), (57, .class_ 115), (0, u "jdk/internal/util/Preconditions$1"), (7, u "SIOOBE_FORMATTER"), (0, u "Ljava/util/function/BiFunction;"), (0, .class_ 126), (0, u "jdk/internal/util/Preconditions$2"), (3, u "AIOOBE_FORMATTER"), (0, .class_ 132), (0, u "jdk/internal/util/Preconditions$3"), (3, u "IOOBE_FORMATTER"), (41, u "(IILjava/util/function/BiFunction;)I")] 15

def k11m0 : Method := { name := "<init>", desc := "()V", sig := { parameters := [], returnType := none }, accessFlags := 1, code := none }
def k11c1 : Code := { maxStack := 3, maxLocals := 3, code := jdk_41_method_11_code, exceptionTable := #[], attributes := #[] }
def k11m1 : Method := { name := "checkIndex", desc := "(IILjava/util/function/BiFunction;)I", sig := { parameters := [.int, .int, (.object "java/util/function/BiFunction")], returnType := some .int }, accessFlags := 9, code := some k11c1 }
/-- jdk/internal/util/Preconditions -/
def k11 : Class := { plain "jdk/internal/util/Preconditions" (some 0) with
  accessFlags := 33
  interfaces := #[]
  cf := some (fileOf pool11 24 #[.nestMembers #[55, 131, 125, 114]] #[{ accessFlags := 1, nameIndex := 5, descriptorIndex := 6, attributes := #[] }, { accessFlags := 9, nameIndex := 33, descriptorIndex := 178, attributes := #[] }] 33 2 #[] #[{ accessFlags := 25, nameIndex := 123, descriptorIndex := 124, attributes := #[] }, { accessFlags := 25, nameIndex := 130, descriptorIndex := 124, attributes := #[] }, { accessFlags := 25, nameIndex := 136, descriptorIndex := 124, attributes := #[] }])
  fields := #[{ name := "SIOOBE_FORMATTER", type := (.object "java/util/function/BiFunction"), accessFlags := 25, slot := 0, constantValue := 0 }, { name := "AIOOBE_FORMATTER", type := (.object "java/util/function/BiFunction"), accessFlags := 25, slot := 1, constantValue := 0 }, { name := "IOOBE_FORMATTER", type := (.object "java/util/function/BiFunction"), accessFlags := 25, slot := 2, constantValue := 0 }]
  methods := #[k11m0, k11m1]
  instanceTypes := #[]
  staticTypes := #[(.object "java/util/function/BiFunction"), (.object "java/util/function/BiFunction"), (.object "java/util/function/BiFunction")]
  resolved := Array.replicate 194 none
  statics := some 1 }

def pool12 : Array CpInfo := pool [(9, u "<init>"), (6, .class_ 18), (1, u "java/lang/Object"), (0, u "()V"), (1, .class_ 23), (1, u "jdk/internal/util/ArraysSupport"), (0, u "LOG2_ARRAY_LONG_INDEX_SCALE"), (0, u "I"), (2, u "U"), (0, u "Ljdk/internal/misc/Unsafe;"), (8, u "BIG_ENDIAN"), (0, u "Z"), (8, u "LOG2_BYTE_BIT_SIZE"), (4, u "LOG2_ARRAY_INT_INDEX_SCALE"), (54, u "JLA"), (0, u "Ljdk/internal/access/JavaLangAccess;"), (11, u "LOG2_ARRAY_BOOLEAN_INDEX_SCALE"), (9, u "LOG2_ARRAY_BYTE_INDEX_SCALE"), (5, u "LOG2_ARRAY_CHAR_INDEX_SCALE"), (5, u "LOG2_ARRAY_SHORT_INDEX_SCALE"), (18, u "LOG2_ARRAY_FLOAT_INDEX_SCALE"), (24, u "LOG2_ARRAY_DOUBLE_INDEX_SCALE"), (89, u "T_BOOLEAN"), (2, u "T_CHAR"), (1, u "T_FLOAT"), (1, u "T_DOUBLE"), (1, u "T_BYTE"), (1, u "T_SHORT"), (1, u "T_INT"), (1, u "T_LONG"), (1, u "SOFT_MAX_ARRAY_LENGTH")] 83

def k12m0 : Method := { name := "<init>", desc := "()V", sig := { parameters := [], returnType := none }, accessFlags := 2, code := none }
/-- jdk/internal/util/ArraysSupport -/
def k12 : Class := { plain "jdk/internal/util/ArraysSupport" (some 0) with
  accessFlags := 33
  interfaces := #[]
  cf := some (fileOf pool12 21 #[] #[{ accessFlags := 2, nameIndex := 9, descriptorIndex := 19, attributes := #[] }] 33 16 #[] #[{ accessFlags := 24, nameIndex := 28, descriptorIndex := 29, attributes := #[] }, { accessFlags := 26, nameIndex := 38, descriptorIndex := 39, attributes := #[] }, { accessFlags := 25, nameIndex := 121, descriptorIndex := 25, attributes := #[] }, { accessFlags := 25, nameIndex := 131, descriptorIndex := 25, attributes := #[] }, { accessFlags := 25, nameIndex := 137, descriptorIndex := 25, attributes := #[] }, { accessFlags := 25, nameIndex := 143, descriptorIndex := 25, attributes := #[] }, { accessFlags := 25, nameIndex := 53, descriptorIndex := 25, attributes := #[] }, { accessFlags := 25, nameIndex := 24, descriptorIndex := 25, attributes := #[] }, { accessFlags := 25, nameIndex := 162, descriptorIndex := 25, attributes := #[] }, { accessFlags := 25, nameIndex := 187, descriptorIndex := 25, attributes := #[] }, { accessFlags := 26, nameIndex := 48, descriptorIndex := 25, attributes := #[] }, { accessFlags := 25, nameIndex := 277, descriptorIndex := 25, attributes := #[] }, { accessFlags := 25, nameIndex := 280, descriptorIndex := 25, attributes := #[] }, { accessFlags := 25, nameIndex := 282, descriptorIndex := 25, attributes := #[] }, { accessFlags := 25, nameIndex := 284, descriptorIndex := 25, attributes := #[] }, { accessFlags := 25, nameIndex := 286, descriptorIndex := 25, attributes := #[] }, { accessFlags := 25, nameIndex := 288, descriptorIndex := 25, attributes := #[] }, { accessFlags := 25, nameIndex := 290, descriptorIndex := 25, attributes := #[] }, { accessFlags := 25, nameIndex := 292, descriptorIndex := 25, attributes := #[] }, { accessFlags := 26, nameIndex := 108, descriptorIndex := 109, attributes := #[] }, { accessFlags := 25, nameIndex := 294, descriptorIndex := 25, attributes := #[] }])
  fields := #[{ name := "U", type := (.object "jdk/internal/misc/Unsafe"), accessFlags := 24, slot := 0, constantValue := 0 }, { name := "BIG_ENDIAN", type := .boolean, accessFlags := 26, slot := 1, constantValue := 0 }, { name := "LOG2_ARRAY_BOOLEAN_INDEX_SCALE", type := .int, accessFlags := 25, slot := 2, constantValue := 0 }, { name := "LOG2_ARRAY_BYTE_INDEX_SCALE", type := .int, accessFlags := 25, slot := 3, constantValue := 0 }, { name := "LOG2_ARRAY_CHAR_INDEX_SCALE", type := .int, accessFlags := 25, slot := 4, constantValue := 0 }, { name := "LOG2_ARRAY_SHORT_INDEX_SCALE", type := .int, accessFlags := 25, slot := 5, constantValue := 0 }, { name := "LOG2_ARRAY_INT_INDEX_SCALE", type := .int, accessFlags := 25, slot := 6, constantValue := 0 }, { name := "LOG2_ARRAY_LONG_INDEX_SCALE", type := .int, accessFlags := 25, slot := 7, constantValue := 0 }, { name := "LOG2_ARRAY_FLOAT_INDEX_SCALE", type := .int, accessFlags := 25, slot := 8, constantValue := 0 }, { name := "LOG2_ARRAY_DOUBLE_INDEX_SCALE", type := .int, accessFlags := 25, slot := 9, constantValue := 0 }, { name := "LOG2_BYTE_BIT_SIZE", type := .int, accessFlags := 26, slot := 10, constantValue := 0 }, { name := "T_BOOLEAN", type := .int, accessFlags := 25, slot := 11, constantValue := 0 }, { name := "T_CHAR", type := .int, accessFlags := 25, slot := 12, constantValue := 0 }, { name := "T_FLOAT", type := .int, accessFlags := 25, slot := 13, constantValue := 0 }, { name := "T_DOUBLE", type := .int, accessFlags := 25, slot := 14, constantValue := 0 }, { name := "T_BYTE", type := .int, accessFlags := 25, slot := 15, constantValue := 0 }, { name := "T_SHORT", type := .int, accessFlags := 25, slot := 16, constantValue := 0 }, { name := "T_INT", type := .int, accessFlags := 25, slot := 17, constantValue := 0 }, { name := "T_LONG", type := .int, accessFlags := 25, slot := 18, constantValue := 0 }, { name := "JLA", type := (.object "jdk/internal/access/JavaLangAccess"), accessFlags := 26, slot := 19, constantValue := 0 }, { name := "SOFT_MAX_ARRAY_LENGTH", type := .int, accessFlags := 25, slot := 20, constantValue := 0 }]
  methods := #[k12m0]
  instanceTypes := #[]
  staticTypes := #[(.object "jdk/internal/misc/Unsafe"), .boolean, .int, .int, .int, .int, .int, .int, .int, .int, .int, .int, .int, .int, .int, .int, .int, .int, .int, (.object "jdk/internal/access/JavaLangAccess"), .int]
  resolved := Array.replicate 378 none
  statics := none }

def pool13 : Array CpInfo := pool [(1, u "java/lang/Cloneable"), (0, .class_ 1), (0, u "java/lang/Object"), (0, .class_ 3)] 3

/-- java/lang/Cloneable -/
def k13 : Class := { plain "java/lang/Cloneable" (some 0) with
  accessFlags := 1537
  interfaces := #[]
  cf := some (fileOf pool13 2 #[] #[] 1537 4 #[] #[])
  fields := #[]
  methods := #[]
  instanceTypes := #[]
  staticTypes := #[]
  resolved := Array.replicate 8 none
  statics := none }

/-- the primitive byte -/
def k14 : Class := { plain "byte" none with kind := .primitive 'B', accessFlags := 0x411 }
/-- [B -/
def k15 : Class := { plain "[B" (some 0) with kind := .array 14 .byte, interfaces := #[13, 2], accessFlags := 1041 }

/-- the primitive char -/
def k16 : Class := { plain "char" none with kind := .primitive 'C', accessFlags := 0x411 }
/-- [C -/
def k17 : Class := { plain "[C" (some 0) with kind := .array 16 .char, interfaces := #[13, 2], accessFlags := 1041 }

/-- the primitive int -/
def k18 : Class := { plain "int" none with kind := .primitive 'I', accessFlags := 0x411 }
/-- [I -/
def k19 : Class := { plain "[I" (some 0) with kind := .array 18 .int, interfaces := #[13, 2], accessFlags := 1041 }

def heap : Heap := #[{ cls := 7, slots := #[.long 0, .int 1, .null, .int 0, .null, .int 0, .int 0], vm := .statics 7 },
  { cls := 11, slots := #[.null, .null, .null], vm := .statics 11 }]
def classes : Array Class := #[k0, k1, k2, k3, k4, k5, k6, k7, k8, k9, k10, k11, k12, k13, k14, k15, k16, k17, k18, k19]
def interned : List (Array UInt16 × Addr) := []
def slotsUsed : Nat := 10
def theMethod : MethodId := ⟨1, 5⟩
def args0 : Array Value := #[.int 5, .long 7, .long 9]
def aboutOver (below : List Frame) : State where
  vm := { classes := classes, interned := interned.toArray }
  heap := heap
  slotsUsed := slotsUsed
  threads := #[{ frames := .invoking theMethod args0 :: below }]
def below0 : List Frame := [.native { method := ⟨0, 0⟩, args := #[] }]
def about1 : State := aboutOver below0
def p0 : Program := .bare "" "" ""
def e0 : Env := launch0.env 0 0 0
theorem w_frames : about1.frames = Frame.invoking theMethod args0 :: below0 := rfl
set_option maxRecDepth 65536 in
theorem w_args : argsFit about1.vm theMethod args0 = true := by decide +kernel
set_option maxRecDepth 65536 in
theorem w_heap : heapFits about1 = true := by decide +kernel
set_option maxRecDepth 65536 in
theorem w_runnable : about1.curStatus? = some .runnable := by decide +kernel
set_option maxRecDepth 65536 in
theorem w_alone : about1.alone = true := by decide +kernel
set_option maxRecDepth 65536 in
theorem w_named : about1.methodNamed? x = some theMethod := by decide +kernel
set_option maxRecDepth 65536 in
theorem w_hears : about1.hears theMethod below0 = true := by decide +kernel
set_option maxRecDepth 65536 in
theorem w_ripe : about1.ripe theMethod args0 below0 = true := by decide +kernel
theorem w_running : about1.status = .running := rfl
set_option maxRecDepth 65536 in
theorem w_room : about1.hasRoom e0.platform room_1 = true :=
  launch0.hasRoom_least _ room_1 (by decide +kernel) (by decide +kernel) (by decide +kernel) (by decide +kernel) (by decide +kernel) (by decide +kernel)
theorem allAtoms_all (ts : List Jvm.Cond) (a : Array Jvm.Value) (st : Jvm.State) : (allAtoms ts).before a st = ts.all (fun c => c.before a st) := by
  induction ts with
  | nil => rfl
  | cons c t ih =>
    show (Jvm.Cond.and c (allAtoms t)).before a st = _
    rw [Jvm.Cond.before_and, ih, List.all_cons]
def words1 : List Jvm.Cond := Jvm.Cond.code x code maxLocals ret :: tables_1
/-- a 'code' word, met by the world's own term for the bytes: nothing is compared byte by byte -/
theorem code_word {y : MethodName} {bytes : ByteArray} {mx : Nat} {rt : Option FieldType} {a : Array Value} {s : State} {m : MethodId} {meth : Method} {c : Code} (h1 : s.methodNamed? y = some m) (h2 : s.vm.method? m = some meth) (h3 : meth.code = some c) (h4 : c.code = bytes)
    (h5 : (c.maxLocals == mx && c.exceptionTable.isEmpty && decide (c.maxStack ≤ mostOperands) && decide (meth.sig.returnType = rt) && !meth.locks && decide (parseMethodDescriptor y.desc = some meth.sig)) = true) : (Jvm.Cond.code y bytes mx rt).before a s = true := by
  simp only [Bool.and_eq_true, beq_iff_eq, Bool.not_eq_true', decide_eq_true_eq] at h5
  obtain ⟨⟨⟨⟨⟨g1, g2⟩, g3⟩, g4⟩, g5⟩, g6⟩ := h5
  simp [Cond.before, Cond.holds, Cond.value, h1, h2, h3, h4, g1, g2, g3, g4, g5, g6]
def isCode : Jvm.Cond → Bool
  | .code _ _ _ _ => true
  | _ => false
theorem all_split {L : List Jvm.Cond} {P : Jvm.Cond → Bool} (h1 : L.all (fun c => isCode c || P c) = true) (h2 : ∀ c ∈ L.filter isCode, P c = true) : L.all P = true := by
  refine List.all_eq_true.mpr fun c hc => ?_
  have h := List.all_eq_true.mp h1 c hc
  rcases Bool.eq_false_or_eq_true (isCode c) with hi | hi
  · exact h2 c (List.mem_filter.mpr ⟨hc, hi⟩)
  · simpa [hi] using h
set_option maxRecDepth 65536 in
theorem w_c0 : (Jvm.Cond.code x code maxLocals ret).before args0 about1 = true := code_word (m := ⟨1, 5⟩) (meth := k1m5) (c := k1c5) (by decide +kernel) rfl rfl rfl (by decide +kernel)
set_option maxRecDepth 65536 in
theorem w_c1 : (Jvm.Cond.code ({ cls := "java/lang/String", name := "<init>", desc := "([C)V" } : Jvm.MethodName) jdk_42_method_3_code (2 : Nat) (Option.none : Option Jvm.ClassFile.FieldType)).before args0 about1 = true := code_word (m := ⟨7, 1⟩) (meth := k7m1) (c := k7c1) (by decide +kernel) rfl rfl rfl (by decide +kernel)
set_option maxRecDepth 65536 in
theorem w_c2 : (Jvm.Cond.code ({ cls := "java/lang/String", name := "<init>", desc := "([CIILjava/lang/Void;)V" } : Jvm.MethodName) jdk_42_method_149_code (6 : Nat) (Option.none : Option Jvm.ClassFile.FieldType)).before args0 about1 = true := code_word (m := ⟨7, 4⟩) (meth := k7m4) (c := k7c4) (by decide +kernel) rfl rfl rfl (by decide +kernel)
set_option maxRecDepth 65536 in
theorem w_c3 : (Jvm.Cond.code ({ cls := "java/lang/Object", name := "<init>", desc := "()V" } : Jvm.MethodName) object_method_1_code (1 : Nat) (Option.none : Option Jvm.ClassFile.FieldType)).before args0 about1 = true := code_word (m := ⟨0, 0⟩) (meth := k0m0) (c := k0c0) (by decide +kernel) rfl rfl rfl (by decide +kernel)
set_option maxRecDepth 65536 in
theorem w_c4 : (Jvm.Cond.code ({ cls := "com/example/remora/remora/Methods", name := "isMethodName", desc := "(Ljava/lang/String;)Z" } : Jvm.MethodName) prog_5_method_3_code (4 : Nat) (Option.some Jvm.ClassFile.FieldType.boolean)).before args0 about1 = true := code_word (m := ⟨8, 1⟩) (meth := k8m1) (c := k8c1) (by decide +kernel) rfl rfl rfl (by decide +kernel)
set_option maxRecDepth 65536 in
theorem w_c5 : (Jvm.Cond.code ({ cls := "java/lang/String", name := "length", desc := "()I" } : Jvm.MethodName) jdk_42_method_54_code (1 : Nat) (Option.some Jvm.ClassFile.FieldType.int)).before args0 about1 = true := code_word (m := ⟨7, 2⟩) (meth := k7m2) (c := k7c2) (by decide +kernel) rfl rfl rfl (by decide +kernel)
set_option maxRecDepth 65536 in
theorem w_c6 : (Jvm.Cond.code ({ cls := "java/lang/String", name := "coder", desc := "()B" } : Jvm.MethodName) jdk_42_method_152_code (1 : Nat) (Option.some Jvm.ClassFile.FieldType.byte)).before args0 about1 = true := code_word (m := ⟨7, 5⟩) (meth := k7m5) (c := k7c5) (by decide +kernel) rfl rfl rfl (by decide +kernel)
set_option maxRecDepth 65536 in
theorem w_c7 : (Jvm.Cond.code ({ cls := "java/lang/StringUTF16", name := "compress", desc := "([CII)[B" } : Jvm.MethodName) jdk_52_method_16_code (6 : Nat) (Option.some (Jvm.ClassFile.FieldType.array Jvm.ClassFile.FieldType.byte))).before args0 about1 = true := code_word (m := ⟨9, 2⟩) (meth := k9m2) (c := k9c2) (by decide +kernel) rfl rfl rfl (by decide +kernel)
set_option maxRecDepth 65536 in
theorem w_c8 : (Jvm.Cond.code ({ cls := "java/lang/StringUTF16", name := "compress", desc := "([CI[BII)I" } : Jvm.MethodName) jdk_52_method_21_code (7 : Nat) (Option.some Jvm.ClassFile.FieldType.int)).before args0 about1 = true := code_word (m := ⟨9, 3⟩) (meth := k9m3) (c := k9c3) (by decide +kernel) rfl rfl rfl (by decide +kernel)
set_option maxRecDepth 65536 in
theorem w_c9 : (Jvm.Cond.code ({ cls := "java/lang/StringUTF16", name := "coderFromArrayLen", desc := "([BI)B" } : Jvm.MethodName) jdk_52_method_15_code (2 : Nat) (Option.some Jvm.ClassFile.FieldType.byte)).before args0 about1 = true := code_word (m := ⟨9, 1⟩) (meth := k9m1) (c := k9c1) (by decide +kernel) rfl rfl rfl (by decide +kernel)
set_option maxRecDepth 65536 in
theorem w_c10 : (Jvm.Cond.code ({ cls := "java/lang/String", name := "charAt", desc := "(I)C" } : Jvm.MethodName) jdk_42_method_56_code (2 : Nat) (Option.some Jvm.ClassFile.FieldType.char)).before args0 about1 = true := code_word (m := ⟨7, 3⟩) (meth := k7m3) (c := k7c3) (by decide +kernel) rfl rfl rfl (by decide +kernel)
set_option maxRecDepth 65536 in
theorem w_c11 : (Jvm.Cond.code ({ cls := "java/lang/String", name := "isLatin1", desc := "()Z" } : Jvm.MethodName) jdk_42_method_154_code (1 : Nat) (Option.some Jvm.ClassFile.FieldType.boolean)).before args0 about1 = true := code_word (m := ⟨7, 6⟩) (meth := k7m6) (c := k7c6) (by decide +kernel) rfl rfl rfl (by decide +kernel)
set_option maxRecDepth 65536 in
theorem w_c12 : (Jvm.Cond.code ({ cls := "java/lang/StringLatin1", name := "charAt", desc := "([BI)C" } : Jvm.MethodName) jdk_43_method_2_code (2 : Nat) (Option.some Jvm.ClassFile.FieldType.char)).before args0 about1 = true := code_word (m := ⟨10, 1⟩) (meth := k10m1) (c := k10c1) (by decide +kernel) rfl rfl rfl (by decide +kernel)
set_option maxRecDepth 65536 in
theorem w_c13 : (Jvm.Cond.code ({ cls := "java/lang/String", name := "checkIndex", desc := "(II)V" } : Jvm.MethodName) jdk_42_method_155_code (2 : Nat) (Option.none : Option Jvm.ClassFile.FieldType)).before args0 about1 = true := code_word (m := ⟨7, 7⟩) (meth := k7m7) (c := k7c7) (by decide +kernel) rfl rfl rfl (by decide +kernel)
set_option maxRecDepth 65536 in
theorem w_c14 : (Jvm.Cond.code ({ cls := "jdk/internal/util/Preconditions", name := "checkIndex", desc := "(IILjava/util/function/BiFunction;)I" } : Jvm.MethodName) jdk_41_method_11_code (3 : Nat) (Option.some Jvm.ClassFile.FieldType.int)).before args0 about1 = true := code_word (m := ⟨11, 1⟩) (meth := k11m1) (c := k11c1) (by decide +kernel) rfl rfl rfl (by decide +kernel)
set_option maxRecDepth 65536 in
theorem w_c15 : (Jvm.Cond.code ({ cls := "com/example/remora/remora/MethodsIsMethodNamePinLaw", name := "isL", desc := "(C)Z" } : Jvm.MethodName) method_2_code (1 : Nat) (Option.some Jvm.ClassFile.FieldType.boolean)).before args0 about1 = true := code_word (m := ⟨1, 1⟩) (meth := k1m1) (c := k1c1) (by decide +kernel) rfl rfl rfl (by decide +kernel)
set_option maxRecDepth 65536 in
theorem w_c16 : (Jvm.Cond.code ({ cls := "com/example/remora/remora/MethodsIsMethodNamePinLaw", name := "fine", desc := "(IIC)Z" } : Jvm.MethodName) method_4_code (3 : Nat) (Option.some Jvm.ClassFile.FieldType.boolean)).before args0 about1 = true := code_word (m := ⟨1, 3⟩) (meth := k1m3) (c := k1c3) (by decide +kernel) rfl rfl rfl (by decide +kernel)
set_option maxRecDepth 65536 in
theorem w_c17 : (Jvm.Cond.code ({ cls := "com/example/remora/remora/MethodsIsMethodNamePinLaw", name := "noPair", desc := "(IICC)Z" } : Jvm.MethodName) method_5_code (4 : Nat) (Option.some Jvm.ClassFile.FieldType.boolean)).before args0 about1 = true := code_word (m := ⟨1, 4⟩) (meth := k1m4) (c := k1c4) (by decide +kernel) rfl rfl rfl (by decide +kernel)
set_option maxRecDepth 65536 in
theorem w_c18 : (Jvm.Cond.code ({ cls := "com/example/remora/remora/MethodsIsMethodNamePinLaw", name := "isH", desc := "(C)Z" } : Jvm.MethodName) method_3_code (1 : Nat) (Option.some Jvm.ClassFile.FieldType.boolean)).before args0 about1 = true := code_word (m := ⟨1, 2⟩) (meth := k1m2) (c := k1c2) (by decide +kernel) rfl rfl rfl (by decide +kernel)
def codes1 : List Jvm.Cond := [Jvm.Cond.code x code maxLocals ret, Jvm.Cond.code ({ cls := "java/lang/String", name := "<init>", desc := "([C)V" } : Jvm.MethodName) jdk_42_method_3_code (2 : Nat) (Option.none : Option Jvm.ClassFile.FieldType), Jvm.Cond.code ({ cls := "java/lang/String", name := "<init>", desc := "([CIILjava/lang/Void;)V" } : Jvm.MethodName) jdk_42_method_149_code (6 : Nat) (Option.none : Option Jvm.ClassFile.FieldType), Jvm.Cond.code ({ cls := "java/lang/Object", name := "<init>", desc := "()V" } : Jvm.MethodName) object_method_1_code (1 : Nat) (Option.none : Option Jvm.ClassFile.FieldType), Jvm.Cond.code ({ cls := "com/example/remora/remora/Methods", name := "isMethodName", desc := "(Ljava/lang/String;)Z" } : Jvm.MethodName) prog_5_method_3_code (4 : Nat) (Option.some Jvm.ClassFile.FieldType.boolean), Jvm.Cond.code ({ cls := "java/lang/String", name := "length", desc := "()I" } : Jvm.MethodName) jdk_42_method_54_code (1 : Nat) (Option.some Jvm.ClassFile.FieldType.int), Jvm.Cond.code ({ cls := "java/lang/String", name := "coder", desc := "()B" } : Jvm.MethodName) jdk_42_method_152_code (1 : Nat) (Option.some Jvm.ClassFile.FieldType.byte), Jvm.Cond.code ({ cls := "java/lang/StringUTF16", name := "compress", desc := "([CII)[B" } : Jvm.MethodName) jdk_52_method_16_code (6 : Nat) (Option.some (Jvm.ClassFile.FieldType.array Jvm.ClassFile.FieldType.byte)), Jvm.Cond.code ({ cls := "java/lang/StringUTF16", name := "compress", desc := "([CI[BII)I" } : Jvm.MethodName) jdk_52_method_21_code (7 : Nat) (Option.some Jvm.ClassFile.FieldType.int), Jvm.Cond.code ({ cls := "java/lang/StringUTF16", name := "coderFromArrayLen", desc := "([BI)B" } : Jvm.MethodName) jdk_52_method_15_code (2 : Nat) (Option.some Jvm.ClassFile.FieldType.byte), Jvm.Cond.code ({ cls := "java/lang/String", name := "charAt", desc := "(I)C" } : Jvm.MethodName) jdk_42_method_56_code (2 : Nat) (Option.some Jvm.ClassFile.FieldType.char), Jvm.Cond.code ({ cls := "java/lang/String", name := "isLatin1", desc := "()Z" } : Jvm.MethodName) jdk_42_method_154_code (1 : Nat) (Option.some Jvm.ClassFile.FieldType.boolean), Jvm.Cond.code ({ cls := "java/lang/StringLatin1", name := "charAt", desc := "([BI)C" } : Jvm.MethodName) jdk_43_method_2_code (2 : Nat) (Option.some Jvm.ClassFile.FieldType.char), Jvm.Cond.code ({ cls := "java/lang/String", name := "checkIndex", desc := "(II)V" } : Jvm.MethodName) jdk_42_method_155_code (2 : Nat) (Option.none : Option Jvm.ClassFile.FieldType), Jvm.Cond.code ({ cls := "jdk/internal/util/Preconditions", name := "checkIndex", desc := "(IILjava/util/function/BiFunction;)I" } : Jvm.MethodName) jdk_41_method_11_code (3 : Nat) (Option.some Jvm.ClassFile.FieldType.int), Jvm.Cond.code ({ cls := "com/example/remora/remora/MethodsIsMethodNamePinLaw", name := "isL", desc := "(C)Z" } : Jvm.MethodName) method_2_code (1 : Nat) (Option.some Jvm.ClassFile.FieldType.boolean), Jvm.Cond.code ({ cls := "com/example/remora/remora/MethodsIsMethodNamePinLaw", name := "fine", desc := "(IIC)Z" } : Jvm.MethodName) method_4_code (3 : Nat) (Option.some Jvm.ClassFile.FieldType.boolean), Jvm.Cond.code ({ cls := "com/example/remora/remora/MethodsIsMethodNamePinLaw", name := "noPair", desc := "(IICC)Z" } : Jvm.MethodName) method_5_code (4 : Nat) (Option.some Jvm.ClassFile.FieldType.boolean), Jvm.Cond.code ({ cls := "com/example/remora/remora/MethodsIsMethodNamePinLaw", name := "isH", desc := "(C)Z" } : Jvm.MethodName) method_3_code (1 : Nat) (Option.some Jvm.ClassFile.FieldType.boolean)]
set_option maxRecDepth 65536 in
theorem codes_eq : words1.filter isCode = codes1 := rfl
theorem w_codes : ∀ c ∈ words1.filter isCode, c.before args0 about1 = true := by
  rw [codes_eq]
  intro c hc
  simp only [codes1, List.mem_cons, List.not_mem_nil, or_false] at hc
  rcases hc with rfl | rfl | rfl | rfl | rfl | rfl | rfl | rfl | rfl | rfl | rfl | rfl | rfl | rfl | rfl | rfl | rfl | rfl | rfl
  · exact w_c0
  · exact w_c1
  · exact w_c2
  · exact w_c3
  · exact w_c4
  · exact w_c5
  · exact w_c6
  · exact w_c7
  · exact w_c8
  · exact w_c9
  · exact w_c10
  · exact w_c11
  · exact w_c12
  · exact w_c13
  · exact w_c14
  · exact w_c15
  · exact w_c16
  · exact w_c17
  · exact w_c18
set_option maxRecDepth 65536 in
theorem w_t1 : (words1.take 24).all (fun c => isCode c || c.before args0 about1) = true := by decide +kernel
set_option maxRecDepth 65536 in
theorem w_t2 : ((words1.drop 24).take 24).all (fun c => isCode c || c.before args0 about1) = true := by decide +kernel
set_option maxRecDepth 65536 in
theorem w_t3 : (((words1.drop 24).drop 24).take 24).all (fun c => isCode c || c.before args0 about1) = true := by decide +kernel
set_option maxRecDepth 65536 in
theorem w_t4 : (((words1.drop 24).drop 24).drop 24).all (fun c => isCode c || c.before args0 about1) = true := by decide +kernel
theorem w_tables : (allAtoms (Jvm.Cond.code x code maxLocals ret :: tables_1)).before args0 about1 = true := by
  rw [allAtoms_all]
  show words1.all (fun c => c.before args0 about1) = true
  refine all_split ?_ w_codes
  rw [← List.take_append_drop 24 words1, List.all_append, w_t1, ← List.take_append_drop 24 (words1.drop 24), List.all_append, w_t2, ← List.take_append_drop 24 ((words1.drop 24).drop 24), List.all_append, w_t3, w_t4]
  rfl
set_option maxRecDepth 65536 in
theorem w_rest : rest_1_c.before args0 about1 = true := by decide +kernel
set_option maxRecDepth 65536 in
theorem w_case : (Jvm.Cond.and given_1 narrow_1).before args0 about1 = true := by decide +kernel
set_option maxRecDepth 65536 in
theorem w_consts : constsHeld consts_1 about1 := Jvm.Lit.constsHeldB_iff.mp (by decide +kernel)
theorem w_applies : (headSpec (Jvm.Cond.code x code maxLocals ret :: tables_1) room_1).applies x e0.platform about1 = true :=
  (Spec.applies_iff w_frames).mpr ⟨w_running, w_runnable, w_alone, w_named, w_hears, w_ripe, w_room, w_tables⟩
theorem atStart : AtStart classFile x code maxLocals ret World_1 tables_1 room_1 Calls_1 rest_1 Pre_1 launch0 p0 e0 about1 theMethod args0 below0 :=
  ⟨lists_1, trivial, launch0.admits_env _ _ _, launch0.least_env, fairChoices_fair.cas, fairChoices_fair.clock, w_frames, w_args, w_heap, w_applies, ⟨w_consts, trivial⟩, w_rest, w_case⟩
end start1
theorem witness_1 : WitnessClaimed_1 := ⟨start1.p0, start1.e0, start1.about1, start1.theMethod, start1.args0, start1.below0, start1.atStart⟩
end Jvm.Pilot.@@N@@
