import JvmDerived
import JvmDerived.Pilot.@@N@@Statement
import JvmDerived.Pilot.@@N@@Code
set_option linter.unusedVariables false
set_option linter.unusedSimpArgs false
namespace Jvm.OwnKit
open Jvm Sem ClassFile Op Lib Jvm.Stand Jvm.Free Jvm.LawKit Jvm.RoadKit Bundle
/-- the rest of the walk comes to an end that Q allows -/
def Go (p : Program) (e : Env) (below : List Frame) (Q : Outcome → State → Prop) (t : State) : Prop :=
  ∃ s₂ o, Steps p.tables e below t s₂ ∧ s₂.status = .running ∧ Ended s₂ below o ∧ Q o s₂
theorem Go.of {p : Program} {e : Env} {below : List Frame} {Q : Outcome → State → Prop} {t t' : State} (h : ∀ target, Steps p.tables e below t' target → Steps p.tables e below t target) (g : Go p e below Q t') : Go p e below Q t := by
  obtain ⟨s₂, o, h1, r⟩ := g
  exact ⟨s₂, o, h _ h1, r⟩
/-- where the walk stands: T the state, V the tables on which it leans, h the heap, k cells and n slots booked -/
def St (p : Program) (l : Launch) (e : Env) (R : Room) (s : State) (m : MethodId) (args : Array Value) (below : List Frame) (meth : Method) (c : Code) (Z : State) (a0 : Array Value) (EL : List (String × Nat)) (n0 : Nat) (own : String) (T : State) (V : Vm) (h : Heap) (k n : Nat) : Prop :=
  p.tables.exec = Jvm.exec ∧ T.heap = h ∧ Z.Warmed39 V ∧ V.findClass own = some m.cls ∧ Old Z n0 h ∧ EW Z a0 EL ∧ CHr Z EL s.vm s.heap V h ∧ meth.locks = false ∧
  ∃ locs k0, Stand p l e R (s.setVm V) m args below meth c T locs k n ∧ s.Since V k0 ∧ k0 ≤ h.size ∧ Fr n0 locs
/-- the end of a walk -/
def Fini (Z : State) (EL : List (String × Nat)) (n0 : Nat) (s : State) (rm : Room) (Q : Option Value → Heap → Prop) (o : Outcome) (U : State) : Prop :=
  ∃ v L, o = .returned v ∧ (Q v U.heap ∧ Fr n0 L ∧ Old Z n0 U.heap) ∧ CHr Z EL s.vm s.heap U.vm U.heap ∧ ReturnedEndW s o U L rm.cells rm.slots
/-- a callee's contract: handed as' at the heap h it returns v at a heap h' with Q v h' -/
def Ctr (l : Launch) (Z : State) (EL : List (String × Nat)) (n0 : Nat) (y : MethodName) (bytes : ByteArray) (maxL : Nat) (ret : Option FieldType) (rm : Room) (as' : Array Value) (h : Heap) (sfs : List Addr) (Q : Option Value → Heap → Prop) : Prop :=
  ∀ ws : List Cond, MetFree l y (head1 (Cond.code y bytes maxL ret :: ws) rm) (fun a U => a = as' ∧ Z.Warmed39 U.vm ∧ U.heap = h ∧ CHv Z EL U.vm h ∧ ∀ x ∈ sfs, Safe Z EL U.vm h x) (fun _ _ _ _ _ => True) (fun _ U o U' => Fini Z EL n0 U rm Q o U')
theorem ext_refl (h : Heap) : Ext h h := ⟨Nat.le_refl _, fun _ _ q => q⟩
theorem ext_trans {h h' h2 : Heap} (E : Ext h h') (F : Ext h' h2) : Ext h h2 := ⟨Nat.le_trans E.1 F.1, fun a c q => F.2 a c (E.2 a c q)⟩
theorem ext_keep {h h' h2 : Heap} {ws : List Addr} (E : Ext h h') (K : Keep h' h2 ws) (q : ∀ x ∈ ws, h.size ≤ x) : Ext h h2 := ⟨Nat.le_trans E.1 K.1, fun a c r => K.2.1 a c (E.2 a c r) fun z => absurd (Array.getElem?_eq_some_iff.mp r).1 (Nat.not_lt.mpr (q a z))⟩
theorem ext_keep1 {h h' h2 : Heap} {a : Addr} (E : Ext h h') (K : Keep h' h2 [a]) (q : h.size ≤ a) : Ext h h2 := ext_keep E K (allS q all0)
theorem faS {P : Int32 → Prop} {y : Int32} {L : List Int32} (q : P y) (r : ∀ x ∈ L, P x) : ∀ x ∈ y :: L, P x := fun x z => (List.mem_cons.mp z).elim (fun u => u ▸ q) (r x)
theorem fa0 {P : Int32 → Prop} : ∀ x ∈ ([] : List Int32), P x := fun _ q => nomatch q
theorem sf1 {Z : State} {EL : List (String × Nat)} {V : Vm} {h : Heap} {x : Addr} (q : x < h.size) (r : Safe Z EL V h x) : ∀ y ∈ [x], y < h.size ∧ Safe Z EL V h y := fun y z => by cases List.mem_singleton.mp z; exact ⟨q, r⟩
theorem narC {x : Int32} (h : ¬ x < 0 ∧ ¬ (65535 : Int32) < x) : nar .char x = x := by
  obtain ⟨h1, h2⟩ := h
  have q := c_i2c x
  rw [Int32.lt_iff_toInt_lt] at h1 h2
  have e1 : (65535 : Int32).toInt = 65535 := rfl
  have e2 : (0 : Int32).toInt = 0 := rfl
  show x.toUInt32.toUInt16.toUInt32.toInt32 = x
  apply Int32.toInt_inj.mp
  omega
theorem narC8 {x : Int32} (h : ¬ x < 0 ∧ ¬ (255 : Int32) < x) : nar .char x = x := narC ⟨h.1, fun q => h.2 (by rw [Int32.lt_iff_toInt_lt] at q ⊢; have e1 : (65535 : Int32).toInt = 65535 := rfl; have e2 : (255 : Int32).toInt = 255 := rfl; omega)⟩
/-- x & 255 -/
theorem and255 (x : Int32) : ¬ (x &&& 255) < 0 ∧ ¬ (255 : Int32) < (x &&& 255) := by
  have q := c_mask x 255 8 (by decide) (by decide)
  have e1 : (255 : Int32).toInt = 255 := rfl
  have e2 : (0 : Int32).toInt = 0 := rfl
  rw [Int32.lt_iff_toInt_lt, Int32.lt_iff_toInt_lt]
  omega
theorem and255L (x : Int64) : ¬ (x &&& 255).toInt32 < 0 ∧ ¬ (255 : Int32) < (x &&& 255).toInt32 := by
  have q := c_maskL x 255 8 (by decide) (by decide)
  have r := c_l2i (x &&& 255)
  have s := rng32 (x &&& 255).toInt32
  have e1 : (255 : Int32).toInt = 255 := rfl
  have e2 : (0 : Int32).toInt = 0 := rfl
  rw [Int32.lt_iff_toInt_lt, Int32.lt_iff_toInt_lt]
  omega
/-- an object of a class right under the root is none of another class -/
theorem noSub1 {Z : State} {a0 : Array Value} {C O K : String} {n : Nat} (w : (Cond.superclass C O).before a0 Z = true) (wo : (Cond.noSuperclass O).before a0 Z = true) (wi : (Cond.instantiable K n).before a0 Z = true) (h1 : C ≠ K) (h2 : O ≠ K) : ∃ c t, Z.vm.findClass C = some c ∧ Z.vm.findClass K = some t ∧ Z.vm.assignable c t = false := by
  obtain ⟨t, kt, g1, g2, g3, g4, -⟩ := Cond.instantiable_spec wi
  obtain ⟨co, ko, o1, o2, o3, -, -⟩ := Cond.noSuperclass_spec wo
  have g5 : kt.isInterface = false := (Bool.or_eq_false_iff.mp g4).1
  have nO : NS Z O K := ⟨co, t, o1, g1, fun fuel => by
    cases fuel with
    | zero => rfl
    | succ f => simp [Vm.isSubclassAux, ids_ne o1 g1 h2, o2, o3]⟩
  obtain ⟨c, t', h0, g0, n3⟩ := NS.step w nO h1
  cases g1.symm.trans g0
  obtain ⟨p, k, kp, q1, q2, q3, q4, q5, -, q7⟩ := Cond.superclass_spec h0 w
  refine ⟨c, t, h0, g1, ?_⟩
  show Z.vm.assignableAux (255 + 1) c t = false
  simp [Vm.assignableAux, ids_ne h0 g1 h1, q2, g2, q5, g3, g5, Vm.isSubclass, n3]
section Steps
variable {p : Program} {l : Launch} {e : Env} {R : Room} {s : State} {m : MethodId} {args : Array Value} {below : List Frame} {meth : Method} {c : Code} {Z : State} {a0 : Array Value} {EL : List (String × Nat)} {n0 : Nat} {own : String} {T : State} {V : Vm} {h : Heap} {k n : Nat} {Q : Outcome → State → Prop} {pc : Nat} {Ls : Array Slot} {rest : List Value}
theorem St.hx (S : St p l e R s m args below meth c Z a0 EL n0 own T V h k n) : p.tables.exec = Jvm.exec := S.1
theorem St.here (S : St p l e R s m args below meth c Z a0 EL n0 own T V h k n) : At T m c below := by
  obtain ⟨-, -, -, -, -, -, -, -, locs, k0, X, -⟩ := S; exact X.here
theorem St.old (S : St p l e R s m args below meth c Z a0 EL n0 own T V h k n) : Old Z n0 h := S.2.2.2.2.1
theorem St.chv (S : St p l e R s m args below meth c Z a0 EL n0 own T V h k n) : CHv Z EL V h := S.2.2.2.2.2.2.1.1
theorem St.warm (S : St p l e R s m args below meth c Z a0 EL n0 own T V h k n) : Z.Warmed39 V := S.2.2.1
theorem St.ew (S : St p l e R s m args below meth c Z a0 EL n0 own T V h k n) : EW Z a0 EL := S.2.2.2.2.2.1
theorem St.le (S : St p l e R s m args below meth c Z a0 EL n0 own T V h k n) : n0 ≤ h.size := S.old.1 ▸ S.old.2.1
/-- a callee is entered -/
theorem Ctr.intro {y : MethodName} {bytes : ByteArray} {maxL : Nat} {ret : Option FieldType} {rm : Room} {as' : Array Value} {sfs : List Addr} {QQ : Option Value → Heap → Prop} (hp : plainFor y = true) (hO : Old Z n0 h) (hE : EW Z a0 EL)
    (body : ∀ (p : Program) (e : Env) (s : State) (m : MethodId) (below : List Frame) (meth : Method) (c : Code) (T : State) (V : Vm), St p l e rm s m as' below meth c Z a0 EL n0 y.cls T V h 0 0 → c.code = bytes → c.maxLocals = maxL → meth.sig.returnType = ret → meth.name = y.name → (∀ x ∈ sfs, Safe Z EL V h x) →
      Go p e below (Fini Z EL n0 s rm QQ) (T.setTop (entryFrame m as' maxL))) :
    Ctr l Z EL n0 y bytes maxL ret rm as' h sfs QQ := by
  intro ws
  refine MetFree.of_bodySF hp hisR ?_
  intro p e s m args below meth c s₁ Bd hml0 hP hK
  obtain ⟨rfl, hZ, hh, hC, hsf⟩ := hP
  have X0 : Stand p l e rm s m args below meth c s₁ [] 0 0 := Stand.of_body Bd
  have e0 : s₁.heap = h := by rw [← hh, Bd.state]; rfl
  have hC0 : CHr Z EL s.vm s.heap s.vm h := by rw [hh]; exact CHr.refl hC
  exact body p e s m below meth c s₁ s.vm ⟨Bd.exec, e0, hZ, findClass_of_methodNamed Bd.named, hO, hE, hC0, Bd.notSynchronized, [], h.size, X0, (State.WarmedH.refl s).since _, Nat.le_refl _, Fr.nil n0⟩ Bd.bytes hml0 Bd.returns (name_of_methodNamed Bd.named Bd.method).1 hsf
theorem St.end_ {QQ : Option Value → Heap → Prop} (S : St p l e R s m args below meth c Z a0 EL n0 own T V h k n) {v : Option Value} (hv : meth.sig.returnType = none → v = none) (q : QQ v h) (hc : k ≤ R.cells) (hl : n ≤ R.slots) {t : State}
    (st : ∀ fs, (∀ (f : JFrame) (acts : List Action), f.method = m → f.locked = none → f.entered = [] → (doReturn e (T.setTop f) acts v).1 = T.setFrames fs) → Steps p.tables e below t (T.setFrames fs)) : Go p e below (Fini Z EL n0 s R QQ) t := by
  obtain ⟨hx, eT, hZ, hown, hO, hE, hC, hlk, locs, k0, X, hS, hk, hF⟩ := S
  subst eT
  obtain ⟨fs, hr, hrun, hend, hw⟩ := X.leaveW hS hk hv hlk
  refine ⟨_, _, st fs hr, hrun, hend, v, locs, rfl, ⟨q, hF, hO⟩, (show CHr Z EL s.vm s.heap T.vm T.heap from hC.trans (CHv.at X hZ hE hC.1)), ?_⟩
  obtain ⟨w1, w2, w3, w4⟩ := hw
  exact ⟨w1, w2, w3, w4.mono hc hl⟩
theorem g_ret {QQ : Option Value → Heap → Prop} (S : St p l e R s m args below meth c Z a0 EL n0 own T V h k n) (hd : decode c.code pc = .ok (.return_, 1)) (hret : meth.sig.returnType = none) (q : QQ none h) (hc : k ≤ R.cells := by exact Nat.le_of_ble_eq_true rfl) (hl : n ≤ R.slots := by exact Nat.le_of_ble_eq_true rfl) : Go p e below (Fini Z EL n0 s R QQ) (T.setTop (mkF m pc Ls [])) := by
  refine S.end_ (v := none) (fun _ => rfl) q hc hl fun fs hr => ?_
  obtain ⟨hx, eT, hZ, hown, hO, hE, hC, hlk, locs, k0, X, hS, hk, hF⟩ := S
  exact X.returnOut hx hret hd hr
theorem g_iretN {QQ : Option Value → Heap → Prop} {z : Int32} (S : St p l e R s m args below meth c Z a0 EL n0 own T V h k n) (hd : decode c.code pc = .ok (.ireturn, 1)) {t : FieldType} (hret : meth.sig.returnType = some t) (ht : t = .boolean ∨ t = .byte ∨ t = .char ∨ t = .short) (q : QQ (some (.int (nar t z))) h) (hc : k ≤ R.cells := by exact Nat.le_of_ble_eq_true rfl) (hl : n ≤ R.slots := by exact Nat.le_of_ble_eq_true rfl) : Go p e below (Fini Z EL n0 s R QQ) (T.setTop (mkF m pc Ls (.int z :: rest))) := by
  refine S.end_ (v := some (.int (nar t z))) (fun h => by rw [hret] at h; cases h) q hc hl fun fs hr => ?_
  obtain ⟨hx, eT, hZ, hown, hO, hE, hC, hlk, locs, k0, X, hS, hk, hF⟩ := S
  exact retN X hx hret ht hd hr
theorem g_iret {QQ : Option Value → Heap → Prop} {z : Int32} (S : St p l e R s m args below meth c Z a0 EL n0 own T V h k n) (hd : decode c.code pc = .ok (.ireturn, 1)) (hret : meth.sig.returnType = some .int) (q : QQ (some (.int z)) h) (hc : k ≤ R.cells := by exact Nat.le_of_ble_eq_true rfl) (hl : n ≤ R.slots := by exact Nat.le_of_ble_eq_true rfl) : Go p e below (Fini Z EL n0 s R QQ) (T.setTop (mkF m pc Ls (.int z :: rest))) := by
  refine S.end_ (v := some (.int z)) (fun h => by rw [hret] at h; cases h) q hc hl fun fs hr => ?_
  obtain ⟨hx, eT, hZ, hown, hO, hE, hC, hlk, locs, k0, X, hS, hk, hF⟩ := S
  exact retOut X hx hret rfl (Or.inl ⟨rfl, Or.inl rfl, z, rfl⟩) hd hr
theorem g_lret {QQ : Option Value → Heap → Prop} {z : Int64} (S : St p l e R s m args below meth c Z a0 EL n0 own T V h k n) (hd : decode c.code pc = .ok (.lreturn, 1)) (hret : meth.sig.returnType = some .long) (q : QQ (some (.long z)) h) (hc : k ≤ R.cells := by exact Nat.le_of_ble_eq_true rfl) (hl : n ≤ R.slots := by exact Nat.le_of_ble_eq_true rfl) : Go p e below (Fini Z EL n0 s R QQ) (T.setTop (mkF m pc Ls (.long z :: rest))) := by
  refine S.end_ (v := some (.long z)) (fun h => by rw [hret] at h; cases h) q hc hl fun fs hr => ?_
  obtain ⟨hx, eT, hZ, hown, hO, hE, hC, hlk, locs, k0, X, hS, hk, hF⟩ := S
  exact retOut X hx hret rfl (Or.inr (Or.inl ⟨rfl, rfl, z, rfl⟩)) hd hr
theorem g_aret {QQ : Option Value → Heap → Prop} {v : Value} (S : St p l e R s m args below meth c Z a0 EL n0 own T V h k n) (hd : decode c.code pc = .ok (.areturn, 1)) {t : FieldType} (hret : meth.sig.returnType = some t) (ht : t.isReference = true) (hn : narrow t v = v) (hv : v.isRef = true) (q : QQ (some v) h) (hc : k ≤ R.cells := by exact Nat.le_of_ble_eq_true rfl) (hl : n ≤ R.slots := by exact Nat.le_of_ble_eq_true rfl) : Go p e below (Fini Z EL n0 s R QQ) (T.setTop (mkF m pc Ls (v :: rest))) := by
  refine S.end_ (v := some v) (fun h => by rw [hret] at h; cases h) q hc hl fun fs hr => ?_
  obtain ⟨hx, eT, hZ, hown, hO, hE, hC, hlk, locs, k0, X, hS, hk, hF⟩ := S
  exact retOut X hx hret hn (Or.inr (Or.inr (Or.inr (Or.inr ⟨rfl, ht, hv⟩)))) hd hr
theorem g_getF (S : St p l e R s m args below meth c Z a0 EL n0 own T V h k n) {R0 O nm d : String} {index : Nat} (w : (Cond.fieldLink own index R0 nm d).before a0 Z = true) (via : Via Z R0 O nm d) {a : Addr} {v : Value} (F : Fld Z h a O nm d v) (hd : decode c.code pc = .ok (.getfield index, 3))
    (go : ∀ T', St p l e R s m args below meth c Z a0 EL n0 own T' V h k n → Go p e below Q (T'.setTop (mkF m (pc + 3) Ls (v :: rest)))) : Go p e below Q (T.setTop (mkF m pc Ls (.ref a :: rest))) := by
  obtain ⟨hx, eT, hZ, hown, hO, hE, hC, hlk, locs, k0, X, hS, hk, hF⟩ := S
  obtain ⟨T', X', e', st⟩ := getF X hx hZ hown (host := "") (Or.inl w) via eT F (g := mkF m pc Ls (.ref a :: rest)) rfl rfl hd
  exact Go.of st (go T' ⟨hx, e', hZ, hown, hO, hE, hC, hlk, locs, k0, X', hS, hk, hF⟩)
theorem g_getS (S : St p l e R s m args below meth c Z a0 EL n0 own T V h k n) {R0 O nm d : String} {index : Nat} (w : (Cond.fieldLink own index R0 nm d).before a0 Z = true) (via : Via Z R0 O nm d) {v : Value} (F : Sta Z h O nm d v) (hd : decode c.code pc = .ok (.getstatic index, 3))
    (go : ∀ T', St p l e R s m args below meth c Z a0 EL n0 own T' V h k n → Go p e below Q (T'.setTop (mkF m (pc + 3) Ls (v :: rest)))) : Go p e below Q (T.setTop (mkF m pc Ls rest)) := by
  obtain ⟨hx, eT, hZ, hown, hO, hE, hC, hlk, locs, k0, X, hS, hk, hF⟩ := S
  obtain ⟨T', X', e', st⟩ := getS X hx hZ hown (host := "") w via eT F (g := mkF m pc Ls rest) rfl hd
  exact Go.of st (go T' ⟨hx, e', hZ, hown, hO, hE, hC, hlk, locs, k0, X', hS, hk, hF⟩)
theorem g_cast (S : St p l e R s m args below meth c Z a0 EL n0 own T V h k n) {K : String} {index : Nat} (w : (Cond.classLink own index K).before a0 Z = true) {a : Addr} (F : Ins Z h a K true) (hd : decode c.code pc = .ok (.checkcast index, 3))
    (go : ∀ T', St p l e R s m args below meth c Z a0 EL n0 own T' V h k n → Go p e below Q (T'.setTop (mkF m (pc + 3) Ls (.ref a :: rest)))) : Go p e below Q (T.setTop (mkF m pc Ls (.ref a :: rest))) := by
  obtain ⟨hx, eT, hZ, hown, hO, hE, hC, hlk, locs, k0, X, hS, hk, hF⟩ := S
  obtain ⟨T', X', e', st⟩ := castY X hx hZ hown w eT F (g := mkF m pc Ls (.ref a :: rest)) rfl rfl hd
  exact Go.of st (go T' ⟨hx, e', hZ, hown, hO, hE, hC, hlk, locs, k0, X', hS, hk, hF⟩)
theorem g_inst (S : St p l e R s m args below meth c Z a0 EL n0 own T V h k n) {K : String} {index : Nat} (w : (Cond.classLink own index K).before a0 Z = true) {a : Addr} (F : Ins Z h a K true) (hd : decode c.code pc = .ok (.instanceof index, 3))
    (go : ∀ T', St p l e R s m args below meth c Z a0 EL n0 own T' V h k n → Go p e below Q (T'.setTop (mkF m (pc + 3) Ls (.int 1 :: rest)))) : Go p e below Q (T.setTop (mkF m pc Ls (.ref a :: rest))) := by
  obtain ⟨hx, eT, hZ, hown, hO, hE, hC, hlk, locs, k0, X, hS, hk, hF⟩ := S
  obtain ⟨T', X', e', st⟩ := instY X hx hZ hown w eT F (g := mkF m pc Ls (.ref a :: rest)) rfl rfl hd
  exact Go.of st (go T' ⟨hx, e', hZ, hown, hO, hE, hC, hlk, locs, k0, X', hS, hk, hF⟩)
theorem g_new (S : St p l e R s m args below meth c Z a0 EL n0 own T V h k n) {C : String} {index sz : Nat} (w : (Cond.classLink own index C).before a0 Z = true) (wi : (Cond.instantiable C sz).before a0 Z = true) (wz : (Cond.initialized C).before a0 Z = true) (hd : decode c.code pc = .ok (.new index, 3)) (hc : k + 1 ≤ R.cells) (hl : n + sz ≤ R.slots)
    (go : ∀ T' h' a, St p l e R s m args below meth c Z a0 EL n0 own T' V h' (k + 1) (n + sz) → Ext h h' → h.size ≤ a → a < h'.size → n0 ≤ a → Safe Z EL V h' a → Exa Z h' a C → (∀ {O nm d : String} {ty : FieldType}, Laid Z a0 C O nm d → parseFieldDescriptor d = some ty → Fld Z h' a O nm d (defaultValue ty)) →
      Go p e below Q (T'.setTop (mkF m (pc + 3) Ls (.ref a :: rest)))) : Go p e below Q (T.setTop (mkF m pc Ls rest)) := by
  have hle := S.le
  obtain ⟨hx, eT, hZ, hown, hO, hE, hC, hlk, locs, k0, X, hS, hk, hF⟩ := S
  obtain ⟨T', h', X', e', E, A, D, -, st⟩ := newO X hx hZ hown w wi wz eT (g := mkF m pc Ls rest) rfl hd hc hl
  exact Go.of st (go T' h' h.size ⟨hx, e', hZ, hown, hO.ext E, hE, hC.trans (CHr.ext E hC.1), hlk, locs, k0, X', hS, Nat.le_trans hk E.1, hF⟩ E (Nat.le_refl _) A.lt hle ((Safe.new (Nat.le_refl _)).ext E hC.1) A D)
theorem g_newarr (S : St p l e R s m args below meth c Z a0 EL n0 own T V h k n) {aty : ArrayType} (w : (Cond.arrayClass (newarray.typeOf aty)).before a0 Z = true) (hd : decode c.code pc = .ok (.newarray aty, 2)) {z : Int32} (hz : ¬ z < 0) {cap : Nat} (hcap : z.toNatClampNeg ≤ cap) (hb : cap * 8 ≤ 536870912) (hc : k + 1 ≤ R.cells) (hl : n + cap ≤ R.slots)
    (go : ∀ T' h' a kc, St p l e R s m args below meth c Z a0 EL n0 own T' V h' (k + 1) (n + cap) → Ext h h' → h.size ≤ a → a < h'.size → n0 ≤ a → Safe Z EL V h' a → (∀ j, Arv Z h' a kc (newarray.typeOf aty) z (List.replicate j (defaultValue (newarray.typeOf aty))) (defaultValue (newarray.typeOf aty))) →
      Go p e below Q (T'.setTop (mkF m (pc + 2) Ls (.ref a :: rest)))) : Go p e below Q (T.setTop (mkF m pc Ls (.int z :: rest))) := by
  have hle := S.le
  obtain ⟨hx, eT, hZ, hown, hO, hE, hC, hlk, locs, k0, X, hS, hk, hF⟩ := S
  obtain ⟨T', h', kc, X', e', E, A, st⟩ := newP X hx hZ w eT (g := mkF m pc Ls (.int z :: rest)) rfl hd rfl hz hcap hb hc hl
  exact Go.of st (go T' h' h.size kc ⟨hx, e', hZ, hown, hO.ext E, hE, hC.trans (CHr.ext E hC.1), hlk, locs, k0, X', hS, Nat.le_trans hk E.1, hF⟩ E (Nat.le_refl _) A.lt hle ((Safe.new (Nat.le_refl _)).ext E hC.1) fun j => (Arv.new A hz).pad (pad_rep [] _ j))
theorem g_castore (S : St p l e R s m args below meth c Z a0 EL n0 own T V h k n) {a : Addr} {kc : ClassId} {z : Int32} {vs : List Value} {dv : Value} (A : Arv Z h a kc .char z vs dv) {j x : Int32} (hj : ¬ j < 0 ∧ j < z) (i : Nat) (hi : j.toNatClampNeg = i) (hlt : i < vs.length) (na : n0 ≤ a) (hd : decode c.code pc = .ok (.castore, 1))
    (go : ∀ T' h', St p l e R s m args below meth c Z a0 EL n0 own T' V h' k n → Keep h h' [a] → Arv Z h' a kc .char z (vs.set i (.int (nar .char x))) dv → Go p e below Q (T'.setTop (mkF m (pc + 1) Ls rest))) : Go p e below Q (T.setTop (mkF m pc Ls (.int x :: .int j :: .ref a :: rest))) := by
  obtain ⟨hx, eT, hZ, hown, hO, hE, hC, hlk, locs, k0, X, hS, hk, hF⟩ := S
  have sf : Safe Z EL V h a := Safe.arv hZ.alike A (by decide)
  obtain ⟨cl, Ar, q1, q2, q3, q4, q5⟩ := A
  obtain ⟨T', h', X', e', W, st⟩ := stC X hx hZ eT Ar (j := j) (x := x) (inb_of q2 hj) (g := mkF m pc Ls (.int x :: .int j :: .ref a :: rest)) rfl rfl hd
  have K := Keep.of_wr W
  exact Go.of st (go T' h' ⟨hx, e', hZ, hown, hO.wr W na, hE, hC.trans (CHr.wr W sf hC.1), hlk, _, k0, X', hS, Nat.le_trans hk K.1, Fr.snoc X' hF na⟩ K (Arv.set Ar q1 q2 q3 q4 q5 (fits_nar_char x) W i hi hlt))
theorem g_putF (S : St p l e R s m args below meth c Z a0 EL n0 own T V h k n) {R0 O nm d C : String} {index kk : Nat} {ty : FieldType} (w : (Cond.fieldLink own index R0 nm d).before a0 Z = true) (via : Via Z R0 O nm d) {a : Addr} {v v' old : Value} (F : Fld Z h a O nm d old) (E : Exa Z h a C)
    (L : (Cond.lays C O nm d).before a0 Z = true ∨ ((Cond.laysFinal C O nm d).before a0 Z = true ∧ own = O ∧ meth.name = "<init>")) (wi : (Cond.instantiable C kk).before a0 Z = true) (hty : parseFieldDescriptor d = some ty) (hn : narrow ty v = v') (hf : fits ty v' = true) (na : n0 ≤ a) (sf : Safe Z EL V h a) (hd : decode c.code pc = .ok (.putfield index, 3))
    (go : ∀ T' h', St p l e R s m args below meth c Z a0 EL n0 own T' V h' k n → Keep h h' [a] → Wr h h' a (Jvm.RoadKit.slotOf Z O nm d) v' → Exa Z h' a C → Fld Z h' a O nm d v' → Safe Z EL V h' a → Go p e below Q (T'.setTop (mkF m (pc + 3) Ls rest))) : Go p e below Q (T.setTop (mkF m pc Ls (v :: .ref a :: rest))) := by
  obtain ⟨hx, eT, hZ, hown, hO, hE, hC, hlk, locs, k0, X, hS, hk, hF⟩ := S
  obtain ⟨T', h', X', e', W, st⟩ := putFN X hx hZ hown w via eT F E L wi hty hn hf (g := mkF m pc Ls (v :: .ref a :: rest)) rfl rfl hd
  have K := Keep.of_wr W
  exact Go.of st (go T' h' ⟨hx, e', hZ, hown, hO.wr W na, hE, hC.trans (CHr.wr W sf hC.1), hlk, _, k0, X', hS, Nat.le_trans hk K.1, Fr.snoc X' hF na⟩ K W (E.wr W) (F.same W) (Safe.wr W sf hC.1 sf))
theorem g_initO (S : St p l e R s m args below meth c Z a0 EL n0 own T V h k n) {index : Nat} (w1 : (Cond.methodLink own index Lib.objectInit).before a0 Z = true) (w2 : (Cond.instanceMethod Lib.objectInit).before a0 Z = true) (w3 : (Cond.code Lib.objectInit ⟨#[0xb1]⟩ 1 none).before a0 Z = true) (hsz : Ls.size = c.maxLocals) {a : Addr} (hd : decode c.code pc = .ok (.invokespecial index, 3)) (hf : 1 ≤ R.frames) (hl : (rest.map fun v => v.category).sum + 12 ≤ R.locals)
    (go : ∀ T', St p l e R s m args below meth c Z a0 EL n0 own T' V h k n → Go p e below Q (T'.setTop (mkF m (pc + 3) Ls rest))) : Go p e below Q (T.setTop (mkF m pc Ls (.ref a :: rest))) := by
  obtain ⟨hx, eT, hZ, hown, hO, hE, hC, hlk, locs, k0, X, hS, hk, hF⟩ := S
  obtain ⟨T', X', e', st⟩ := initO X hx hZ hown w1 w2 w3 eT (g := mkF m pc Ls (.ref a :: rest)) rfl hsz rfl hd hf (W := (rest.map fun v => v.category).sum) (by show 2 * 0 + _ ≤ _; omega) hl
  exact Go.of st (go T' ⟨hx, e', hZ, hown, hO, hE, hC, hlk, locs, k0, X', hS, hk, hF⟩)
theorem g_ldcI (S : St p l e R s m args below meth c Z a0 EL n0 own T V h k n) {index : Nat} {v : Int32} (w : (Cond.constant own index v).before a0 Z = true) (hd : decode c.code pc = .ok (.ldc index, 2)) (go : Go p e below Q (T.setTop (mkF m (pc + 2) Ls (.int v :: rest)))) : Go p e below Q (T.setTop (mkF m pc Ls rest)) := by
  obtain ⟨hx, eT, hZ, hown, hO, hE, hC, hlk, locs, k0, X, hS, hk, hF⟩ := S
  exact Go.of (fun _ q => X.ldcInt hx hown (mvT hZ w) (g := mkF m pc Ls rest) rfl hd _ q) go
theorem g_ldcJ (S : St p l e R s m args below meth c Z a0 EL n0 own T V h k n) {index : Nat} {v : Int64} (w : (Cond.constantLong own index v).before a0 Z = true) (hd : decode c.code pc = .ok (.ldc2_w index, 3)) (go : Go p e below Q (T.setTop (mkF m (pc + 3) Ls (.long v :: rest)))) : Go p e below Q (T.setTop (mkF m pc Ls rest)) := by
  obtain ⟨hx, eT, hZ, hown, hO, hE, hC, hlk, locs, k0, X, hS, hk, hF⟩ := S
  exact Go.of (fun _ q => X.ldc2Long hx hown (mvT hZ w) (g := mkF m pc Ls rest) rfl hd _ q) go
/-- a String constant whose text isn't read -/
theorem g_ldcO (S : St p l e R s m args below meth c Z a0 EL n0 own T V h k n) {index : Nat} {text : String} (w : (Cond.stringLink own index text).before a0 Z = true) (wS : ∀ a ∈ Bundle.stringAtoms, a.before a0 Z = true) (hd : decode c.code pc = .ok (.ldc index, 2)) {b : Nat} (hb : 4 * text.toList.length ≤ b) (hbig : b ≤ 536870912) (hc : k + 2 ≤ R.cells) (hl : n + (b + 4) ≤ R.slots)
    (go : ∀ a T' V' h', St p l e R s m args below meth c Z a0 EL n0 own T' V' h' (k + 2) (n + (b + 4)) → Ext h h' → CHr Z EL V h V' h' → Go p e below Q (T'.setTop (mkF m (pc + 2) Ls (.ref a :: rest)))) : Go p e below Q (T.setTop (mkF m pc Ls rest)) := by
  obtain ⟨hx, eT, hZ, hown, hO, hE, hC, hlk, locs, k0, X, hS, hk, hF⟩ := S
  obtain ⟨a, T', h', k1, X', e', E, hS', hk', hZ', hown', hC', -, st⟩ := ldcOH X hx hZ hown w wS eT hS hk hE hC.1 (g := mkF m pc Ls rest) rfl hd hb hbig hc hl
  exact Go.of st (go a T' T'.vm h' ⟨hx, e', hZ', hown', hO.ext E, hE, hC.trans hC', hlk, locs, k1, X', hS', hk', hF⟩ E hC')
/-- a String constant of EL -/
theorem g_ldcS (S : St p l e R s m args below meth c Z a0 EL n0 own T V h k n) {index : Nat} {text : String} (w : (Cond.stringLink own index text).before a0 Z = true) (wS : ∀ a ∈ Bundle.stringAtoms, a.before a0 Z = true) (hmem : (own, index) ∈ EL) {vs : List Value} {z : Int32} (ht : (∀ c ∈ text.toList, c.toNat < 256) ∧ text.toList.map (fun c => Value.int (Jvm.Lit.byteI c.toNat.toUInt16)) = vs) (hz : ¬ z < 0) (hlz : z.toNatClampNeg = vs.length)
    (hd : decode c.code pc = .ok (.ldc index, 2)) {b : Nat} (hb : 4 * text.toList.length ≤ b) (hbig : b ≤ 536870912) (hc : k + 2 ≤ R.cells) (hl : n + (b + 4) ≤ R.slots)
    (go : ∀ a T' V' h' t kt, St p l e R s m args below meth c Z a0 EL n0 own T' V' h' (k + 2) (n + (b + 4)) → Ext h h' → CHr Z EL V h V' h' → Exa Z h' a "java/lang/String" → Fld Z h' a "java/lang/String" "coder" "B" (.int 0) → Fld Z h' a "java/lang/String" "value" "[B" (.ref t) → Arv Z h' t kt .byte z vs (.int 0) → (∀ x, Safe Z EL V' h' x → x ≠ a ∧ x ≠ t) →
      Go p e below Q (T'.setTop (mkF m (pc + 2) Ls (.ref a :: rest)))) : Go p e below Q (T.setTop (mkF m pc Ls rest)) := by
  obtain ⟨hx, eT, hZ, hown, hO, hE, hC, hlk, locs, k0, X, hS, hk, hF⟩ := S
  obtain ⟨a, T', h', k1, t, kt, X', e', E, hS', hk', hZ', hown', f1, f2, f3, f4, -, -, hC', -, f5, st⟩ := ldcCH X hx hZ hown w wS eT hS hk hE hmem hC.1 ht hz hlz (g := mkF m pc Ls rest) rfl hd hb hbig hc hl
  exact Go.of st (go a T' T'.vm h' t kt ⟨hx, e', hZ', hown', hO.ext E, hE, hC.trans hC', hlk, locs, k1, X', hS', hk', hF⟩ E hC' f1 f2 f3 f4 f5)
section Calls
variable {y z : MethodName} {bytes : ByteArray} {maxL : Nat} {ret : Option FieldType} {rm : Room} {as' : Array Value} {sfs : List Addr} {QQ : Option Value → Heap → Prop} {index : Nat} {stk : List Value}
/-- the library's backOfSH with objects that are no literal's -/
theorem backOfSf {W : Nat} {vm0 : Vm} {QB : Option Value → Heap → List Loc → Prop}
    (hM : MetFree l y (head1 [Cond.code y bytes maxL ret] rm) (fun a U => a = as' ∧ Z.Warmed39 U.vm ∧ U.heap = h ∧ CHv Z EL U.vm h ∧ ∀ x ∈ sfs, Safe Z EL U.vm h x) (fun _ _ _ _ _ => True) (fun _ U o U' => ∃ v L, o = .returned v ∧ QB v U'.heap L ∧ CHr Z EL U.vm U.heap U'.vm U'.heap ∧ ReturnedEndW U o U' L rm.cells rm.slots))
    (hZ : Z.Warmed39 vm0) (wc : (Cond.code y bytes maxL ret).before a0 Z = true) (wz : (Cond.initialized y.cls).before a0 Z = true) (hf : rm.frames + 1 ≤ R.frames) (hl : W + (maxL + 11) + rm.locals ≤ R.locals) (hEL : EW Z a0 EL) (H : CHv Z EL vm0 h) (hsf : ∀ x ∈ sfs, x < h.size ∧ Safe Z EL vm0 h x) :
    BackS l R p e below (s.setVm vm0) args y 3 W (fun A a => a = as' ∧ A.U.heap = h ∧ A.cells + rm.cells ≤ R.cells ∧ A.slots + rm.slots ≤ R.slots)
      (fun A _ v B => ∃ L, QB v B.U.heap L ∧ B.locs = A.locs ++ L ∧ B.cells = A.cells + rm.cells ∧ B.slots = A.slots + rm.slots ∧ CHr Z EL vm0 h B.U.vm B.U.heap) := by
  refine BackS.of_freeW (bytes := bytes) (maxL := maxL) (ret := ret) (E := fun _ first o t L k n => (k = rm.cells ∧ n = rm.slots) ∧ (∃ v, o = .returned v ∧ QB v t.heap L) ∧ CHr Z EL first.vm first.heap t.vm t.heap) hM hf hl ?_ ?_ (fun _ _ _ _ _ _ _ _ _ => trivial) ?_ ?_
  · intro m meth c A a Y hp
    have hU : Z.Warmed39 A.U.vm := wtrans (s := s.setVm vm0) hZ Y.warmed
    exact ⟨by show (Cond.and _ .tt).before a A.U = true; rw [Cond.before_and, mv hU wc]; rfl, mv hU wc, mv hU wz, hp.2.2.1, hp.2.2.2⟩
  · intro m meth c A a g mk Y hp
    have q := CHv.at Y hZ hEL H
    exact ⟨hp.1, wtrans (s := s.setVm vm0) hZ Y.warmed, hp.2.1, q.1, fun x hx => q.safe (hsf x hx).1 (hsf x hx).2⟩
  · rintro _ _ _ _ ⟨v, L, h1, h2, h3, h4⟩
    exact ⟨L, _, _, h4, ⟨rfl, rfl⟩, ⟨v, h1, h2⟩, h3⟩
  · intro m meth c A a g mk v t L k n Y hp _ _ q
    obtain ⟨⟨e1, e2⟩, ⟨v', e3, e4⟩, e5⟩ := q
    cases e3; subst e1 e2
    refine ⟨L, e4, rfl, rfl, rfl, (CHv.at Y hZ hEL H).trans ?_⟩
    rw [← hp.2.1]; exact e5
theorem g_static (S : St p l e R s m args below meth c Z a0 EL n0 own T V h k n) (C : Ctr l Z EL n0 y bytes maxL ret rm as' h sfs QQ) (hsf : ∀ x ∈ sfs, x < h.size ∧ Safe Z EL V h x) (wl : (Cond.methodLink own index y).before a0 Z = true) (ws : (Cond.static y).before a0 Z = true) (wi : (Cond.initialized y.cls).before a0 Z = true) (wc : (Cond.code y bytes maxL ret).before a0 Z = true) (hy : y.cls ≠ "java/lang/invoke/MethodHandle" ∧ y.cls ≠ "java/lang/invoke/VarHandle")
    (hd : decode c.code pc = .ok (.invokestatic index, 3)) (hsz : Ls.size = c.maxLocals) (argsL : List Value) (hlen : ∀ sig, parseMethodDescriptor y.desc = some sig → argsL.length = sig.parameters.length) (hst : stk = argsL.reverse ++ rest) (has : argsL.toArray = as') (hf : rm.frames + 1 ≤ R.frames) (hl : (rest.map fun v => v.category).sum + (maxL + 11) + rm.locals ≤ R.locals) (hc : k + rm.cells ≤ R.cells) (hs : n + rm.slots ≤ R.slots)
    (go : ∀ v T' V' h', St p l e R s m args below meth c Z a0 EL n0 own T' V' h' (k + rm.cells) (n + rm.slots) → CHr Z EL V h V' h' → QQ v h' → Go p e below Q (T'.setTop (mkF m (pc + 3) Ls (v.toList ++ rest)))) : Go p e below Q (T.setTop (mkF m pc Ls stk)) := by
  obtain ⟨hx, eT, hZ, hown, hO, hE, hC, hlk, locs, k0, X, hS, hk, hF⟩ := S
  have bk := backOfSf (s := s) (R := R) (p := p) (e := e) (below := below) (args := args) (W := (rest.map fun v => v.category).sum) (QB := fun v h' L => QQ v h' ∧ Fr n0 L ∧ Old Z n0 h') (C []) hZ wc wi hf hl hE hC.1 hsf
  obtain ⟨v, vm1, ⟨U, Lc, kc, sc⟩, hW1, X', hS', hgr, ⟨L, ⟨hQ, hF', hO'⟩, eL, ec, es, hC'⟩, st⟩ := callSS X hx hown (mvT hZ wl) (mvT hZ ws) (mvT hZ wi) (mvT hZ wc) hy bk (g := mkF m pc Ls stk) rfl hsz (argsL := argsL) (rest := rest) hlen hst (by show 2 * 0 + _ ≤ _; omega) hd (fun _ _ => ⟨has, eT, hc, hs⟩)
  dsimp only [Pt.U, Pt.locs, Pt.cells, Pt.slots] at X' hS' hgr hQ hO' eL ec es hC' st
  subst eL ec es
  exact Go.of (fun _ q => st.trans q) (go v U U.vm U.heap ⟨hx, rfl, State.Warmed39.trans (t := s.setVm V) hZ hS'.1, by rw [hS'.1.alike.findClass]; exact hown, hO', hE, hC.trans hC', hlk, _, _, X', hS.trans hS' (Nat.le_trans hk (eT ▸ hgr)), Nat.le_refl _, hF.app hF'⟩ hC' hQ)
theorem g_special (S : St p l e R s m args below meth c Z a0 EL n0 own T V h k n) (C : Ctr l Z EL n0 y bytes maxL none rm as' h sfs QQ) (hsf : ∀ x ∈ sfs, x < h.size ∧ Safe Z EL V h x) (hy1 : y.name = "<init>") (wl : (Cond.methodLink own index y).before a0 Z = true) (ws : (Cond.instanceMethod y).before a0 Z = true) (wi : (Cond.initialized y.cls).before a0 Z = true) (wc : (Cond.code y bytes maxL none).before a0 Z = true) (hy : y.cls ≠ "java/lang/invoke/MethodHandle" ∧ y.cls ≠ "java/lang/invoke/VarHandle")
    (hd : decode c.code pc = .ok (.invokespecial index, 3)) (hsz : Ls.size = c.maxLocals) (a : Addr) (argsL : List Value) (hlen : ∀ sig, parseMethodDescriptor y.desc = some sig → argsL.length = sig.parameters.length) (hst : stk = argsL.reverse ++ .ref a :: rest) (has : (.ref a :: argsL).toArray = as') (hf : rm.frames + 1 ≤ R.frames) (hl : (rest.map fun v => v.category).sum + (maxL + 11) + rm.locals ≤ R.locals) (hc : k + rm.cells ≤ R.cells) (hs : n + rm.slots ≤ R.slots)
    (go : ∀ v T' V' h', St p l e R s m args below meth c Z a0 EL n0 own T' V' h' (k + rm.cells) (n + rm.slots) → CHr Z EL V h V' h' → QQ v h' → Go p e below Q (T'.setTop (mkF m (pc + 3) Ls (v.toList ++ rest)))) : Go p e below Q (T.setTop (mkF m pc Ls stk)) := by
  obtain ⟨hx, eT, hZ, hown, hO, hE, hC, hlk, locs, k0, X, hS, hk, hF⟩ := S
  have bk := backOfSf (s := s) (R := R) (p := p) (e := e) (below := below) (args := args) (W := (rest.map fun v => v.category).sum) (QB := fun v h' L => QQ v h' ∧ Fr n0 L ∧ Old Z n0 h') (C []) hZ wc wi hf hl hE hC.1 hsf
  obtain ⟨v, vm1, ⟨U, Lc, kc, sc⟩, hW1, X', hS', hgr, ⟨L, ⟨hQ, hF', hO'⟩, eL, ec, es, hC'⟩, st⟩ := X.specialBackS hx hy1 hown (mvT hZ wl) (mvT hZ ws) (mvT hZ wc) hy bk (g := mkF m pc Ls stk) rfl hsz (Steps.refl _) (a := a) (argsL := argsL) (rest := rest) hlen hst (by show 2 * 0 + _ ≤ _; omega) hd (fun _ _ => ⟨has, eT, hc, hs⟩)
  dsimp only [Pt.U, Pt.locs, Pt.cells, Pt.slots] at X' hS' hgr hQ hO' eL ec es hC' st
  subst eL ec es
  exact Go.of (fun _ q => st.trans q) (go v U U.vm U.heap ⟨hx, rfl, State.Warmed39.trans (t := s.setVm V) hZ hS'.1, by rw [hS'.1.alike.findClass]; exact hown, hO', hE, hC.trans hC', hlk, _, _, X', hS.trans hS' (Nat.le_trans hk (eT ▸ hgr)), Nat.le_refl _, hF.app hF'⟩ hC' hQ)
theorem g_virtual {C : String} (S : St p l e R s m args below meth c Z a0 EL n0 own T V h k n) (K : Ctr l Z EL n0 z bytes maxL ret rm as' h sfs QQ) (hsf : ∀ x ∈ sfs, x < h.size ∧ Safe Z EL V h x) (wl : (Cond.methodLink own index y).before a0 Z = true) (wd : (Cond.declares y).before a0 Z = true) (wse : (Cond.selects C y z).before a0 Z = true) (ws : (Cond.instanceMethod z).before a0 Z = true) (wi : (Cond.initialized z.cls).before a0 Z = true) (wc : (Cond.code z bytes maxL ret).before a0 Z = true) (hy : y.cls ≠ "java/lang/invoke/MethodHandle" ∧ y.cls ≠ "java/lang/invoke/VarHandle")
    (hnf : ∀ s' : State, (Cond.selects C y z).before args s' = true → NotFace s' y) (hd : decode c.code pc = .ok (.invokevirtual index, 3)) (hsz : Ls.size = c.maxLocals) (a : Addr) (E : Exa Z h a C) (argsL : List Value) (hlen : ∀ sig, parseMethodDescriptor y.desc = some sig → argsL.length = sig.parameters.length) (hst : stk = argsL.reverse ++ .ref a :: rest) (has : (.ref a :: argsL).toArray = as') (hf : rm.frames + 1 ≤ R.frames) (hl : (rest.map fun v => v.category).sum + (maxL + 11) + rm.locals ≤ R.locals) (hc : k + rm.cells ≤ R.cells) (hs : n + rm.slots ≤ R.slots)
    (go : ∀ v T' V' h', St p l e R s m args below meth c Z a0 EL n0 own T' V' h' (k + rm.cells) (n + rm.slots) → CHr Z EL V h V' h' → QQ v h' → Go p e below Q (T'.setTop (mkF m (pc + 3) Ls (v.toList ++ rest)))) : Go p e below Q (T.setTop (mkF m pc Ls stk)) := by
  obtain ⟨hx, eT, hZ, hown, hO, hE, hC, hlk, locs, k0, X, hS, hk, hF⟩ := S
  have bk := backOfSf (s := s) (R := R) (p := p) (e := e) (below := below) (args := args) (W := (rest.map fun v => v.category).sum) (QB := fun v h' L => QQ v h' ∧ Fr n0 L ∧ Old Z n0 h') (K []) hZ wc wi hf hl hE hC.1 hsf
  obtain ⟨cq, kq, q1, q2, q3⟩ := isOf (s := s.setVm V) hZ eT E
  obtain ⟨v, vm1, ⟨U, Lc, kc, sc⟩, hW1, X', hS', hgr, ⟨L, ⟨hQ, hF', hO'⟩, eL, ec, es, hC'⟩, st⟩ := X.virtualBackS hx hown (mvT hZ wl) (mvT hZ wd) (hnf _ (mvT hZ wse)) (mvT hZ wse) (mvT hZ ws) hy bk q1 q3 (g := mkF m pc Ls stk) rfl hsz (Steps.refl _) (argsL := argsL) (rest := rest) hlen hst (by show 2 * 0 + _ ≤ _; omega) hd (fun _ _ => ⟨has, eT, hc, hs⟩)
  dsimp only [Pt.U, Pt.locs, Pt.cells, Pt.slots] at X' hS' hgr hQ hO' eL ec es hC' st
  subst eL ec es
  exact Go.of (fun _ q => st.trans q) (go v U U.vm U.heap ⟨hx, rfl, State.Warmed39.trans (t := s.setVm V) hZ hS'.1, by rw [hS'.1.alike.findClass]; exact hown, hO', hE, hC.trans hC', hlk, _, _, X', hS.trans hS' (Nat.le_trans hk (eT ▸ hgr)), Nat.le_refl _, hF.app hF'⟩ hC' hQ)
/-- a callee that is paid by a narrow law of the library's (or of a pasted text's): rc cells, rs slots -/
abbrev BkC (l : Launch) (R : Room) (p : Program) (e : Env) (below : List Frame) (s : State) (args : Array Value) (y : MethodName) (W : Nat) (as' : Array Value) (h : Heap) (rc rs : Nat) (QB : Option Value → Heap → List Loc → Prop) : Prop :=
  Back l R p e below s args y 3 W (fun A a => a = as' ∧ A.U.heap = h ∧ A.cells + rc ≤ R.cells ∧ A.slots + rs ≤ R.slots) (fun A _ v B => ∃ L, QB v B.U.heap L ∧ B.locs = A.locs ++ L ∧ B.cells = A.cells + rc ∧ B.slots = A.slots + rs)
theorem g_staticB {rc rs : Nat} {QB : Option Value → Heap → List Loc → Prop} (S : St p l e R s m args below meth c Z a0 EL n0 own T V h k n) {W : Nat} (B : ∀ s' : State, Z.Warmed39 s'.vm → BkC l R p e below s' args y W as' h rc rs QB) (wl : (Cond.methodLink own index y).before a0 Z = true) (ws : (Cond.static y).before a0 Z = true) (wi : (Cond.initialized y.cls).before a0 Z = true) (wc : (Cond.code y bytes maxL ret).before a0 Z = true) (hy : y.cls ≠ "java/lang/invoke/MethodHandle" ∧ y.cls ≠ "java/lang/invoke/VarHandle")
    (hd : decode c.code pc = .ok (.invokestatic index, 3)) (hsz : Ls.size = c.maxLocals) (argsL : List Value) (hlen : ∀ sig, parseMethodDescriptor y.desc = some sig → argsL.length = sig.parameters.length) (hst : stk = argsL.reverse ++ rest) (has : argsL.toArray = as') (hW : (rest.map fun v => v.category).sum ≤ W) (hc : k + rc ≤ R.cells) (hs : n + rs ≤ R.slots)
    (hq : ∀ v h' L, QB v h' L → Fr n0 L ∧ ∃ xs, Keep h h' xs ∧ (∀ x ∈ xs, Safe Z EL V h x) ∧ ∀ x ∈ xs, n0 ≤ x)
    (go : ∀ v T' h' L, St p l e R s m args below meth c Z a0 EL n0 own T' V h' (k + rc) (n + rs) → QB v h' L → Go p e below Q (T'.setTop (mkF m (pc + 3) Ls (v.toList ++ rest)))) : Go p e below Q (T.setTop (mkF m pc Ls stk)) := by
  obtain ⟨hx, eT, hZ, hown, hO, hE, hC, hlk, locs, k0, X, hS, hk, hF⟩ := S
  obtain ⟨v, vm1, ⟨U, Lc, kc, sc⟩, hW1, X', ⟨L, hQ, eL, ec, es⟩, st⟩ := Jvm.LawKit.callS X hx hown (mvT hZ wl) (mvT hZ ws) (mvT hZ wi) (mvT hZ wc) hy (B (s.setVm V) hZ) (g := mkF m pc Ls stk) rfl hsz (argsL := argsL) (rest := rest) hlen hst (by show 2 * 0 + _ ≤ _; omega) hd (fun _ _ => ⟨has, eT, hc, hs⟩)
  dsimp only [Pt.U, Pt.locs, Pt.cells, Pt.slots] at X' hQ eL ec es st
  subst eL ec es
  obtain ⟨hF', xs, K, sf, nx⟩ := hq _ _ _ hQ
  exact Go.of st (go v U U.heap L ⟨hx, rfl, hZ, hown, hO.keep K nx, hE, hC.trans (CHr.keep K sf hC.1), hlk, _, _, X', hS, Nat.le_trans hk K.1, hF.app hF'⟩ hQ)
theorem g_specialB {rc rs : Nat} {QB : Option Value → Heap → List Loc → Prop} (S : St p l e R s m args below meth c Z a0 EL n0 own T V h k n) {W : Nat} (B : ∀ s' : State, Z.Warmed39 s'.vm → BkC l R p e below s' args y W as' h rc rs QB) (hy1 : y.name = "<init>") (wl : (Cond.methodLink own index y).before a0 Z = true) (ws : (Cond.instanceMethod y).before a0 Z = true) (wc : (Cond.code y bytes maxL none).before a0 Z = true) (hy : y.cls ≠ "java/lang/invoke/MethodHandle" ∧ y.cls ≠ "java/lang/invoke/VarHandle")
    (hd : decode c.code pc = .ok (.invokespecial index, 3)) (hsz : Ls.size = c.maxLocals) (a : Addr) (argsL : List Value) (hlen : ∀ sig, parseMethodDescriptor y.desc = some sig → argsL.length = sig.parameters.length) (hst : stk = argsL.reverse ++ .ref a :: rest) (has : (.ref a :: argsL).toArray = as') (hW : (rest.map fun v => v.category).sum ≤ W) (hc : k + rc ≤ R.cells) (hs : n + rs ≤ R.slots)
    (hq : ∀ v h' L, QB v h' L → Fr n0 L ∧ ∃ xs, Keep h h' xs ∧ (∀ x ∈ xs, Safe Z EL V h x) ∧ ∀ x ∈ xs, n0 ≤ x)
    (go : ∀ v T' h' L, St p l e R s m args below meth c Z a0 EL n0 own T' V h' (k + rc) (n + rs) → QB v h' L → Go p e below Q (T'.setTop (mkF m (pc + 3) Ls (v.toList ++ rest)))) : Go p e below Q (T.setTop (mkF m pc Ls stk)) := by
  obtain ⟨hx, eT, hZ, hown, hO, hE, hC, hlk, locs, k0, X, hS, hk, hF⟩ := S
  obtain ⟨v, vm1, ⟨U, Lc, kc, sc⟩, hW1, X', ⟨L, hQ, eL, ec, es⟩, st⟩ := X.specialBack hx hy1 hown (mvT hZ wl) (mvT hZ ws) (mvT hZ wc) hy (B (s.setVm V) hZ) (g := mkF m pc Ls stk) rfl hsz (Steps.refl _) (a := a) (argsL := argsL) (rest := rest) hlen hst (by show 2 * 0 + _ ≤ _; omega) hd (fun _ _ => ⟨has, eT, hc, hs⟩)
  dsimp only [Pt.U, Pt.locs, Pt.cells, Pt.slots] at X' hQ eL ec es st
  subst eL ec es
  obtain ⟨hF', xs, K, sf, nx⟩ := hq _ _ _ hQ
  exact Go.of (fun _ q => st.trans q) (go v U U.heap L ⟨hx, rfl, hZ, hown, hO.keep K nx, hE, hC.trans (CHr.keep K sf hC.1), hlk, _, _, X', hS, Nat.le_trans hk K.1, hF.app hF'⟩ hQ)
theorem g_virtualB {C : String} {rc rs : Nat} {QB : Option Value → Heap → List Loc → Prop} (S : St p l e R s m args below meth c Z a0 EL n0 own T V h k n) {W : Nat} (B : ∀ s' : State, Z.Warmed39 s'.vm → BkC l R p e below s' args z W as' h rc rs QB) (wl : (Cond.methodLink own index y).before a0 Z = true) (wd : (Cond.declares y).before a0 Z = true) (wse : (Cond.selects C y z).before a0 Z = true) (ws : (Cond.instanceMethod z).before a0 Z = true) (hy : y.cls ≠ "java/lang/invoke/MethodHandle" ∧ y.cls ≠ "java/lang/invoke/VarHandle")
    (hnf : ∀ s' : State, (Cond.selects C y z).before args s' = true → NotFace s' y) (hd : decode c.code pc = .ok (.invokevirtual index, 3)) (hsz : Ls.size = c.maxLocals) (a : Addr) (E : Exa Z h a C) (argsL : List Value) (hlen : ∀ sig, parseMethodDescriptor y.desc = some sig → argsL.length = sig.parameters.length) (hst : stk = argsL.reverse ++ .ref a :: rest) (has : (.ref a :: argsL).toArray = as') (hW : (rest.map fun v => v.category).sum ≤ W) (hc : k + rc ≤ R.cells) (hs : n + rs ≤ R.slots)
    (hq : ∀ v h' L, QB v h' L → Fr n0 L ∧ ∃ xs, Keep h h' xs ∧ (∀ x ∈ xs, Safe Z EL V h x) ∧ ∀ x ∈ xs, n0 ≤ x)
    (go : ∀ v T' h' L, St p l e R s m args below meth c Z a0 EL n0 own T' V h' (k + rc) (n + rs) → QB v h' L → Go p e below Q (T'.setTop (mkF m (pc + 3) Ls (v.toList ++ rest)))) : Go p e below Q (T.setTop (mkF m pc Ls stk)) := by
  obtain ⟨hx, eT, hZ, hown, hO, hE, hC, hlk, locs, k0, X, hS, hk, hF⟩ := S
  obtain ⟨cq, kq, q1, q2, q3⟩ := isOf (s := s.setVm V) hZ eT E
  obtain ⟨v, vm1, ⟨U, Lc, kc, sc⟩, hW1, X', ⟨L, hQ, eL, ec, es⟩, st⟩ := X.virtualBack hx hown (mvT hZ wl) (mvT hZ wd) (hnf _ (mvT hZ wse)) (mvT hZ wse) (mvT hZ ws) hy (B (s.setVm V) hZ) q1 q3 (g := mkF m pc Ls stk) rfl hsz (Steps.refl _) (argsL := argsL) (rest := rest) hlen hst (by show 2 * 0 + _ ≤ _; omega) hd (fun _ _ => ⟨has, eT, hc, hs⟩)
  dsimp only [Pt.U, Pt.locs, Pt.cells, Pt.slots] at X' hQ eL ec es st
  subst eL ec es
  obtain ⟨hF', xs, K, sf, nx⟩ := hq _ _ _ hQ
  exact Go.of (fun _ q => st.trans q) (go v U U.heap L ⟨hx, rfl, hZ, hown, hO.keep K nx, hE, hC.trans (CHr.keep K sf hC.1), hlk, _, _, X', hS, Nat.le_trans hk K.1, hF.app hF'⟩ hQ)
end Calls
theorem g_icmp (S : St p l e R s m args below meth c Z a0 EL n0 own T V h k n) {cd : ClassFile.Cond} {x y : Int32} {o : Int} {pcT : Nat} (hd : decode c.code pc = .ok (.if_icmp cd o, 3)) (ho : 0 ≤ (pc : Int) + o) (hp : ((pc : Int) + o).toNat = pcT) (yes : if_icmp.holds cd x y = true → Go p e below Q (T.setTop (mkF m pcT Ls rest))) (no : if_icmp.holds cd x y = false → Go p e below Q (T.setTop (mkF m (pc + 3) Ls rest))) : Go p e below Q (T.setTop (mkF m pc Ls (.int y :: .int x :: rest))) := by
  cases q : if_icmp.holds cd x y
  · exact Go.of (fun _ r => XS.icmpNo S.here S.hx rfl hd rfl q r) (no q)
  · exact Go.of (fun _ r => XS.icmpYes S.here S.hx rfl (pc0 := pc) (pc' := pcT) rfl hd rfl q ho hp r) (yes q)
theorem g_if (S : St p l e R s m args below meth c Z a0 EL n0 own T V h k n) {cd : ClassFile.Cond} {x : Int32} {o : Int} {pcT : Nat} (hd : decode c.code pc = .ok (.ifCond cd o, 3)) (ho : 0 ≤ (pc : Int) + o) (hp : ((pc : Int) + o).toNat = pcT) (yes : if_icmp.holds cd x 0 = true → Go p e below Q (T.setTop (mkF m pcT Ls rest))) (no : if_icmp.holds cd x 0 = false → Go p e below Q (T.setTop (mkF m (pc + 3) Ls rest))) : Go p e below Q (T.setTop (mkF m pc Ls (.int x :: rest))) := by
  cases q : if_icmp.holds cd x 0
  · exact Go.of (fun _ r => XS.ifNo S.here S.hx rfl hd rfl ((if0 _ _).trans q) r) (no q)
  · exact Go.of (fun _ r => XS.ifYes S.here S.hx rfl (pc0 := pc) (pc' := pcT) rfl hd rfl ((if0 _ _).trans q) ho hp r) (yes q)
theorem icT_eq {x y : Int32} (h : if_icmp.holds .eq x y = true) : x = y := by simpa [if_icmp.holds] using h
theorem icF_eq {x y : Int32} (h : if_icmp.holds .eq x y = false) : ¬ x = y := by simpa [if_icmp.holds] using h
theorem icT_ne {x y : Int32} (h : if_icmp.holds .ne x y = true) : ¬ x = y := by simpa [if_icmp.holds] using h
theorem icF_ne {x y : Int32} (h : if_icmp.holds .ne x y = false) : x = y := by simpa [if_icmp.holds] using h
theorem icT_lt {x y : Int32} (h : if_icmp.holds .lt x y = true) : x < y := by simpa [if_icmp.holds] using h
theorem icF_lt {x y : Int32} (h : if_icmp.holds .lt x y = false) : ¬ x < y := by simpa [if_icmp.holds] using h
theorem icT_ge {x y : Int32} (h : if_icmp.holds .ge x y = true) : ¬ x < y := fun q => by rw [(tlt q).2.1] at h; cases h
theorem icF_ge {x y : Int32} (h : if_icmp.holds .ge x y = false) : x < y := Decidable.byContradiction fun q => by rw [(flt q).2.1] at h; cases h
theorem icT_gt {x y : Int32} (h : if_icmp.holds .gt x y = true) : y < x := Decidable.byContradiction fun q => by rw [(flt q).2.2.1] at h; cases h
theorem icF_gt {x y : Int32} (h : if_icmp.holds .gt x y = false) : ¬ y < x := fun q => by rw [(tlt q).2.2.1] at h; cases h
theorem icT_le {x y : Int32} (h : if_icmp.holds .le x y = true) : ¬ y < x := fun q => by rw [(tlt q).2.2.2] at h; cases h
theorem icF_le {x y : Int32} (h : if_icmp.holds .le x y = false) : y < x := Decidable.byContradiction fun q => by rw [(flt q).2.2.2] at h; cases h
theorem g_caload (S : St p l e R s m args below meth c Z a0 EL n0 own T V h k n) {a : Addr} {kc : ClassId} {z : Int32} {vs : List Value} {dv : Value} (A : Arv Z h a kc .char z vs dv) {j : Int32} (hj : ¬ j < 0 ∧ j < z) {x : Int32} (hv : vs.getD j.toNatClampNeg dv = .int x) (hd : decode c.code pc = .ok (.caload, 1)) (go : Go p e below Q (T.setTop (mkF m (pc + 1) Ls (.int x :: rest)))) : Go p e below Q (T.setTop (mkF m pc Ls (.int j :: .ref a :: rest))) := by
  obtain ⟨hx, eT, hZ, hown, hO, hE, hC, hlk, locs, k0, X, hS, hk, hF⟩ := S
  obtain ⟨cl, Ar, q1, q2, q3, q4, q5⟩ := A
  have hin := inb_of q2 hj
  exact Go.of (fun _ q => X.caload hx (j := j) (v := .int x) (by rw [eT]; exact Ar.1) (State.isArrayOf_alike (T := s.setVm V) hZ.alike Ar.2.1) Ar.2.2 hin (q4.at hin hv) (g := mkF m pc Ls (.int j :: .ref a :: rest)) rfl rfl hd _ q) go
theorem g_len (S : St p l e R s m args below meth c Z a0 EL n0 own T V h k n) {a : Addr} {kc : ClassId} {ty : FieldType} {z : Int32} {vs : List Value} {dv : Value} (A : Arv Z h a kc ty z vs dv) (hd : decode c.code pc = .ok (.arraylength, 1)) (go : Go p e below Q (T.setTop (mkF m (pc + 1) Ls (.int z :: rest)))) : Go p e below Q (T.setTop (mkF m pc Ls (.ref a :: rest))) := by
  obtain ⟨hx, eT, hZ, hown, hO, hE, hC, hlk, locs, k0, X, hS, hk, hF⟩ := S
  obtain ⟨cl, Ar, q1, q2, q3, q4, q5⟩ := A
  rw [← len_of q2 q3] at go
  exact Go.of (fun _ q => X.arraylength hx (by rw [eT]; exact Ar.1) (State.isArrayOf_alike (T := s.setVm V) hZ.alike Ar.2.1) (g := mkF m pc Ls (.ref a :: rest)) rfl rfl hd _ q) go
theorem s_iload {i : Nat} {v : Int32} (S : St p l e R s m args below meth c Z a0 EL n0 own T V h k n) (hd : decode c.code pc = .ok (.iload i, 2)) (hv : Ls[i]? = some (.val (.int v))) {pc' : Nat} (hp : pc + 2 = pc') (go : Go p e below Q (T.setTop (mkF m pc' Ls (.int v :: rest)))) : Go p e below Q (T.setTop (mkF m pc Ls rest)) := by
  subst hp; exact Go.of (fun _ q => XS.iload S.here S.hx rfl hd hv q) go
theorem s_iloadN {i : Fin 4} {v : Int32} (S : St p l e R s m args below meth c Z a0 EL n0 own T V h k n) (hd : decode c.code pc = .ok (.iload_n i, 1)) (hv : Ls[i.val]? = some (.val (.int v))) {pc' : Nat} (hp : pc + 1 = pc') (go : Go p e below Q (T.setTop (mkF m pc' Ls (.int v :: rest)))) : Go p e below Q (T.setTop (mkF m pc Ls rest)) := by
  subst hp; exact Go.of (fun _ q => XS.iloadN S.here S.hx rfl hd hv q) go
theorem s_lload {i : Nat} {v : Int64} (S : St p l e R s m args below meth c Z a0 EL n0 own T V h k n) (hd : decode c.code pc = .ok (.lload i, 2)) (hv : Ls[i]? = some (.val (.long v))) {pc' : Nat} (hp : pc + 2 = pc') (go : Go p e below Q (T.setTop (mkF m pc' Ls (.long v :: rest)))) : Go p e below Q (T.setTop (mkF m pc Ls rest)) := by
  subst hp; exact Go.of (fun _ q => XS.lload S.here S.hx rfl hd hv q) go
theorem s_lloadN {i : Fin 4} {v : Int64} (S : St p l e R s m args below meth c Z a0 EL n0 own T V h k n) (hd : decode c.code pc = .ok (.lload_n i, 1)) (hv : Ls[i.val]? = some (.val (.long v))) {pc' : Nat} (hp : pc + 1 = pc') (go : Go p e below Q (T.setTop (mkF m pc' Ls (.long v :: rest)))) : Go p e below Q (T.setTop (mkF m pc Ls rest)) := by
  subst hp; exact Go.of (fun _ q => XS.lloadN S.here S.hx rfl hd hv q) go
theorem s_aload {i : Nat} {v : Value} (S : St p l e R s m args below meth c Z a0 EL n0 own T V h k n) (hd : decode c.code pc = .ok (.aload i, 2)) (hv : Ls[i]? = some (.val v)) (hr : v.isRef = true) {pc' : Nat} (hp : pc + 2 = pc') (go : Go p e below Q (T.setTop (mkF m pc' Ls (v :: rest)))) : Go p e below Q (T.setTop (mkF m pc Ls rest)) := by
  subst hp; exact Go.of (fun _ q => XS.aload S.here S.hx rfl hd hv hr q) go
theorem s_aloadN {i : Fin 4} {v : Value} (S : St p l e R s m args below meth c Z a0 EL n0 own T V h k n) (hd : decode c.code pc = .ok (.aload_n i, 1)) (hv : Ls[i.val]? = some (.val v)) (hr : v.isRef = true) {pc' : Nat} (hp : pc + 1 = pc') (go : Go p e below Q (T.setTop (mkF m pc' Ls (v :: rest)))) : Go p e below Q (T.setTop (mkF m pc Ls rest)) := by
  subst hp; exact Go.of (fun _ q => XS.aloadN S.here S.hx rfl hd hv hr q) go
theorem s_istore {i : Nat} {v : Int32} {L' : Array Slot} (S : St p l e R s m args below meth c Z a0 EL n0 own T V h k n) (hd : decode c.code pc = .ok (.istore i, 2)) (hl : storeLocals Ls i (.int v) = some L') {pc' : Nat} (hp : pc + 2 = pc') (go : Go p e below Q (T.setTop (mkF m pc' L' rest))) : Go p e below Q (T.setTop (mkF m pc Ls (.int v :: rest))) := by
  subst hp; exact Go.of (fun _ q => XS.istore S.here S.hx rfl hd rfl hl q) go
theorem s_istoreN {i : Fin 4} {v : Int32} {L' : Array Slot} (S : St p l e R s m args below meth c Z a0 EL n0 own T V h k n) (hd : decode c.code pc = .ok (.istore_n i, 1)) (hl : storeLocals Ls i.val (.int v) = some L') {pc' : Nat} (hp : pc + 1 = pc') (go : Go p e below Q (T.setTop (mkF m pc' L' rest))) : Go p e below Q (T.setTop (mkF m pc Ls (.int v :: rest))) := by
  subst hp; exact Go.of (fun _ q => XS.istoreN S.here S.hx rfl hd rfl hl q) go
theorem s_lstore {i : Nat} {v : Int64} {L' : Array Slot} (S : St p l e R s m args below meth c Z a0 EL n0 own T V h k n) (hd : decode c.code pc = .ok (.lstore i, 2)) (hl : storeLocals Ls i (.long v) = some L') {pc' : Nat} (hp : pc + 2 = pc') (go : Go p e below Q (T.setTop (mkF m pc' L' rest))) : Go p e below Q (T.setTop (mkF m pc Ls (.long v :: rest))) := by
  subst hp; exact Go.of (fun _ q => XS.lstore S.here S.hx rfl hd rfl hl q) go
theorem s_lstoreN {i : Fin 4} {v : Int64} {L' : Array Slot} (S : St p l e R s m args below meth c Z a0 EL n0 own T V h k n) (hd : decode c.code pc = .ok (.lstore_n i, 1)) (hl : storeLocals Ls i.val (.long v) = some L') {pc' : Nat} (hp : pc + 1 = pc') (go : Go p e below Q (T.setTop (mkF m pc' L' rest))) : Go p e below Q (T.setTop (mkF m pc Ls (.long v :: rest))) := by
  subst hp; exact Go.of (fun _ q => XS.lstoreN S.here S.hx rfl hd rfl hl q) go
theorem s_astore {i : Nat} {v : Value} {L' : Array Slot} (S : St p l e R s m args below meth c Z a0 EL n0 own T V h k n) (hd : decode c.code pc = .ok (.astore i, 2)) (hr : v.isRef = true) (hl : storeLocals Ls i v = some L') {pc' : Nat} (hp : pc + 2 = pc') (go : Go p e below Q (T.setTop (mkF m pc' L' rest))) : Go p e below Q (T.setTop (mkF m pc Ls (v :: rest))) := by
  subst hp; exact Go.of (fun _ q => XS.astore S.here S.hx rfl hd rfl hr hl q) go
theorem s_astoreN {i : Fin 4} {v : Value} {L' : Array Slot} (S : St p l e R s m args below meth c Z a0 EL n0 own T V h k n) (hd : decode c.code pc = .ok (.astore_n i, 1)) (hr : v.isRef = true) (hl : storeLocals Ls i.val v = some L') {pc' : Nat} (hp : pc + 1 = pc') (go : Go p e below Q (T.setTop (mkF m pc' L' rest))) : Go p e below Q (T.setTop (mkF m pc Ls (v :: rest))) := by
  subst hp; exact Go.of (fun _ q => XS.astoreN S.here S.hx rfl hd rfl hr hl q) go
theorem s_iconst {i : Int} {v : Int32} (S : St p l e R s m args below meth c Z a0 EL n0 own T V h k n) (hd : decode c.code pc = .ok (.iconst i, 1)) (hv : Int32.ofInt i = v) {pc' : Nat} (hp : pc + 1 = pc') (go : Go p e below Q (T.setTop (mkF m pc' Ls (.int v :: rest)))) : Go p e below Q (T.setTop (mkF m pc Ls rest)) := by
  subst hp hv; exact Go.of (fun _ q => XS.iconst S.here S.hx rfl hd q) go
theorem s_bipush {i : Int} {v : Int32} (S : St p l e R s m args below meth c Z a0 EL n0 own T V h k n) (hd : decode c.code pc = .ok (.bipush i, 2)) (hv : (Int8.ofInt i).toInt32 = v) {pc' : Nat} (hp : pc + 2 = pc') (go : Go p e below Q (T.setTop (mkF m pc' Ls (.int v :: rest)))) : Go p e below Q (T.setTop (mkF m pc Ls rest)) := by
  subst hp hv; exact Go.of (fun _ q => XS.bipush S.here S.hx rfl hd q) go
theorem s_sipush {i : Int} {v : Int32} (S : St p l e R s m args below meth c Z a0 EL n0 own T V h k n) (hd : decode c.code pc = .ok (.sipush i, 3)) (hv : (Int16.ofInt i).toInt32 = v) {pc' : Nat} (hp : pc + 3 = pc') (go : Go p e below Q (T.setTop (mkF m pc' Ls (.int v :: rest)))) : Go p e below Q (T.setTop (mkF m pc Ls rest)) := by
  subst hp hv; exact Go.of (fun _ q => XS.sipush S.here S.hx rfl hd q) go
theorem s_null  (S : St p l e R s m args below meth c Z a0 EL n0 own T V h k n) (hd : decode c.code pc = .ok (.aconst_null, 1))  {pc' : Nat} (hp : pc + 1 = pc') (go : Go p e below Q (T.setTop (mkF m pc' Ls (.null :: rest)))) : Go p e below Q (T.setTop (mkF m pc Ls rest)) := by
  subst hp; exact Go.of (fun _ q => XS.aconstNull S.here S.hx rfl hd q) go
theorem s_dup {v : Value} (S : St p l e R s m args below meth c Z a0 EL n0 own T V h k n) (hd : decode c.code pc = .ok (.dup, 1)) (hc : v.category = 1) {pc' : Nat} (hp : pc + 1 = pc') (go : Go p e below Q (T.setTop (mkF m pc' Ls (v :: v :: rest)))) : Go p e below Q (T.setTop (mkF m pc Ls (v :: rest))) := by
  subst hp; exact Go.of (fun _ q => XS.dup S.here S.hx rfl hd rfl hc q) go
theorem s_pop {v : Value} (S : St p l e R s m args below meth c Z a0 EL n0 own T V h k n) (hd : decode c.code pc = .ok (.pop, 1)) (hc : v.category = 1) {pc' : Nat} (hp : pc + 1 = pc') (go : Go p e below Q (T.setTop (mkF m pc' Ls rest))) : Go p e below Q (T.setTop (mkF m pc Ls (v :: rest))) := by
  subst hp; exact Go.of (fun _ q => XS.pop S.here S.hx rfl hd rfl hc q) go
theorem s_dupX1 {v u : Value} (S : St p l e R s m args below meth c Z a0 EL n0 own T V h k n) (hd : decode c.code pc = .ok (.dup_x1, 1)) (hc : v.category = 1) (hu : u.category = 1) {pc' : Nat} (hp : pc + 1 = pc') (go : Go p e below Q (T.setTop (mkF m pc' Ls (v :: u :: v :: rest)))) : Go p e below Q (T.setTop (mkF m pc Ls (v :: u :: rest))) := by
  subst hp; exact Go.of (fun _ q => XS.dupX1 S.here S.hx rfl hd rfl hc hu q) go
theorem s_iadd {x y z : Int32} (S : St p l e R s m args below meth c Z a0 EL n0 own T V h k n) (hd : decode c.code pc = .ok (.iadd, 1)) (hv : x + y = z) {pc' : Nat} (hp : pc + 1 = pc') (go : Go p e below Q (T.setTop (mkF m pc' Ls (.int z :: rest)))) : Go p e below Q (T.setTop (mkF m pc Ls (.int y :: .int x :: rest))) := by
  subst hp hv; exact Go.of (fun _ q => XS.iadd S.here S.hx rfl hd rfl q) go
theorem s_isub {x y z : Int32} (S : St p l e R s m args below meth c Z a0 EL n0 own T V h k n) (hd : decode c.code pc = .ok (.isub, 1)) (hv : x - y = z) {pc' : Nat} (hp : pc + 1 = pc') (go : Go p e below Q (T.setTop (mkF m pc' Ls (.int z :: rest)))) : Go p e below Q (T.setTop (mkF m pc Ls (.int y :: .int x :: rest))) := by
  subst hp hv; exact Go.of (fun _ q => XS.isub S.here S.hx rfl hd rfl q) go
theorem s_imul {x y z : Int32} (S : St p l e R s m args below meth c Z a0 EL n0 own T V h k n) (hd : decode c.code pc = .ok (.imul, 1)) (hv : x * y = z) {pc' : Nat} (hp : pc + 1 = pc') (go : Go p e below Q (T.setTop (mkF m pc' Ls (.int z :: rest)))) : Go p e below Q (T.setTop (mkF m pc Ls (.int y :: .int x :: rest))) := by
  subst hp hv; exact Go.of (fun _ q => XS.imul S.here S.hx rfl hd rfl q) go
theorem s_iand {x y z : Int32} (S : St p l e R s m args below meth c Z a0 EL n0 own T V h k n) (hd : decode c.code pc = .ok (.iand, 1)) (hv : x &&& y = z) {pc' : Nat} (hp : pc + 1 = pc') (go : Go p e below Q (T.setTop (mkF m pc' Ls (.int z :: rest)))) : Go p e below Q (T.setTop (mkF m pc Ls (.int y :: .int x :: rest))) := by
  subst hp hv; exact Go.of (fun _ q => XS.iand S.here S.hx rfl hd rfl q) go
theorem s_ior {x y z : Int32} (S : St p l e R s m args below meth c Z a0 EL n0 own T V h k n) (hd : decode c.code pc = .ok (.ior, 1)) (hv : x ||| y = z) {pc' : Nat} (hp : pc + 1 = pc') (go : Go p e below Q (T.setTop (mkF m pc' Ls (.int z :: rest)))) : Go p e below Q (T.setTop (mkF m pc Ls (.int y :: .int x :: rest))) := by
  subst hp hv; exact Go.of (fun _ q => XS.ior S.here S.hx rfl hd rfl q) go
theorem s_ixor {x y z : Int32} (S : St p l e R s m args below meth c Z a0 EL n0 own T V h k n) (hd : decode c.code pc = .ok (.ixor, 1)) (hv : x ^^^ y = z) {pc' : Nat} (hp : pc + 1 = pc') (go : Go p e below Q (T.setTop (mkF m pc' Ls (.int z :: rest)))) : Go p e below Q (T.setTop (mkF m pc Ls (.int y :: .int x :: rest))) := by
  subst hp hv; exact Go.of (fun _ q => XS.ixor S.here S.hx rfl hd rfl q) go
theorem s_ladd {x y z : Int64} (S : St p l e R s m args below meth c Z a0 EL n0 own T V h k n) (hd : decode c.code pc = .ok (.ladd, 1)) (hv : x + y = z) {pc' : Nat} (hp : pc + 1 = pc') (go : Go p e below Q (T.setTop (mkF m pc' Ls (.long z :: rest)))) : Go p e below Q (T.setTop (mkF m pc Ls (.long y :: .long x :: rest))) := by
  subst hp hv; exact Go.of (fun _ q => XS.ladd S.here S.hx rfl hd rfl q) go
theorem s_lsub {x y z : Int64} (S : St p l e R s m args below meth c Z a0 EL n0 own T V h k n) (hd : decode c.code pc = .ok (.lsub, 1)) (hv : x - y = z) {pc' : Nat} (hp : pc + 1 = pc') (go : Go p e below Q (T.setTop (mkF m pc' Ls (.long z :: rest)))) : Go p e below Q (T.setTop (mkF m pc Ls (.long y :: .long x :: rest))) := by
  subst hp hv; exact Go.of (fun _ q => XS.lsub S.here S.hx rfl hd rfl q) go
theorem s_lmul {x y z : Int64} (S : St p l e R s m args below meth c Z a0 EL n0 own T V h k n) (hd : decode c.code pc = .ok (.lmul, 1)) (hv : x * y = z) {pc' : Nat} (hp : pc + 1 = pc') (go : Go p e below Q (T.setTop (mkF m pc' Ls (.long z :: rest)))) : Go p e below Q (T.setTop (mkF m pc Ls (.long y :: .long x :: rest))) := by
  subst hp hv; exact Go.of (fun _ q => XS.lmul S.here S.hx rfl hd rfl q) go
theorem s_land {x y z : Int64} (S : St p l e R s m args below meth c Z a0 EL n0 own T V h k n) (hd : decode c.code pc = .ok (.land, 1)) (hv : x &&& y = z) {pc' : Nat} (hp : pc + 1 = pc') (go : Go p e below Q (T.setTop (mkF m pc' Ls (.long z :: rest)))) : Go p e below Q (T.setTop (mkF m pc Ls (.long y :: .long x :: rest))) := by
  subst hp hv; exact Go.of (fun _ q => XS.land S.here S.hx rfl hd rfl q) go
theorem s_lor {x y z : Int64} (S : St p l e R s m args below meth c Z a0 EL n0 own T V h k n) (hd : decode c.code pc = .ok (.lor, 1)) (hv : x ||| y = z) {pc' : Nat} (hp : pc + 1 = pc') (go : Go p e below Q (T.setTop (mkF m pc' Ls (.long z :: rest)))) : Go p e below Q (T.setTop (mkF m pc Ls (.long y :: .long x :: rest))) := by
  subst hp hv; exact Go.of (fun _ q => XS.lor S.here S.hx rfl hd rfl q) go
theorem s_lxor {x y z : Int64} (S : St p l e R s m args below meth c Z a0 EL n0 own T V h k n) (hd : decode c.code pc = .ok (.lxor, 1)) (hv : x ^^^ y = z) {pc' : Nat} (hp : pc + 1 = pc') (go : Go p e below Q (T.setTop (mkF m pc' Ls (.long z :: rest)))) : Go p e below Q (T.setTop (mkF m pc Ls (.long y :: .long x :: rest))) := by
  subst hp hv; exact Go.of (fun _ q => XS.lxor S.here S.hx rfl hd rfl q) go
theorem s_ishl {x y z : Int32} (S : St p l e R s m args below meth c Z a0 EL n0 own T V h k n) (hd : decode c.code pc = .ok (.ishl, 1)) (hv : x <<< (y &&& 31) = z) {pc' : Nat} (hp : pc + 1 = pc') (go : Go p e below Q (T.setTop (mkF m pc' Ls (.int z :: rest)))) : Go p e below Q (T.setTop (mkF m pc Ls (.int y :: .int x :: rest))) := by
  subst hp hv; exact Go.of (fun _ q => XS.ishl S.here S.hx rfl hd rfl q) go
theorem s_ishr {x y z : Int32} (S : St p l e R s m args below meth c Z a0 EL n0 own T V h k n) (hd : decode c.code pc = .ok (.ishr, 1)) (hv : x >>> (y &&& 31) = z) {pc' : Nat} (hp : pc + 1 = pc') (go : Go p e below Q (T.setTop (mkF m pc' Ls (.int z :: rest)))) : Go p e below Q (T.setTop (mkF m pc Ls (.int y :: .int x :: rest))) := by
  subst hp hv; exact Go.of (fun _ q => XS.ishr S.here S.hx rfl hd rfl q) go
theorem s_iushr {x y z : Int32} (S : St p l e R s m args below meth c Z a0 EL n0 own T V h k n) (hd : decode c.code pc = .ok (.iushr, 1)) (hv : (x.toUInt32 >>> (y &&& 31).toUInt32).toInt32 = z) {pc' : Nat} (hp : pc + 1 = pc') (go : Go p e below Q (T.setTop (mkF m pc' Ls (.int z :: rest)))) : Go p e below Q (T.setTop (mkF m pc Ls (.int y :: .int x :: rest))) := by
  subst hp hv; exact Go.of (fun _ q => XS.iushr S.here S.hx rfl hd rfl q) go
theorem s_lshl {x z : Int64} {y : Int32} (S : St p l e R s m args below meth c Z a0 EL n0 own T V h k n) (hd : decode c.code pc = .ok (.lshl, 1)) (hv : x <<< (y &&& 0x3f).toInt64 = z) {pc' : Nat} (hp : pc + 1 = pc') (go : Go p e below Q (T.setTop (mkF m pc' Ls (.long z :: rest)))) : Go p e below Q (T.setTop (mkF m pc Ls (.int y :: .long x :: rest))) := by
  subst hp hv; exact Go.of (fun _ q => XS.lshl S.here S.hx rfl hd rfl q) go
theorem s_lshr {x z : Int64} {y : Int32} (S : St p l e R s m args below meth c Z a0 EL n0 own T V h k n) (hd : decode c.code pc = .ok (.lshr, 1)) (hv : x >>> (y &&& 0x3f).toInt64 = z) {pc' : Nat} (hp : pc + 1 = pc') (go : Go p e below Q (T.setTop (mkF m pc' Ls (.long z :: rest)))) : Go p e below Q (T.setTop (mkF m pc Ls (.int y :: .long x :: rest))) := by
  subst hp hv; exact Go.of (fun _ q => XS.lshr S.here S.hx rfl hd rfl q) go
theorem s_lushr {x z : Int64} {y : Int32} (S : St p l e R s m args below meth c Z a0 EL n0 own T V h k n) (hd : decode c.code pc = .ok (.lushr, 1)) (hv : (x.toUInt64 >>> (y &&& 0x3f).toInt64.toUInt64).toInt64 = z) {pc' : Nat} (hp : pc + 1 = pc') (go : Go p e below Q (T.setTop (mkF m pc' Ls (.long z :: rest)))) : Go p e below Q (T.setTop (mkF m pc Ls (.int y :: .long x :: rest))) := by
  subst hp hv; exact Go.of (fun _ q => XS.lushr S.here S.hx rfl hd rfl q) go
theorem s_i2c {x z : Int32} (S : St p l e R s m args below meth c Z a0 EL n0 own T V h k n) (hd : decode c.code pc = .ok (.i2c, 1)) (hv : x.toUInt32.toUInt16.toUInt32.toInt32 = z) {pc' : Nat} (hp : pc + 1 = pc') (go : Go p e below Q (T.setTop (mkF m pc' Ls (.int z :: rest)))) : Go p e below Q (T.setTop (mkF m pc Ls (.int x :: rest))) := by
  subst hp hv; exact Go.of (fun _ q => XS.i2c S.here S.hx rfl hd rfl q) go
theorem s_i2b {x z : Int32} (S : St p l e R s m args below meth c Z a0 EL n0 own T V h k n) (hd : decode c.code pc = .ok (.i2b, 1)) (hv : x.toInt8.toInt32 = z) {pc' : Nat} (hp : pc + 1 = pc') (go : Go p e below Q (T.setTop (mkF m pc' Ls (.int z :: rest)))) : Go p e below Q (T.setTop (mkF m pc Ls (.int x :: rest))) := by
  subst hp hv; exact Go.of (fun _ q => XS.i2b S.here S.hx rfl hd rfl q) go
theorem s_i2s {x z : Int32} (S : St p l e R s m args below meth c Z a0 EL n0 own T V h k n) (hd : decode c.code pc = .ok (.i2s, 1)) (hv : x.toInt16.toInt32 = z) {pc' : Nat} (hp : pc + 1 = pc') (go : Go p e below Q (T.setTop (mkF m pc' Ls (.int z :: rest)))) : Go p e below Q (T.setTop (mkF m pc Ls (.int x :: rest))) := by
  subst hp hv; exact Go.of (fun _ q => XS.i2s S.here S.hx rfl hd rfl q) go
theorem s_i2l {x : Int32} {z : Int64} (S : St p l e R s m args below meth c Z a0 EL n0 own T V h k n) (hd : decode c.code pc = .ok (.i2l, 1)) (hv : x.toInt64 = z) {pc' : Nat} (hp : pc + 1 = pc') (go : Go p e below Q (T.setTop (mkF m pc' Ls (.long z :: rest)))) : Go p e below Q (T.setTop (mkF m pc Ls (.int x :: rest))) := by
  subst hp hv; exact Go.of (fun _ q => XS.i2l S.here S.hx rfl hd rfl q) go
theorem s_l2i {x : Int64} {z : Int32} (S : St p l e R s m args below meth c Z a0 EL n0 own T V h k n) (hd : decode c.code pc = .ok (.l2i, 1)) (hv : x.toInt32 = z) {pc' : Nat} (hp : pc + 1 = pc') (go : Go p e below Q (T.setTop (mkF m pc' Ls (.int z :: rest)))) : Go p e below Q (T.setTop (mkF m pc Ls (.long x :: rest))) := by
  subst hp hv; exact Go.of (fun _ q => XS.l2i S.here S.hx rfl hd rfl q) go
theorem s_lcmp {x y : Int64} {z : Int32} (S : St p l e R s m args below meth c Z a0 EL n0 own T V h k n) (hd : decode c.code pc = .ok (.lcmp, 1)) (hv : lcmpW x y = z) {pc' : Nat} (hp : pc + 1 = pc') (go : Go p e below Q (T.setTop (mkF m pc' Ls (.int z :: rest)))) : Go p e below Q (T.setTop (mkF m pc Ls (.long y :: .long x :: rest))) := by
  subst hp hv; exact Go.of (fun _ q => XS.lcmp S.here S.hx rfl hd rfl q) go
theorem s_idiv {x y z : Int32} (S : St p l e R s m args below meth c Z a0 EL n0 own T V h k n) (hd : decode c.code pc = .ok (.idiv, 1)) (h0 : y ≠ 0) (hv : x / y = z) {pc' : Nat} (hp : pc + 1 = pc') (go : Go p e below Q (T.setTop (mkF m pc' Ls (.int z :: rest)))) : Go p e below Q (T.setTop (mkF m pc Ls (.int y :: .int x :: rest))) := by
  subst hp hv; exact Go.of (fun _ q => XS.idiv S.here S.hx rfl hd rfl h0 q) go
theorem s_ldiv {x y z : Int64} (S : St p l e R s m args below meth c Z a0 EL n0 own T V h k n) (hd : decode c.code pc = .ok (.ldiv, 1)) (h0 : y ≠ 0) (hv : x / y = z) {pc' : Nat} (hp : pc + 1 = pc') (go : Go p e below Q (T.setTop (mkF m pc' Ls (.long z :: rest)))) : Go p e below Q (T.setTop (mkF m pc Ls (.long y :: .long x :: rest))) := by
  subst hp hv; exact Go.of (fun _ q => XS.ldiv S.here S.hx rfl hd rfl h0 q) go
theorem s_irem {x y z : Int32} (S : St p l e R s m args below meth c Z a0 EL n0 own T V h k n) (hd : decode c.code pc = .ok (.irem, 1)) (h0 : y ≠ 0) (hv : x % y = z) {pc' : Nat} (hp : pc + 1 = pc') (go : Go p e below Q (T.setTop (mkF m pc' Ls (.int z :: rest)))) : Go p e below Q (T.setTop (mkF m pc Ls (.int y :: .int x :: rest))) := by
  subst hp hv; rw [← irem_eq_mod] at go; exact Go.of (fun _ q => XS.irem S.here S.hx rfl hd rfl h0 q) go
theorem s_goto (S : St p l e R s m args below meth c Z a0 EL n0 own T V h k n) {o : Int} {pcT : Nat} (hd : decode c.code pc = .ok (.goto o, 3)) (ho : 0 ≤ (pc : Int) + o) (hp : ((pc : Int) + o).toNat = pcT) (go : Go p e below Q (T.setTop (mkF m pcT Ls rest))) : Go p e below Q (T.setTop (mkF m pc Ls rest)) := Go.of (fun _ q => XS.goto S.here S.hx rfl (pc0 := pc) (pc' := pcT) rfl hd ho hp q) go
theorem s_iinc {i : Nat} {d : Int} {v z : Int32} {L' : Array Slot} (S : St p l e R s m args below meth c Z a0 EL n0 own T V h k n) (hd : decode c.code pc = .ok (.iinc i d, 3)) (hv : Ls[i]? = some (.val (.int v))) (hz : v + Int32.ofInt d = z) (hl : storeLocals Ls i (.int z) = some L') {pc' : Nat} (hp : pc + 3 = pc') (go : Go p e below Q (T.setTop (mkF m pc' L' rest))) : Go p e below Q (T.setTop (mkF m pc Ls rest)) := by
  subst hp hz; exact Go.of (fun _ q => XS.iinc S.here S.hx rfl hd hv hl q) go
theorem s_icmpY (S : St p l e R s m args below meth c Z a0 EL n0 own T V h k n) {cd : ClassFile.Cond} {x y : Int32} {o : Int} {pcT : Nat} (hd : decode c.code pc = .ok (.if_icmp cd o, 3)) (hc : if_icmp.holds cd x y = true) (ho : 0 ≤ (pc : Int) + o) (hp : ((pc : Int) + o).toNat = pcT) (go : Go p e below Q (T.setTop (mkF m pcT Ls rest))) : Go p e below Q (T.setTop (mkF m pc Ls (.int y :: .int x :: rest))) := Go.of (fun _ r => XS.icmpYes S.here S.hx rfl (pc0 := pc) (pc' := pcT) rfl hd rfl hc ho hp r) go
theorem s_icmpN (S : St p l e R s m args below meth c Z a0 EL n0 own T V h k n) {cd : ClassFile.Cond} {x y : Int32} {o : Int} (hd : decode c.code pc = .ok (.if_icmp cd o, 3)) (hc : if_icmp.holds cd x y = false) {pc' : Nat} (hp : pc + 3 = pc') (go : Go p e below Q (T.setTop (mkF m pc' Ls rest))) : Go p e below Q (T.setTop (mkF m pc Ls (.int y :: .int x :: rest))) := by
  subst hp; exact Go.of (fun _ r => XS.icmpNo S.here S.hx rfl hd rfl hc r) go
theorem s_ifY (S : St p l e R s m args below meth c Z a0 EL n0 own T V h k n) {cd : ClassFile.Cond} {x : Int32} {o : Int} {pcT : Nat} (hd : decode c.code pc = .ok (.ifCond cd o, 3)) (hc : ifCond.holds cd x = true) (ho : 0 ≤ (pc : Int) + o) (hp : ((pc : Int) + o).toNat = pcT) (go : Go p e below Q (T.setTop (mkF m pcT Ls rest))) : Go p e below Q (T.setTop (mkF m pc Ls (.int x :: rest))) := Go.of (fun _ r => XS.ifYes S.here S.hx rfl (pc0 := pc) (pc' := pcT) rfl hd rfl hc ho hp r) go
theorem s_ifN (S : St p l e R s m args below meth c Z a0 EL n0 own T V h k n) {cd : ClassFile.Cond} {x : Int32} {o : Int} (hd : decode c.code pc = .ok (.ifCond cd o, 3)) (hc : ifCond.holds cd x = false) {pc' : Nat} (hp : pc + 3 = pc') (go : Go p e below Q (T.setTop (mkF m pc' Ls rest))) : Go p e below Q (T.setTop (mkF m pc Ls (.int x :: rest))) := by
  subst hp; exact Go.of (fun _ r => XS.ifNo S.here S.hx rfl hd rfl hc r) go
theorem s_nullY (S : St p l e R s m args below meth c Z a0 EL n0 own T V h k n) {o : Int} {pcT : Nat} (hd : decode c.code pc = .ok (.ifnull o, 3)) (ho : 0 ≤ (pc : Int) + o) (hp : ((pc : Int) + o).toNat = pcT) (go : Go p e below Q (T.setTop (mkF m pcT Ls rest))) : Go p e below Q (T.setTop (mkF m pc Ls (.null :: rest))) := Go.of (fun _ r => XS.ifnullYes S.here S.hx rfl (pc0 := pc) (pc' := pcT) rfl hd rfl ho hp r) go
theorem s_nullN (S : St p l e R s m args below meth c Z a0 EL n0 own T V h k n) {o : Int} {b : Addr} (hd : decode c.code pc = .ok (.ifnull o, 3)) {pc' : Nat} (hp : pc + 3 = pc') (go : Go p e below Q (T.setTop (mkF m pc' Ls rest))) : Go p e below Q (T.setTop (mkF m pc Ls (.ref b :: rest))) := by
  subst hp; exact Go.of (fun _ r => XS.ifnullNo S.here S.hx rfl hd rfl r) go
theorem s_nonnullY (S : St p l e R s m args below meth c Z a0 EL n0 own T V h k n) {o : Int} {b : Addr} {pcT : Nat} (hd : decode c.code pc = .ok (.ifnonnull o, 3)) (ho : 0 ≤ (pc : Int) + o) (hp : ((pc : Int) + o).toNat = pcT) (go : Go p e below Q (T.setTop (mkF m pcT Ls rest))) : Go p e below Q (T.setTop (mkF m pc Ls (.ref b :: rest))) := Go.of (fun _ r => XS.ifnonnullYes S.here S.hx rfl (pc0 := pc) (pc' := pcT) rfl hd rfl ho hp r) go
theorem s_nonnullN (S : St p l e R s m args below meth c Z a0 EL n0 own T V h k n) {o : Int} (hd : decode c.code pc = .ok (.ifnonnull o, 3)) {pc' : Nat} (hp : pc + 3 = pc') (go : Go p e below Q (T.setTop (mkF m pc' Ls rest))) : Go p e below Q (T.setTop (mkF m pc Ls (.null :: rest))) := by
  subst hp; exact Go.of (fun _ r => XS.ifnonnullNo S.here S.hx rfl hd rfl r) go
theorem s_acmp (S : St p l e R s m args below meth c Z a0 EL n0 own T V h k n) {cd : ACond} {x y : Value} (h1 : x.isRef = true) (h2 : y.isRef = true) {o : Int} {pcT : Nat} {same : Bool} (hd : decode c.code pc = .ok (.if_acmp cd o, 3)) (hq : decide (x = y) = same) (ho : 0 ≤ (pc : Int) + o) (hp : pcT = if acV cd same = true then ((pc : Int) + o).toNat else pc + 3) (go : Go p e below Q (T.setTop (mkF m pcT Ls rest))) : Go p e below Q (T.setTop (mkF m pc Ls (y :: x :: rest))) := by
  obtain ⟨hx, eT, hZ, hown, hO, hE, hC, hlk, locs, k0, X, hS, hk, hF⟩ := S
  exact Go.of (fun _ r => Jvm.RoadKit.acmp (g := mkF m pc Ls (y :: x :: rest)) X hx rfl h1 h2 (pc0 := pc) (pc' := pcT) (same := same) rfl hd rfl hq ho hp r) go
theorem g_bastore (S : St p l e R s m args below meth c Z a0 EL n0 own T V h k n) {a : Addr} {kc : ClassId} {z : Int32} {vs : List Value} {dv : Value} (A : Arv Z h a kc .byte z vs dv) {j : Int32} {x : Int32} (hj : ¬ j < 0 ∧ j < z) (i : Nat) (hi : j.toNatClampNeg = i) (hlt : i < vs.length) (na : n0 ≤ a) (sf : Safe Z EL V h a) (hd : decode c.code pc = .ok (.bastore, 1))
    (go : ∀ T' h', St p l e R s m args below meth c Z a0 EL n0 own T' V h' k n → Keep h h' [a] → Arv Z h' a kc .byte z (vs.set i (.int (nar .byte x))) dv → Safe Z EL V h' a → Go p e below Q (T'.setTop (mkF m (pc + 1) Ls rest))) : Go p e below Q (T.setTop (mkF m pc Ls ((.int x) :: .int j :: .ref a :: rest))) := by
  obtain ⟨hx, eT, hZ, hown, hO, hE, hC, hlk, locs, k0, X, hS, hk, hF⟩ := S
  skip
  obtain ⟨cl, Ar, q1, q2, q3, q4, q5⟩ := A
  obtain ⟨T', h', X', e', W, st⟩ := stB X hx hZ eT Ar (j := j) (x := x) (inb_of q2 hj) (g := mkF m pc Ls ((.int x) :: .int j :: .ref a :: rest)) rfl rfl hd
  have K := Keep.of_wr W
  exact Go.of st (go T' h' ⟨hx, e', hZ, hown, hO.wr W na, hE, hC.trans (CHr.wr W sf hC.1), hlk, _, k0, X', hS, Nat.le_trans hk K.1, Fr.snoc X' hF na⟩ K (Arv.set Ar q1 q2 q3 q4 q5 (fits_nar_byte x) W i hi hlt) (Safe.wr W sf hC.1 sf))
theorem g_iastore (S : St p l e R s m args below meth c Z a0 EL n0 own T V h k n) {a : Addr} {kc : ClassId} {z : Int32} {vs : List Value} {dv : Value} (A : Arv Z h a kc .int z vs dv) {j : Int32} {x : Int32} (hj : ¬ j < 0 ∧ j < z) (i : Nat) (hi : j.toNatClampNeg = i) (hlt : i < vs.length) (na : n0 ≤ a) (hd : decode c.code pc = .ok (.iastore, 1))
    (go : ∀ T' h', St p l e R s m args below meth c Z a0 EL n0 own T' V h' k n → Keep h h' [a] → Arv Z h' a kc .int z (vs.set i (.int x)) dv → Safe Z EL V h' a → Go p e below Q (T'.setTop (mkF m (pc + 1) Ls rest))) : Go p e below Q (T.setTop (mkF m pc Ls ((.int x) :: .int j :: .ref a :: rest))) := by
  obtain ⟨hx, eT, hZ, hown, hO, hE, hC, hlk, locs, k0, X, hS, hk, hF⟩ := S
  have sf : Safe Z EL V h a := Safe.arv hZ.alike A (by decide)
  obtain ⟨cl, Ar, q1, q2, q3, q4, q5⟩ := A
  obtain ⟨T', h', X', e', W, st⟩ := stI X hx hZ eT Ar (j := j) (x := x) (inb_of q2 hj) (g := mkF m pc Ls ((.int x) :: .int j :: .ref a :: rest)) rfl rfl hd
  have K := Keep.of_wr W
  exact Go.of st (go T' h' ⟨hx, e', hZ, hown, hO.wr W na, hE, hC.trans (CHr.wr W sf hC.1), hlk, _, k0, X', hS, Nat.le_trans hk K.1, Fr.snoc X' hF na⟩ K (Arv.set Ar q1 q2 q3 q4 q5 rfl W i hi hlt) (Safe.wr W sf hC.1 sf))
theorem g_lastore (S : St p l e R s m args below meth c Z a0 EL n0 own T V h k n) {a : Addr} {kc : ClassId} {z : Int32} {vs : List Value} {dv : Value} (A : Arv Z h a kc .long z vs dv) {j : Int32} {x : Int64} (hj : ¬ j < 0 ∧ j < z) (i : Nat) (hi : j.toNatClampNeg = i) (hlt : i < vs.length) (na : n0 ≤ a) (hd : decode c.code pc = .ok (.lastore, 1))
    (go : ∀ T' h', St p l e R s m args below meth c Z a0 EL n0 own T' V h' k n → Keep h h' [a] → Arv Z h' a kc .long z (vs.set i (.long x)) dv → Safe Z EL V h' a → Go p e below Q (T'.setTop (mkF m (pc + 1) Ls rest))) : Go p e below Q (T.setTop (mkF m pc Ls ((.long x) :: .int j :: .ref a :: rest))) := by
  obtain ⟨hx, eT, hZ, hown, hO, hE, hC, hlk, locs, k0, X, hS, hk, hF⟩ := S
  have sf : Safe Z EL V h a := Safe.arv hZ.alike A (by decide)
  obtain ⟨cl, Ar, q1, q2, q3, q4, q5⟩ := A
  obtain ⟨T', h', X', e', W, st⟩ := stJ X hx hZ eT Ar (j := j) (x := x) (inb_of q2 hj) (g := mkF m pc Ls ((.long x) :: .int j :: .ref a :: rest)) rfl rfl hd
  have K := Keep.of_wr W
  exact Go.of st (go T' h' ⟨hx, e', hZ, hown, hO.wr W na, hE, hC.trans (CHr.wr W sf hC.1), hlk, _, k0, X', hS, Nat.le_trans hk K.1, Fr.snoc X' hF na⟩ K (Arv.set Ar q1 q2 q3 q4 q5 rfl W i hi hlt) (Safe.wr W sf hC.1 sf))
theorem g_iaload (S : St p l e R s m args below meth c Z a0 EL n0 own T V h k n) {a : Addr} {kc : ClassId} {z : Int32} {vs : List Value} {dv : Value} (A : Arv Z h a kc .int z vs dv) {j : Int32} (hj : ¬ j < 0 ∧ j < z) {x : Int32} (hv : vs.getD j.toNatClampNeg dv = (.int x)) (hd : decode c.code pc = .ok (.iaload, 1)) (go : Go p e below Q (T.setTop (mkF m (pc + 1) Ls ((.int x) :: rest)))) : Go p e below Q (T.setTop (mkF m pc Ls (.int j :: .ref a :: rest))) := by
  obtain ⟨hx, eT, hZ, hown, hO, hE, hC, hlk, locs, k0, X, hS, hk, hF⟩ := S
  obtain ⟨cl, Ar, q1, q2, q3, q4, q5⟩ := A
  have hin := inb_of q2 hj
  exact Go.of (fun _ q => X.iaload hx (j := j) (v := (.int x)) (by rw [eT]; exact Ar.1) (State.isArrayOf_alike (T := s.setVm V) hZ.alike Ar.2.1) Ar.2.2 hin (q4.at hin hv) (g := mkF m pc Ls (.int j :: .ref a :: rest)) rfl rfl hd _ q) go
theorem g_laload (S : St p l e R s m args below meth c Z a0 EL n0 own T V h k n) {a : Addr} {kc : ClassId} {z : Int32} {vs : List Value} {dv : Value} (A : Arv Z h a kc .long z vs dv) {j : Int32} (hj : ¬ j < 0 ∧ j < z) {x : Int64} (hv : vs.getD j.toNatClampNeg dv = (.long x)) (hd : decode c.code pc = .ok (.laload, 1)) (go : Go p e below Q (T.setTop (mkF m (pc + 1) Ls ((.long x) :: rest)))) : Go p e below Q (T.setTop (mkF m pc Ls (.int j :: .ref a :: rest))) := by
  obtain ⟨hx, eT, hZ, hown, hO, hE, hC, hlk, locs, k0, X, hS, hk, hF⟩ := S
  obtain ⟨cl, Ar, q1, q2, q3, q4, q5⟩ := A
  have hin := inb_of q2 hj
  exact Go.of (fun _ q => X.laload hx (j := j) (v := (.long x)) (by rw [eT]; exact Ar.1) (State.isArrayOf_alike (T := s.setVm V) hZ.alike Ar.2.1) Ar.2.2 hin (q4.at hin hv) (g := mkF m pc Ls (.int j :: .ref a :: rest)) rfl rfl hd _ q) go
theorem g_baload (S : St p l e R s m args below meth c Z a0 EL n0 own T V h k n) {a : Addr} {kc : ClassId} {z : Int32} {vs : List Value} {dv : Value} (A : Arv Z h a kc .byte z vs dv) {j : Int32} (hj : ¬ j < 0 ∧ j < z) {x : Int32} (hv : vs.getD j.toNatClampNeg dv = (.int x)) (hd : decode c.code pc = .ok (.baload, 1)) (go : Go p e below Q (T.setTop (mkF m (pc + 1) Ls ((.int x) :: rest)))) : Go p e below Q (T.setTop (mkF m pc Ls (.int j :: .ref a :: rest))) := by
  obtain ⟨hx, eT, hZ, hown, hO, hE, hC, hlk, locs, k0, X, hS, hk, hF⟩ := S
  obtain ⟨cl, Ar, q1, q2, q3, q4, q5⟩ := A
  have hin := inb_of q2 hj
  exact Go.of (fun _ q => X.baloadBytes hx (j := j) (v := (.int x)) (by rw [eT]; exact Ar.1) (State.isArrayOf_alike (T := s.setVm V) hZ.alike Ar.2.1) Ar.2.2 hin (q4.at hin hv) (g := mkF m pc Ls (.int j :: .ref a :: rest)) rfl rfl hd _ q) go
theorem g_instN (S : St p l e R s m args below meth c Z a0 EL n0 own T V h k n) {K C : String} {index : Nat} (w : (Cond.classLink own index K).before a0 Z = true) {a : Addr} (E : Exa Z h a C) (F : ∃ c t, Z.vm.findClass C = some c ∧ Z.vm.findClass K = some t ∧ Z.vm.assignable c t = false) (hd : decode c.code pc = .ok (.instanceof index, 3))
    (go : ∀ T', St p l e R s m args below meth c Z a0 EL n0 own T' V h k n → Go p e below Q (T'.setTop (mkF m (pc + 3) Ls (.int 0 :: rest)))) : Go p e below Q (T.setTop (mkF m pc Ls (.ref a :: rest))) := by
  obtain ⟨hx, eT, hZ, hown, hO, hE, hC, hlk, locs, k0, X, hS, hk, hF⟩ := S
  obtain ⟨T', X', e', st⟩ := instNo X hx hZ hown w eT E F (g := mkF m pc Ls (.ref a :: rest)) rfl rfl hd
  exact Go.of st (go T' ⟨hx, e', hZ, hown, hO, hE, hC, hlk, locs, k0, X', hS, hk, hF⟩)
theorem g_instNull (S : St p l e R s m args below meth c Z a0 EL n0 own T V h k n) {index : Nat} (hd : decode c.code pc = .ok (.instanceof index, 3)) (go : Go p e below Q (T.setTop (mkF m (pc + 3) Ls (.int 0 :: rest)))) : Go p e below Q (T.setTop (mkF m pc Ls (.null :: rest))) := by
  obtain ⟨hx, eT, hZ, hown, hO, hE, hC, hlk, locs, k0, X, hS, hk, hF⟩ := S
  exact Go.of (fun _ q => X.instanceofNull hx (g := mkF m pc Ls (.null :: rest)) rfl rfl hd _ q) go
end Steps
end Jvm.OwnKit
/- laws to paste: Road.backV, Road.eqW, Road.lenW, Road.chN, Road.codOf (cut by pick.py; bodies as the Statement names them) -/
namespace Jvm.Pilot.@@N@@
namespace StrChars
open Jvm Sem ClassFile Op Lib Jvm.Stand Jvm.Free.XT Jvm.Free.ALB Jvm.Free.JM Jvm.Free
open Jvm.Lib.Cold (StaticIs)
/-- a char array whose places are chars -/
def Ch (a : Addr) (A : Cell) (U : State) : Prop := Arr .char a A U ∧ Typed .char A
theorem Ch.mv {a : Addr} {A : Cell} {U U' : State} (h : Ch a A U) (hal : U.vm.Alike U'.vm) (hh : U'.heap = U.heap) : Ch a A U' := ⟨h.1.mv hal hh, h.2⟩
theorem Ch.keep {a : Addr} {A : Cell} {U U' : State} (h : Ch a A U) (hal : U.vm.Alike U'.vm) (hk : U'.heap[a]? = some A) : Ch a A U' := ⟨h.1.keep hal hk, h.2⟩
/-- what place i of a char[]'s cell holds -/
def cv (A : Cell) (i : Nat) : Int32 := match A.slots[i]? with | some (.int x) => x | _ => 0
theorem Ch.get {a : Addr} {A : Cell} {U : State} (h : Ch a A U) {i : Nat} (hi : i < A.slots.size) : A.slots[i]? = some (.int (cv A i)) := by
  have e := Array.getElem?_eq_getElem hi
  have f := h.2 i _ e
  unfold cv; rw [e]
  generalize A.slots[i] = v at f
  cases v <;> simp [fits] at f ⊢
/-- the byte that i2b leaves of a char -/
def lo8 (x : Int32) : Int32 := x.toInt8.toInt32
theorem fits_lo8 (y : Int32) : fits .byte (.int (lo8 y)) = true := by
  have h1 := y.toInt8.le_toInt
  have h2 := y.toInt8.toInt_lt
  simp only [lo8, fits, Bool.and_eq_true, decide_eq_true_eq, Int32.le_iff_toInt_le, Int8.toInt_toInt32, show (-128 : Int32).toInt = -128 from by decide, show (127 : Int32).toInt = 127 from by decide]
  omega
/-- A' is A but that each place j of lo .. hi - 1 holds f j -/
def Laid (A A' : Cell) (lo hi : Nat) (f : Nat → Value) : Prop := A'.cls = A.cls ∧ A'.vm = A.vm ∧ A'.slots.size = A.slots.size ∧ ∀ i, A'.slots[i]? = if lo ≤ i ∧ i < hi then some (f i) else A.slots[i]?
theorem Laid.zero (A : Cell) (lo : Nat) (f : Nat → Value) : Laid A A lo (lo + 0) f := ⟨rfl, rfl, rfl, fun i => by rw [if_neg (by omega)]⟩
theorem Laid.step {A Ak : Cell} {lo k : Nat} {f : Nat → Value} {v : Value} (h : Laid A Ak lo k f) (hlo : lo ≤ k) (hk : k < Ak.slots.size) (hv : v = f k) : Laid A (Ak.setSlot k v) lo (k + 1) f := by
  refine ⟨h.1, h.2.1, by simpa [Cell.setSlot] using h.2.2.1, fun i => ?_⟩
  by_cases e : k = i
  · subst e; rw [Cell.slots_setSlot_self v hk, if_pos (by omega), hv]
  · rw [Cell.slots_setSlot_ne v e, h.2.2.2 i]
    by_cases q : lo ≤ i ∧ i < k
    · rw [if_pos q, if_pos (by omega)]
    · rw [if_neg q, if_neg (by omega)]
def U16 : String := "java/lang/StringUTF16"
namespace Cmp5
def yN : MethodName := ⟨"java/lang/StringUTF16", "compress", "([CI[BII)I"⟩
abbrev yB : ByteArray := jdk_52_method_21_code
theorem d0 : decode yB 0 = .ok (.iconst 0, 1) := by decide +kernel
theorem d1 : decode yB 1 = .ok (.istore 5, 2) := by decide +kernel
theorem d3 : decode yB 3 = .ok (.iload 5, 2) := by decide +kernel
theorem d5 : decode yB 5 = .ok (.iload 4, 2) := by decide +kernel
theorem d7 : decode yB 7 = .ok (.if_icmp (.ge) 37, 3) := by decide +kernel
theorem d10 : decode yB 10 = .ok (.aload_n 0, 1) := by decide +kernel
theorem d11 : decode yB 11 = .ok (.iload_n 1, 1) := by decide +kernel
theorem d12 : decode yB 12 = .ok (.caload, 1) := by decide +kernel
theorem d13 : decode yB 13 = .ok (.istore 6, 2) := by decide +kernel
theorem d15 : decode yB 15 = .ok (.iload 6, 2) := by decide +kernel
theorem d17 : decode yB 17 = .ok (.sipush 255, 3) := by decide +kernel
theorem d20 : decode yB 20 = .ok (.if_icmp (.le) 6, 3) := by decide +kernel
theorem d26 : decode yB 26 = .ok (.aload_n 2, 1) := by decide +kernel
theorem d27 : decode yB 27 = .ok (.iload_n 3, 1) := by decide +kernel
theorem d28 : decode yB 28 = .ok (.iload 6, 2) := by decide +kernel
theorem d30 : decode yB 30 = .ok (.i2b, 1) := by decide +kernel
theorem d31 : decode yB 31 = .ok (.bastore, 1) := by decide +kernel
theorem d32 : decode yB 32 = .ok (.iinc 1 1, 3) := by decide +kernel
theorem d35 : decode yB 35 = .ok (.iinc 3 1, 3) := by decide +kernel
theorem d38 : decode yB 38 = .ok (.iinc 5 1, 3) := by decide +kernel
theorem d41 : decode yB 41 = .ok (.goto (-38), 3) := by decide +kernel
theorem d44 : decode yB 44 = .ok (.iload 4, 2) := by decide +kernel
theorem d46 : decode yB 46 = .ok (.ireturn, 1) := by decide +kernel
def site : List Cond := []
def tab : Cond := tabOf yN yB 7 (some .int) site
def P (b : Addr) (A : Cell) (d : Addr) (B : Cell) (o q len : Nat) (args : Array Value) (s : State) : Prop := args = #[.ref b, .int (Int32.ofNat o), .ref d, .int (Int32.ofNat q), .int (Int32.ofNat len)] ∧ Ch b A s ∧ Arr .byte d B s ∧ b ≠ d ∧ o + len ≤ A.slots.size ∧ q + len ≤ B.slots.size ∧ ∀ i, i < len → ¬ 255 < cv A (o + i)
def E (b : Addr) (A : Cell) (d : Addr) (B : Cell) (o q len : Nat) (r : Option Value) (s u : State) : Prop := r = some (.int (Int32.ofNat len)) ∧ ∃ B', Put d B' s u ∧ Laid B B' q (q + len) (fun j => Value.int (lo8 (cv A (o + (j - q)))))
/-- no char of the range above 255: len; the places written hold each char's low byte -/
theorem law (l : Launch) (b : Addr) (A : Cell) (d : Addr) (B : Cell) (o q len : Nat) : Law l yN 5 5 0 0 yB 7 (some .int) site (P b A d B o q len) (E b A d B o q len) (copyLocs d q len) 0 0 := by
  refine Law.of_walk (plainFor_of_name (by decide +kernel)) (by decide +kernel) (by decide +kernel) (by decide) (fun _ _ h => by rw [h.1]; rfl) (fun _ U U' hal hh h => ⟨h.1, h.2.1.mv hal hh, h.2.2.1.mv hal hh, h.2.2.2⟩) (fun r U U' V V' h1 hal h2 h => ⟨h.1, h.2.elim fun B' q => ⟨B', q.1.mv h1 h2, q.2⟩⟩) ?_
  intro p e s m args below meth c s₁ X0 hexec hbytes hml hret hlk hnm hown hh0 W hP
  obtain ⟨rfl, hA, hB, hne, l1, l2, hp⟩ := hP
  have c1 : Steps p.tables e below (s₁.setTop (entryFrame m #[.ref b, .int (Int32.ofNat o), .ref d, .int (Int32.ofNat q), .int (Int32.ofNat len)] 7)) (s₁.setTop (mkF m 0 #[.val (.ref b), .val (.int (Int32.ofNat o)), .val (.ref d), .val (.int (Int32.ofNat q)), .val (.int (Int32.ofNat len)), .unset, .unset] [])) := entry rfl
  have hA0 := hA.1.mv X0.warmed.alike hh0
  have hB0 := hB.mv X0.warmed.alike hh0
  have a31 := hA.1.2.2.2
  have c2 : Steps p.tables e below (s₁.setTop (entryFrame m #[.ref b, .int (Int32.ofNat o), .ref d, .int (Int32.ofNat q), .int (Int32.ofNat len)] 7)) (s₁.setTop (mkF m 3 #[.val (.ref b), .val (.int (Int32.ofNat o)), .val (.ref d), .val (.int (Int32.ofNat q)), .val (.int (Int32.ofNat len)), .val (.int 0), .unset] [])) := c1.trans (by
    refine iconstV X0.here hexec rfl 0 (hb hbytes d0) (by decide) ?_
    refine XS.istore X0.here hexec rfl (hb hbytes d1) rfl rfl ?_
    exact Steps.refl _)
  have loop : ∀ (r i : Nat), i + r = len → ∀ (z : Slot), (z = .unset ∨ ∃ w, z = .val w ∧ w.category = 1) → ∀ (Tl : State) (Bk : Cell), Stand p l e { frames := 0, locals := 0, cells := 0, slots := 0 } s m #[.ref b, .int (Int32.ofNat o), .ref d, .int (Int32.ofNat q), .int (Int32.ofNat len)] below meth c Tl ([] ++ copyLocs d q i) 0 0 → Put d Bk s₁ Tl → Laid B Bk q (q + i) (fun j => Value.int (lo8 (cv A (o + (j - q))))) →
      Steps p.tables e below (s₁.setTop (entryFrame m #[.ref b, .int (Int32.ofNat o), .ref d, .int (Int32.ofNat q), .int (Int32.ofNat len)] 7)) (Tl.setTop (mkF m 3 #[.val (.ref b), .val (.int (Int32.ofNat (o + i))), .val (.ref d), .val (.int (Int32.ofNat (q + i))), .val (.int (Int32.ofNat len)), .val (.int (Int32.ofNat i)), z] [])) → ∃ (T' : State) (B' : Cell) (z' : Slot), Stand p l e { frames := 0, locals := 0, cells := 0, slots := 0 } s m #[.ref b, .int (Int32.ofNat o), .ref d, .int (Int32.ofNat q), .int (Int32.ofNat len)] below meth c T' ([] ++ copyLocs d q len) 0 0 ∧ Put d B' s₁ T' ∧ Laid B B' q (q + len) (fun j => Value.int (lo8 (cv A (o + (j - q))))) ∧
      Steps p.tables e below (s₁.setTop (entryFrame m #[.ref b, .int (Int32.ofNat o), .ref d, .int (Int32.ofNat q), .int (Int32.ofNat len)] 7)) (T'.setTop (mkF m 3 #[.val (.ref b), .val (.int (Int32.ofNat (o + len))), .val (.ref d), .val (.int (Int32.ofNat (q + len))), .val (.int (Int32.ofNat len)), .val (.int (Int32.ofNat len)), z'] [])) := by
    intro r
    induction r with
    | zero =>
      intro i hi z hz Tl Bk Xl pl fl cl
      have hil : i = len := by omega
      rw [hil] at Xl fl cl
      exact ⟨Tl, Bk, z, Xl, pl, fl, cl⟩
    | succ r ih =>
      intro i hi z hz Tl Bk Xl pl fl cl
      have all := X0.warmed.alike.symm.trans Xl.warmed.alike
      have hAl := hA0.keep all (pl.other hne hA0.1)
      have hBk := hB0.like all pl.1 fl.1 fl.2.1 fl.2.2.1
      have hlt : q + i < Bk.slots.size := by rw [fl.2.2.1]; omega
      have c3 : Steps p.tables e below (s₁.setTop (entryFrame m #[.ref b, .int (Int32.ofNat o), .ref d, .int (Int32.ofNat q), .int (Int32.ofNat len)] 7)) (Tl.setTop (mkF m 12 #[.val (.ref b), .val (.int (Int32.ofNat (o + i))), .val (.ref d), .val (.int (Int32.ofNat (q + i))), .val (.int (Int32.ofNat len)), .val (.int (Int32.ofNat i)), z] [.int (Int32.ofNat (o + i)), .ref b])) := cl.trans (by
        refine XS.iload Xl.here hexec rfl (hb hbytes d3) rfl ?_
        refine XS.iload Xl.here hexec rfl (hb hbytes d5) rfl ?_
        refine XS.icmpNo Xl.here hexec rfl (hb hbytes d7) rfl (ii_ge_f (lt32 (by omega) (by omega))) ?_
        refine XS.aloadN Xl.here hexec rfl (hb hbytes d10) rfl rfl ?_
        refine XS.iloadN Xl.here hexec rfl (hb hbytes d11) rfl ?_
        exact Steps.refl _)
      have c4 : Steps p.tables e below (s₁.setTop (entryFrame m #[.ref b, .int (Int32.ofNat o), .ref d, .int (Int32.ofNat q), .int (Int32.ofNat len)] 7)) (Tl.setTop (mkF m 13 #[.val (.ref b), .val (.int (Int32.ofNat (o + i))), .val (.ref d), .val (.int (Int32.ofNat (q + i))), .val (.int (Int32.ofNat len)), .val (.int (Int32.ofNat i)), z] [.int (cv A (o + i))])) := c3.trans (by
        refine Xl.aget hexec hAl rfl (hA.get (i := o + i) (by omega)) rfl rfl (hb hbytes d12) ?_
        exact Steps.refl _)
      have c5 : Steps p.tables e below (s₁.setTop (entryFrame m #[.ref b, .int (Int32.ofNat o), .ref d, .int (Int32.ofNat q), .int (Int32.ofNat len)] 7)) (Tl.setTop (mkF m 15 #[.val (.ref b), .val (.int (Int32.ofNat (o + i))), .val (.ref d), .val (.int (Int32.ofNat (q + i))), .val (.int (Int32.ofNat len)), .val (.int (Int32.ofNat i)), .val (.int (cv A (o + i)))] [])) := c4.trans (by
        refine XS.istoreS Xl.here hexec rfl (hb hbytes d13) rfl rfl hz ?_
        exact Steps.refl _)
      have c6 : Steps p.tables e below (s₁.setTop (entryFrame m #[.ref b, .int (Int32.ofNat o), .ref d, .int (Int32.ofNat q), .int (Int32.ofNat len)] 7)) (Tl.setTop (mkF m 31 #[.val (.ref b), .val (.int (Int32.ofNat (o + i))), .val (.ref d), .val (.int (Int32.ofNat (q + i))), .val (.int (Int32.ofNat len)), .val (.int (Int32.ofNat i)), .val (.int (cv A (o + i)))] [.int (lo8 (cv A (o + i))), .int (Int32.ofNat (q + i)), .ref d])) := c5.trans (by
        refine XS.iload Xl.here hexec rfl (hb hbytes d15) rfl ?_
        refine sipushV Xl.here hexec rfl 255 (hb hbytes d17) (by decide) ?_
        refine XS.icmpYes Xl.here hexec rfl (pc0 := 20) rfl (hb hbytes d20) rfl (ii_le_t (hp i (by omega))) (by decide) rfl ?_
        refine XS.aloadN Xl.here hexec rfl (hb hbytes d26) rfl rfl ?_
        refine XS.iloadN Xl.here hexec rfl (hb hbytes d27) rfl ?_
        refine XS.iload Xl.here hexec rfl (hb hbytes d28) rfl ?_
        refine i2b Xl.here hexec rfl (hb hbytes d30) rfl ?_
        exact Steps.refl _)
      obtain ⟨T7, X7, p7, st7⟩ := Xl.aput hexec hBk rfl hlt rfl (fits_lo8 (cv A (o + i))) (g := (mkF m 31 #[.val (.ref b), .val (.int (Int32.ofNat (o + i))), .val (.ref d), .val (.int (Int32.ofNat (q + i))), .val (.int (Int32.ofNat len)), .val (.int (Int32.ofNat i)), .val (.int (cv A (o + i)))] [.int (lo8 (cv A (o + i))), .int (Int32.ofNat (q + i)), .ref d])) rfl (rest := []) rfl (hb hbytes d31)
      have c8 : Steps p.tables e below (s₁.setTop (entryFrame m #[.ref b, .int (Int32.ofNat o), .ref d, .int (Int32.ofNat q), .int (Int32.ofNat len)] 7)) (T7.setTop (mkF m 32 #[.val (.ref b), .val (.int (Int32.ofNat (o + i))), .val (.ref d), .val (.int (Int32.ofNat (q + i))), .val (.int (Int32.ofNat len)), .val (.int (Int32.ofNat i)), .val (.int (cv A (o + i)))] [])) := c6.trans (st7 _ (Steps.refl _))
      have c9 : Steps p.tables e below (s₁.setTop (entryFrame m #[.ref b, .int (Int32.ofNat o), .ref d, .int (Int32.ofNat q), .int (Int32.ofNat len)] 7)) (T7.setTop (mkF m 3 #[.val (.ref b), .val (.int (Int32.ofNat (o + i) + 1)), .val (.ref d), .val (.int (Int32.ofNat (q + i) + 1)), .val (.int (Int32.ofNat len)), .val (.int (Int32.ofNat i + 1)), .val (.int (cv A (o + i)))] [])) := c8.trans (by
        refine iincV X7.here hexec rfl 1 (hb hbytes d32) (by decide) rfl rfl ?_
        refine iincV X7.here hexec rfl 1 (hb hbytes d35) (by decide) rfl rfl ?_
        refine iincV X7.here hexec rfl 1 (hb hbytes d38) (by decide) rfl rfl ?_
        refine XS.goto X7.here hexec rfl (pc0 := 41) rfl (hb hbytes d41) (by decide) rfl ?_
        exact Steps.refl _)
      have c10 : Steps p.tables e below (s₁.setTop (entryFrame m #[.ref b, .int (Int32.ofNat o), .ref d, .int (Int32.ofNat q), .int (Int32.ofNat len)] 7)) (T7.setTop (mkF m 3 #[.val (.ref b), .val (.int (Int32.ofNat (o + (i + 1)))), .val (.ref d), .val (.int (Int32.ofNat (q + (i + 1)))), .val (.int (Int32.ofNat len)), .val (.int (Int32.ofNat (i + 1))), .val (.int (cv A (o + i)))] [])) := by
        have := c9
        rw [succ32, succ32, succ32] at this
        exact this
      exact ih (i + 1) (by omega) _ (Or.inr ⟨_, rfl, rfl⟩) T7 _ (by rw [copyLocs_step, ← List.append_assoc]; exact X7) (pl.trans p7) (fl.step (by omega) hlt (by simp)) c10
  obtain ⟨T9, B9, z9, X9, p9, f9, g9⟩ := loop len 0 (by omega) .unset (Or.inl rfl) s₁ B (by simpa [copyLocs] using X0) ⟨hB0.1, fun _ _ => rfl, rfl⟩ (Laid.zero _ _ _) c2
  have c11 : Steps p.tables e below (s₁.setTop (entryFrame m #[.ref b, .int (Int32.ofNat o), .ref d, .int (Int32.ofNat q), .int (Int32.ofNat len)] 7)) (T9.setTop (mkF m 46 #[.val (.ref b), .val (.int (Int32.ofNat (o + len))), .val (.ref d), .val (.int (Int32.ofNat (q + len))), .val (.int (Int32.ofNat len)), .val (.int (Int32.ofNat len)), z9] [.int (Int32.ofNat len)])) := g9.trans (by
    refine XS.iload X9.here hexec rfl (hb hbytes d3) rfl ?_
    refine XS.iload X9.here hexec rfl (hb hbytes d5) rfl ?_
    refine XS.icmpYes X9.here hexec rfl (pc0 := 7) rfl (hb hbytes d7) rfl (ii_ge_t (nlt32 (by omega) (Nat.le_refl _))) (by decide) rfl ?_
    refine XS.iload X9.here hexec rfl (hb hbytes d44) rfl ?_
    exact Steps.refl _)
  exact ⟨T9, some (.int (Int32.ofNat len)), _, _, _, X9, by simp, rfl, rfl, (fun h => by cases h), ⟨rfl, B9, p9.from hh0, f9⟩, fun fs hl => c11.trans (X9.ireturnOut hexec hret rfl (Or.inl rfl) (hb hbytes d46) hl)⟩
end Cmp5
namespace Cmp3
def yN : MethodName := ⟨"java/lang/StringUTF16", "compress", "([CII)[B"⟩
abbrev yB : ByteArray := jdk_52_method_16_code
theorem d0 : decode yB 0 = .ok (.iload_n 2, 1) := by decide +kernel
theorem d1 : decode yB 1 = .ok (.newarray .byte, 2) := by decide +kernel
theorem d3 : decode yB 3 = .ok (.astore_n 3, 1) := by decide +kernel
theorem d4 : decode yB 4 = .ok (.aload_n 0, 1) := by decide +kernel
theorem d5 : decode yB 5 = .ok (.iload_n 1, 1) := by decide +kernel
theorem d6 : decode yB 6 = .ok (.aload_n 3, 1) := by decide +kernel
theorem d7 : decode yB 7 = .ok (.iconst 0, 1) := by decide +kernel
theorem d8 : decode yB 8 = .ok (.iload_n 2, 1) := by decide +kernel
theorem d9 : decode yB 9 = .ok (.invokestatic 115, 3) := by decide +kernel
theorem d12 : decode yB 12 = .ok (.istore 4, 2) := by decide +kernel
theorem d14 : decode yB 14 = .ok (.iload 4, 2) := by decide +kernel
theorem d16 : decode yB 16 = .ok (.iload_n 2, 1) := by decide +kernel
theorem d17 : decode yB 17 = .ok (.if_icmp (.eq) 40, 3) := by decide +kernel
theorem d57 : decode yB 57 = .ok (.aload_n 3, 1) := by decide +kernel
theorem d58 : decode yB 58 = .ok (.areturn, 1) := by decide +kernel
def site : List Cond := [.arrayClass .byte, Cmp5.tab] ++ staticW U16 115 Cmp5.yN
def tab : Cond := tabOf yN yB 6 (some (.array .byte)) site
def P (b : Addr) (A : Cell) (o len : Nat) (args : Array Value) (s : State) : Prop := args = #[.ref b, .int (Int32.ofNat o), .int (Int32.ofNat len)] ∧ Ch b A s ∧ o + len ≤ A.slots.size ∧ len ≤ 536870912 ∧ ∀ i, i < len → ¬ 255 < cv A (o + i)
def E (b : Addr) (A : Cell) (o len : Nat) (r : Option Value) (s u : State) : Prop := NewArr .byte "[B" len (fun j => .int (lo8 (cv A (o + j)))) r s u ∧ u.heap.size = s.heap.size + 1
/-- no char of the range above 255: a new byte[] of their low bytes -/
theorem law (l : Launch) (b : Addr) (A : Cell) (o len : Nat) : Law l yN 3 3 1 18 yB 6 (some (.array .byte)) site (P b A o len) (E b A o len) [] 1 len := by
  refine Law.of_walk (plainFor_of_name (by decide +kernel)) (by decide +kernel) (by decide +kernel) (by decide) (fun _ _ h => by rw [h.1]; rfl) (fun _ U U' hal hh h => ⟨h.1, h.2.1.mv hal hh, h.2.2⟩) (fun r U U' V V' h1 hal h2 h => ⟨NewArr.mv r U U' V V' h1 hal h2 h.1, by rw [h1, h2]; exact h.2⟩) ?_
  intro p e s m args below meth c s₁ X0 hexec hbytes hml hret hlk hnm hown hh0 W hP
  obtain ⟨rfl, hA, l1, l2, hp⟩ := hP
  have a31 := hA.1.2.2.2
  have c1 : Steps p.tables e below (s₁.setTop (entryFrame m #[.ref b, .int (Int32.ofNat o), .int (Int32.ofNat len)] 6)) (s₁.setTop (mkF m 0 #[.val (.ref b), .val (.int (Int32.ofNat o)), .val (.int (Int32.ofNat len)), .unset, .unset, .unset] [])) := entry rfl
  have c2 : Steps p.tables e below (s₁.setTop (entryFrame m #[.ref b, .int (Int32.ofNat o), .int (Int32.ofNat len)] 6)) (s₁.setTop (mkF m 1 #[.val (.ref b), .val (.int (Int32.ofNat o)), .val (.int (Int32.ofNat len)), .unset, .unset, .unset] [.int (Int32.ofNat len)])) := c1.trans (by
    refine XS.iloadN X0.here hexec rfl (hb hbytes d0) rfl ?_
    exact Steps.refl _)
  obtain ⟨T3, B3, X3, ba3, bs3, bv3, bh3, bf3, st3⟩ := X0.anew hexec (atype := .byte) (wk W (.arrayClass .byte)) rfl (by show len * 1 ≤ _; omega) (by omega) (g := (mkF m 1 #[.val (.ref b), .val (.int (Int32.ofNat o)), .val (.int (Int32.ofNat len)), .unset, .unset, .unset] [.int (Int32.ofNat len)])) rfl (hb hbytes d1) (rest := []) rfl (Nat.le_refl _) (by show 0 + len ≤ len; omega)
  rw [hh0] at ba3 st3
  have kp3 : XT.Kept s T3 := (XT.Kept.of_eq hh0).push bh3
  have hA3 := hA.keep X3.warmed.alike (kp3 _ _ hA.1.1)
  have hne : b ≠ s.heap.size := hA.1.ne
  have c4 : Steps p.tables e below (s₁.setTop (entryFrame m #[.ref b, .int (Int32.ofNat o), .int (Int32.ofNat len)] 6)) (T3.setTop (mkF m 3 #[.val (.ref b), .val (.int (Int32.ofNat o)), .val (.int (Int32.ofNat len)), .unset, .unset, .unset] [.ref s.heap.size])) := c2.trans (st3 _ (Steps.refl _))
  have c5 : Steps p.tables e below (s₁.setTop (entryFrame m #[.ref b, .int (Int32.ofNat o), .int (Int32.ofNat len)] 6)) (T3.setTop (mkF m 9 #[.val (.ref b), .val (.int (Int32.ofNat o)), .val (.int (Int32.ofNat len)), .val (.ref s.heap.size), .unset, .unset] [.int (Int32.ofNat len), .int 0, .ref s.heap.size, .int (Int32.ofNat o), .ref b])) := c4.trans (by
    refine XS.astoreN X3.here hexec rfl (hb hbytes d3) rfl rfl rfl ?_
    refine XS.aloadN X3.here hexec rfl (hb hbytes d4) rfl rfl ?_
    refine XS.iloadN X3.here hexec rfl (hb hbytes d5) rfl ?_
    refine XS.aloadN X3.here hexec rfl (hb hbytes d6) rfl rfl ?_
    refine iconstV X3.here hexec rfl 0 (hb hbytes d7) (by decide) ?_
    refine XS.iloadN X3.here hexec rfl (hb hbytes d8) rfl ?_
    exact Steps.refl _)
  obtain ⟨v6, T6, X6, E6, g6⟩ := X3.callS hexec (Cmp5.law l b A s.heap.size B3 o 0 len) hown (wks W (staticW U16 115 Cmp5.yN)) (wk W Cmp5.tab) (W := 0) (Nat.le_of_ble_eq_true rfl) (Nat.le_of_ble_eq_true rfl) (Nat.le_refl _) (by show 0 + len + 0 ≤ len; omega) (g := (mkF m 9 #[.val (.ref b), .val (.int (Int32.ofNat o)), .val (.int (Int32.ofNat len)), .val (.ref s.heap.size), .unset, .unset] [.int (Int32.ofNat len), .int (Int32.ofNat 0), .ref s.heap.size, .int (Int32.ofNat o), .ref b])) rfl (by rw [hml]; rfl) c5 (argsL := [.ref b, .int (Int32.ofNat o), .ref s.heap.size, .int (Int32.ofNat 0), .int (Int32.ofNat len)]) (rest := []) rfl rfl (by show 2 * 0 + 0 ≤ _; decide) (hb hbytes d9) (⟨rfl, hA3, ba3, hne, l1, by rw [bs3]; simp, hp⟩)
  obtain ⟨rfl, B6, p6, f6⟩ := E6
  have c7 : Steps p.tables e below (s₁.setTop (entryFrame m #[.ref b, .int (Int32.ofNat o), .int (Int32.ofNat len)] 6)) (T6.setTop (mkF m 12 #[.val (.ref b), .val (.int (Int32.ofNat o)), .val (.int (Int32.ofNat len)), .val (.ref s.heap.size), .unset, .unset] [.int (Int32.ofNat len)])) := g6
  have c8 : Steps p.tables e below (s₁.setTop (entryFrame m #[.ref b, .int (Int32.ofNat o), .int (Int32.ofNat len)] 6)) (T6.setTop (mkF m 58 #[.val (.ref b), .val (.int (Int32.ofNat o)), .val (.int (Int32.ofNat len)), .val (.ref s.heap.size), .val (.int (Int32.ofNat len)), .unset] [.ref s.heap.size])) := c7.trans (by
    refine XS.istore X6.here hexec rfl (hb hbytes d12) rfl rfl ?_
    refine XS.iload X6.here hexec rfl (hb hbytes d14) rfl ?_
    refine XS.iloadN X6.here hexec rfl (hb hbytes d16) rfl ?_
    refine XS.icmpYes X6.here hexec rfl (pc0 := 17) rfl (hb hbytes d17) rfl (ii_eq_t rfl) (by decide) rfl ?_
    refine XS.aloadN X6.here hexec rfl (hb hbytes d57) rfl rfl ?_
    exact Steps.refl _)
  have X8 := X6.wide (L' := []) (cells' := 1) (slots' := len) (fun x hx hlt => by
    simp only [List.nil_append, copyLocs, List.mem_map, List.mem_range] at hx
    obtain ⟨i, -, rfl⟩ := hx
    exact absurd hlt (Nat.lt_irrefl _)) (Nat.le_refl _) (by omega)
  exact ⟨T6, some (.ref s.heap.size), _, _, _, X8, rfl, rfl, rfl, (fun h => by cases h), ⟨⟨rfl, B6, ba3.like (X3.warmed.alike.symm.trans X6.warmed.alike) p6.1 f6.1 f6.2.1 f6.2.2.1, f6.2.1.trans bv3, by rw [X6.warmed.alike.findClass, f6.1]; exact bf3, by rw [f6.2.2.1, bs3]; simp, fun j hj => by rw [f6.2.2.2 j, if_pos (by omega)]; rfl, kp3.put p6 (Nat.le_refl _)⟩, by rw [p6.2.2, bh3, hh0]; simp⟩, fun fs hl => c8.trans (X8.areturnOut hexec rfl hret rfl (hb hbytes d58) hl)⟩
end Cmp3
namespace CodL
def yN : MethodName := ⟨"java/lang/StringUTF16", "coderFromArrayLen", "([BI)B"⟩
abbrev yB : ByteArray := jdk_52_method_15_code
theorem d0 : decode yB 0 = .ok (.iload_n 1, 1) := by decide +kernel
theorem d1 : decode yB 1 = .ok (.aload_n 0, 1) := by decide +kernel
theorem d2 : decode yB 2 = .ok (.arraylength, 1) := by decide +kernel
theorem d3 : decode yB 3 = .ok (.isub, 1) := by decide +kernel
theorem d4 : decode yB 4 = .ok (.bipush 31, 2) := by decide +kernel
theorem d6 : decode yB 6 = .ok (.iushr, 1) := by decide +kernel
theorem d7 : decode yB 7 = .ok (.i2b, 1) := by decide +kernel
theorem d8 : decode yB 8 = .ok (.ireturn, 1) := by decide +kernel
def site : List Cond := []
def tab : Cond := tabOf yN yB 2 (some .byte) site
def P (d : Addr) (B : Cell) (args : Array Value) (s : State) : Prop := args = #[.ref d, .int (Int32.ofNat B.slots.size)] ∧ Arr .byte d B s
def E (r : Option Value) (s u : State) : Prop := XT.PureE (some (.int 0)) r s u
/-- an array as long as the number of chars: LATIN1 -/
theorem law (l : Launch) (d : Addr) (B : Cell) : Law l yN 2 2 0 0 yB 2 (some .byte) site (P d B) E [] 0 0 := by
  refine Law.of_walk (plainFor_of_name (by decide +kernel)) (by decide +kernel) (by decide +kernel) (by decide) (fun _ _ h => by rw [h.1]; rfl) (fun _ U U' hal hh h => ⟨h.1, h.2.mv hal hh⟩) (fun r U U' V V' h1 hal h2 h => XT.PureE.mv r U U' V V' h1 hal h2 h) ?_
  intro p e s m args below meth c s₁ X0 hexec hbytes hml hret hlk hnm hown hh0 W hP
  obtain ⟨rfl, hB⟩ := hP
  have hB0 := hB.mv X0.warmed.alike hh0
  have c1 : Steps p.tables e below (s₁.setTop (entryFrame m #[.ref d, .int (Int32.ofNat B.slots.size)] 2)) (s₁.setTop (mkF m 0 #[.val (.ref d), .val (.int (Int32.ofNat B.slots.size))] [])) := entry rfl
  have c2 : Steps p.tables e below (s₁.setTop (entryFrame m #[.ref d, .int (Int32.ofNat B.slots.size)] 2)) (s₁.setTop (mkF m 2 #[.val (.ref d), .val (.int (Int32.ofNat B.slots.size))] [.ref d, .int (Int32.ofNat B.slots.size)])) := c1.trans (by
    refine XS.iloadN X0.here hexec rfl (hb hbytes d0) rfl ?_
    refine XS.aloadN X0.here hexec rfl (hb hbytes d1) rfl rfl ?_
    exact Steps.refl _)
  have c3 : Steps p.tables e below (s₁.setTop (entryFrame m #[.ref d, .int (Int32.ofNat B.slots.size)] 2)) (s₁.setTop (mkF m 8 #[.val (.ref d), .val (.int (Int32.ofNat B.slots.size))] [.int (lo8 (ushr (Int32.ofNat B.slots.size - Int32.ofNat B.slots.size) 31))])) := c2.trans (by
    refine X0.alen hexec hB0 rfl rfl (hb hbytes d2) ?_
    refine XS.isub X0.here hexec rfl (hb hbytes d3) rfl ?_
    refine bipushV X0.here hexec rfl 31 (hb hbytes d4) (by decide) ?_
    refine iushr X0.here hexec rfl (hb hbytes d6) rfl ?_
    refine i2b X0.here hexec rfl (hb hbytes d7) rfl ?_
    exact Steps.refl _)
  have e0 : lo8 (ushr (Int32.ofNat B.slots.size - Int32.ofNat B.slots.size) 31) = 0 := by rw [Int32.sub_self]; decide
  rw [e0] at c3
  exact ⟨s₁, some (.int 0), _, _, _, X0, rfl, rfl, rfl, (fun h => by cases h), ⟨rfl, hh0⟩, fun fs hl => c3.trans (X0.ireturnOut hexec hret rfl (Or.inr (Or.inr (Or.inl rfl))) (hb hbytes d8) hl)⟩
end CodL
/-- the String at a is Latin-1 over a new byte[] (the heap's one new cell): the low bytes of the len chars of A from o on; every cell but a is kept -/
def Got (a : Addr) (D : Cell) (fV fC : Field) (A : Cell) (o len : Nat) (r : Option Value) (s u : State) : Prop := r = none ∧ ∃ D' V : Cell, Blank "java/lang/String" a D' u ∧ Same D D' [fV.slot, fC.slot] ∧ D'.slots[fV.slot]? = some (.ref s.heap.size) ∧ D'.slots[fC.slot]? = some (.int 0) ∧ Arr .byte s.heap.size V u ∧ V.vm = .none ∧ u.vm.findClass "[B" = some V.cls ∧ V.slots.size = len ∧ (∀ j, j < len → V.slots[j]? = some (.int (lo8 (cv A (o + j))))) ∧ (∀ (y : Addr) (c : Cell), y ≠ a → s.heap[y]? = some c → u.heap[y]? = some c) ∧ u.heap.size = s.heap.size + 1
theorem Got.mv {a : Addr} {D A : Cell} {fV fC : Field} {o len : Nat} : ∀ r (U U' V V' : State), U'.heap = U.heap → V.vm.Alike V'.vm → V'.heap = V.heap → Got a D fV fC A o len r U V → Got a D fV fC A o len r U' V' :=
  fun r U U' V V' h1 hal h2 ⟨e0, D', X, a1, a2, a3, a4, a5, a6, a7, a8, a9, a10, a11⟩ => ⟨e0, D', X, a1.mv hal h2, a2, by rw [h1]; exact a3, a4, by rw [h1]; exact a5.mv hal h2, a6, by rw [hal.findClass]; exact a7, a8, a9, by rw [h1, h2]; exact a10, by rw [h1, h2]; exact a11⟩
namespace New4
def yN : MethodName := ⟨"java/lang/String", "<init>", "([CIILjava/lang/Void;)V"⟩
abbrev yB : ByteArray := jdk_42_method_149_code
theorem d0 : decode yB 0 = .ok (.aload_n 0, 1) := by decide +kernel
theorem d1 : decode yB 1 = .ok (.invokespecial 1, 3) := by decide +kernel
theorem d4 : decode yB 4 = .ok (.iload_n 3, 1) := by decide +kernel
theorem d5 : decode yB 5 = .ok (.ifCond (.ne) 22, 3) := by decide +kernel
theorem d27 : decode yB 27 = .ok (.getstatic 38, 3) := by decide +kernel
theorem d30 : decode yB 30 = .ok (.ifCond (.eq) 28, 3) := by decide +kernel
theorem d33 : decode yB 33 = .ok (.aload_n 1, 1) := by decide +kernel
theorem d34 : decode yB 34 = .ok (.iload_n 2, 1) := by decide +kernel
theorem d35 : decode yB 35 = .ok (.iload_n 3, 1) := by decide +kernel
theorem d36 : decode yB 36 = .ok (.invokestatic 177, 3) := by decide +kernel
theorem d39 : decode yB 39 = .ok (.astore 5, 2) := by decide +kernel
theorem d41 : decode yB 41 = .ok (.aload_n 0, 1) := by decide +kernel
theorem d42 : decode yB 42 = .ok (.aload 5, 2) := by decide +kernel
theorem d44 : decode yB 44 = .ok (.iload_n 3, 1) := by decide +kernel
theorem d45 : decode yB 45 = .ok (.invokestatic 47, 3) := by decide +kernel
theorem d48 : decode yB 48 = .ok (.putfield 15, 3) := by decide +kernel
theorem d51 : decode yB 51 = .ok (.aload_n 0, 1) := by decide +kernel
theorem d52 : decode yB 52 = .ok (.aload 5, 2) := by decide +kernel
theorem d54 : decode yB 54 = .ok (.putfield 9, 3) := by decide +kernel
theorem d57 : decode yB 57 = .ok (.return_, 1) := by decide +kernel
def site : List Cond := [.fieldLink "java/lang/String" 38 "java/lang/String" "COMPACT_STRINGS" "Z", Cmp3.tab, CodL.tab, .laysFinal "java/lang/String" "java/lang/String" "value" "[B", .fieldLink "java/lang/String" 9 "java/lang/String" "value" "[B", .laysFinal "java/lang/String" "java/lang/String" "coder" "B", .fieldLink "java/lang/String" 15 "java/lang/String" "coder" "B"] ++ objW "java/lang/String" 1 ++ staticW "java/lang/String" 177 Cmp3.yN ++ staticW "java/lang/String" 47 CodL.yN
def tab : Cond := tabOf yN yB 6 none site
def P (a : Addr) (D : Cell) (fV fC : Field) (b : Addr) (A : Cell) (z : Int32) (o len : Nat) (args : Array Value) (s : State) : Prop := args = #[.ref a, .ref b, .int (Int32.ofNat o), .int (Int32.ofNat len), .null] ∧ Blank "java/lang/String" a D s ∧ Found "java/lang/String" "value" "[B" fV s ∧ Found "java/lang/String" "coder" "B" fC s ∧ Ch b A s ∧ StaticIs s "java/lang/String" "COMPACT_STRINGS" "Z" (.int z) ∧ ¬ z = 0 ∧ 0 < len ∧ o + len ≤ A.slots.size ∧ len ≤ 536870912 ∧ ∀ i, i < len → ¬ 255 < cv A (o + i)
def E (a : Addr) (D : Cell) (fV fC : Field) (A : Cell) (o len : Nat) (r : Option Value) (s u : State) : Prop := Got a D fV fC A o len r s u
/-- len > 0, no char of the range above 255: a Latin-1 String of their low bytes -/
theorem law (l : Launch) (a : Addr) (D : Cell) (fV fC : Field) (b : Addr) (A : Cell) (z : Int32) (o len : Nat) : Law l yN 5 4 2 35 yB 6 none site (P a D fV fC b A z o len) (E a D fV fC A o len) [⟨a, fC.slot⟩, ⟨a, fV.slot⟩] 1 len := by
  refine Law.of_walk (plainFor_of_name (by decide +kernel)) (by decide +kernel) (by decide +kernel) (by decide) (fun _ _ h => by rw [h.1]; rfl) (fun _ U U' hal hh h => ⟨h.1, h.2.1.mv hal hh, h.2.2.1.al hal, h.2.2.2.1.al hal, h.2.2.2.2.1.mv hal hh, h.2.2.2.2.2.1.there hal hh, h.2.2.2.2.2.2⟩) (fun r U U' V V' h1 hal h2 h => Got.mv r U U' V V' h1 hal h2 h) ?_
  intro p e s m args below meth c s₁ X0 hexec hbytes hml hret hlk hnm hown hh0 W hP
  obtain ⟨rfl, hB, f1, f2, hA, s1, hz, l0, l1, l2, hp⟩ := hP
  have a31 := hA.1.2.2.2
  have c1 : Steps p.tables e below (s₁.setTop (entryFrame m #[.ref a, .ref b, .int (Int32.ofNat o), .int (Int32.ofNat len), .null] 6)) (s₁.setTop (mkF m 0 #[.val (.ref a), .val (.ref b), .val (.int (Int32.ofNat o)), .val (.int (Int32.ofNat len)), .val .null, .unset] [])) := entry rfl
  have c2 : Steps p.tables e below (s₁.setTop (entryFrame m #[.ref a, .ref b, .int (Int32.ofNat o), .int (Int32.ofNat len), .null] 6)) (s₁.setTop (mkF m 1 #[.val (.ref a), .val (.ref b), .val (.int (Int32.ofNat o)), .val (.int (Int32.ofNat len)), .val .null, .unset] [.ref a])) := c1.trans (by
    refine XS.aloadN X0.here hexec rfl (hb hbytes d0) rfl rfl ?_
    exact Steps.refl _)
  obtain ⟨T3, X3, q3, st3⟩ := X0.oinit hexec hown (wks W (objW "java/lang/String" 1)) (g := (mkF m 1 #[.val (.ref a), .val (.ref b), .val (.int (Int32.ofNat o)), .val (.int (Int32.ofNat len)), .val .null, .unset] [.ref a])) rfl (by rw [hml]; rfl) (rest := []) rfl (hb hbytes d1) (W := 0) (by show 2 * 0 + 0 ≤ _; decide) (Nat.le_of_ble_eq_true rfl) (Nat.le_of_ble_eq_true rfl)
  have hh3 := q3.trans hh0
  have c4 : Steps p.tables e below (s₁.setTop (entryFrame m #[.ref a, .ref b, .int (Int32.ofNat o), .int (Int32.ofNat len), .null] 6)) (T3.setTop (mkF m 27 #[.val (.ref a), .val (.ref b), .val (.int (Int32.ofNat o)), .val (.int (Int32.ofNat len)), .val .null, .unset] [])) := (c2.trans (st3 _ (Steps.refl _))).trans (by
    refine XS.iloadN X3.here hexec rfl (hb hbytes d4) rfl ?_
    refine XS.ifYes X3.here hexec rfl (pc0 := 5) rfl (hb hbytes d5) rfl (i0_ne_t (nz32 (by omega) l0)) (by decide) rfl ?_
    exact Steps.refl _)
  obtain ⟨T5, X5, q5, st5⟩ := X3.sget hexec hown (wk W (.fieldLink "java/lang/String" 38 "java/lang/String" "COMPACT_STRINGS" "Z")) s1 (fun _ _ h => by rw [hh3]; exact h) (g := (mkF m 27 #[.val (.ref a), .val (.ref b), .val (.int (Int32.ofNat o)), .val (.int (Int32.ofNat len)), .val .null, .unset] [])) rfl (hb hbytes d27)
  have hh5 := q5.trans hh3
  have c6 : Steps p.tables e below (s₁.setTop (entryFrame m #[.ref a, .ref b, .int (Int32.ofNat o), .int (Int32.ofNat len), .null] 6)) (T5.setTop (mkF m 30 #[.val (.ref a), .val (.ref b), .val (.int (Int32.ofNat o)), .val (.int (Int32.ofNat len)), .val .null, .unset] [.int z])) := c4.trans (st5 _ (Steps.refl _))
  have c7 : Steps p.tables e below (s₁.setTop (entryFrame m #[.ref a, .ref b, .int (Int32.ofNat o), .int (Int32.ofNat len), .null] 6)) (T5.setTop (mkF m 36 #[.val (.ref a), .val (.ref b), .val (.int (Int32.ofNat o)), .val (.int (Int32.ofNat len)), .val .null, .unset] [.int (Int32.ofNat len), .int (Int32.ofNat o), .ref b])) := c6.trans (by
    refine XS.ifNo X5.here hexec rfl (hb hbytes d30) rfl (i0_eq_f hz) ?_
    refine XS.aloadN X5.here hexec rfl (hb hbytes d33) rfl rfl ?_
    refine XS.iloadN X5.here hexec rfl (hb hbytes d34) rfl ?_
    refine XS.iloadN X5.here hexec rfl (hb hbytes d35) rfl ?_
    exact Steps.refl _)
  obtain ⟨v8, T8, X8, E8, g8⟩ := X5.callS hexec (Cmp3.law l b A o len) hown (wks W (staticW "java/lang/String" 177 Cmp3.yN)) (wk W Cmp3.tab) (W := 0) (Nat.le_of_ble_eq_true rfl) (Nat.le_of_ble_eq_true rfl) (Nat.le_refl _) (by show 0 + len ≤ len; omega) (g := (mkF m 36 #[.val (.ref a), .val (.ref b), .val (.int (Int32.ofNat o)), .val (.int (Int32.ofNat len)), .val .null, .unset] [.int (Int32.ofNat len), .int (Int32.ofNat o), .ref b])) rfl (by rw [hml]; rfl) c7 (argsL := [.ref b, .int (Int32.ofNat o), .int (Int32.ofNat len)]) (rest := []) rfl rfl (by show 2 * 0 + 0 ≤ _; decide) (hb hbytes d36) (⟨rfl, hA.mv X5.warmed.alike hh5, l1, l2, hp⟩)
  obtain ⟨e8, z8⟩ := E8
  obtain ⟨rfl, N, n1, n2, n3, n4, n5, n6⟩ := NewArr.mv _ T5 s _ _ hh5.symm (Vm.Alike.refl _) rfl e8
  rw [hh5] at z8
  have hB1 := hB.keep X8.warmed.alike (n6 _ _ hB.1)
  have hne : s.heap.size ≠ a := (Nat.ne_of_lt (Array.getElem?_eq_some_iff.mp hB.1).1).symm
  have c9 : Steps p.tables e below (s₁.setTop (entryFrame m #[.ref a, .ref b, .int (Int32.ofNat o), .int (Int32.ofNat len), .null] 6)) (T8.setTop (mkF m 39 #[.val (.ref a), .val (.ref b), .val (.int (Int32.ofNat o)), .val (.int (Int32.ofNat len)), .val .null, .unset] [.ref s.heap.size])) := g8
  have c10 : Steps p.tables e below (s₁.setTop (entryFrame m #[.ref a, .ref b, .int (Int32.ofNat o), .int (Int32.ofNat len), .null] 6)) (T8.setTop (mkF m 45 #[.val (.ref a), .val (.ref b), .val (.int (Int32.ofNat o)), .val (.int (Int32.ofNat len)), .val .null, .val (.ref s.heap.size)] [.int (Int32.ofNat N.slots.size), .ref s.heap.size, .ref a])) := by
    have hc : Steps p.tables e below (s₁.setTop (entryFrame m #[.ref a, .ref b, .int (Int32.ofNat o), .int (Int32.ofNat len), .null] 6)) (T8.setTop (mkF m 45 #[.val (.ref a), .val (.ref b), .val (.int (Int32.ofNat o)), .val (.int (Int32.ofNat len)), .val .null, .val (.ref s.heap.size)] [.int (Int32.ofNat len), .ref s.heap.size, .ref a])) := c9.trans (by
      refine XS.astore X8.here hexec rfl (hb hbytes d39) rfl rfl rfl ?_
      refine XS.aloadN X8.here hexec rfl (hb hbytes d41) rfl rfl ?_
      refine XS.aload X8.here hexec rfl (hb hbytes d42) rfl rfl ?_
      refine XS.iloadN X8.here hexec rfl (hb hbytes d44) rfl ?_
      exact Steps.refl _)
    rw [n4]; exact hc
  obtain ⟨v11, T11, X11, E11, g11⟩ := X8.callS hexec (CodL.law l s.heap.size N) hown (wks W (staticW "java/lang/String" 47 CodL.yN)) (wk W CodL.tab) (W := 1) (Nat.le_of_ble_eq_true rfl) (Nat.le_of_ble_eq_true rfl) (Nat.le_refl _) (by show 0 + len + 0 ≤ len; omega) (g := (mkF m 45 #[.val (.ref a), .val (.ref b), .val (.int (Int32.ofNat o)), .val (.int (Int32.ofNat len)), .val .null, .val (.ref s.heap.size)] [.int (Int32.ofNat N.slots.size), .ref s.heap.size, .ref a])) rfl (by rw [hml]; rfl) c10 (argsL := [.ref s.heap.size, .int (Int32.ofNat N.slots.size)]) (rest := [.ref a]) rfl rfl (by show 2 * 0 + (1 + 0) ≤ _; decide) (hb hbytes d45) (⟨rfl, n1⟩)
  obtain ⟨rfl, q11⟩ := E11
  have hB11 := hB1.mv (X8.warmed.alike.symm.trans X11.warmed.alike) q11
  have c12 : Steps p.tables e below (s₁.setTop (entryFrame m #[.ref a, .ref b, .int (Int32.ofNat o), .int (Int32.ofNat len), .null] 6)) (T11.setTop (mkF m 48 #[.val (.ref a), .val (.ref b), .val (.int (Int32.ofNat o)), .val (.int (Int32.ofNat len)), .val .null, .val (.ref s.heap.size)] [.int 0, .ref a])) := g11
  obtain ⟨T13, X13, p13, bl13, sl13, st13⟩ := X11.finit hexec hown (wk W (.fieldLink "java/lang/String" 15 "java/lang/String" "coder" "B")) (Or.inr ⟨_, (wk W (.laysFinal "java/lang/String" "java/lang/String" "coder" "B"))⟩) (Or.inl ⟨rfl, hnm⟩) f2 (Or.inl rfl) hB11 (t := .byte) (by decide +kernel) rfl (g := (mkF m 48 #[.val (.ref a), .val (.ref b), .val (.int (Int32.ofNat o)), .val (.int (Int32.ofNat len)), .val .null, .val (.ref s.heap.size)] [.int 0, .ref a])) rfl (rest := []) rfl (hb hbytes d48)
  have c14 : Steps p.tables e below (s₁.setTop (entryFrame m #[.ref a, .ref b, .int (Int32.ofNat o), .int (Int32.ofNat len), .null] 6)) (T13.setTop (mkF m 54 #[.val (.ref a), .val (.ref b), .val (.int (Int32.ofNat o)), .val (.int (Int32.ofNat len)), .val .null, .val (.ref s.heap.size)] [.ref s.heap.size, .ref a])) := (c12.trans (st13 _ (Steps.refl _))).trans (by
    refine XS.aloadN X13.here hexec rfl (hb hbytes d51) rfl rfl ?_
    refine XS.aload X13.here hexec rfl (hb hbytes d52) rfl rfl ?_
    exact Steps.refl _)
  obtain ⟨T15, X15, p15, bl15, sl15, st15⟩ := X13.finit hexec hown (wk W (.fieldLink "java/lang/String" 9 "java/lang/String" "value" "[B")) (Or.inr ⟨_, (wk W (.laysFinal "java/lang/String" "java/lang/String" "value" "[B"))⟩) (Or.inl ⟨rfl, hnm⟩) f1 (Or.inl rfl) bl13 (t := (.array .byte)) (by decide +kernel) rfl (g := (mkF m 54 #[.val (.ref a), .val (.ref b), .val (.int (Int32.ofNat o)), .val (.int (Int32.ofNat len)), .val .null, .val (.ref s.heap.size)] [.ref s.heap.size, .ref a])) rfl (rest := []) rfl (hb hbytes d54)
  have c16 : Steps p.tables e below (s₁.setTop (entryFrame m #[.ref a, .ref b, .int (Int32.ofNat o), .int (Int32.ofNat len), .null] 6)) (T15.setTop (mkF m 57 #[.val (.ref a), .val (.ref b), .val (.int (Int32.ofNat o)), .val (.int (Int32.ofNat len)), .val .null, .val (.ref s.heap.size)] [])) := c14.trans (st15 _ (Steps.refl _))
  have ap := apart (Or.inr ⟨_, (wk W (.laysFinal "java/lang/String" "java/lang/String" "value" "[B"))⟩) (Or.inr ⟨_, (wk W (.laysFinal "java/lang/String" "java/lang/String" "coder" "B"))⟩) f1 f2 (t₁ := .array .byte) (t₂ := .byte) (by decide +kernel) (by decide +kernel) (by decide)
  have al := X8.warmed.alike.symm.trans X15.warmed.alike
  have n7 : T11.heap[s.heap.size]? = some N := by rw [q11]; exact n1.1
  exact ⟨T15, none, _, _, _, X15, by simp, rfl, by omega, (fun _ => rfl), ⟨rfl, _, N, bl15, ((Same.refl D _).set _ (by simp)).set _ (by simp), sl15, (Cell.slots_setSlot_ne _ ap).trans sl13, n1.keep al (p15.other hne (p13.other hne n7)), n2, by rw [al.findClass]; exact n3, n4, n5, fun y c h1 h2 => p15.other h1 (p13.other h1 (by rw [q11]; exact n6 y c h2)), by rw [p15.2.2, p13.2.2, q11]; exact z8⟩, fun fs hl => c16.trans (X15.returnOut hexec hret (hb hbytes d57) hl)⟩
end New4
namespace New1
def yN : MethodName := ⟨"java/lang/String", "<init>", "([C)V"⟩
abbrev yB : ByteArray := jdk_42_method_3_code
theorem d0 : decode yB 0 = .ok (.aload_n 0, 1) := by decide +kernel
theorem d1 : decode yB 1 = .ok (.aload_n 1, 1) := by decide +kernel
theorem d2 : decode yB 2 = .ok (.iconst 0, 1) := by decide +kernel
theorem d3 : decode yB 3 = .ok (.aload_n 1, 1) := by decide +kernel
theorem d4 : decode yB 4 = .ok (.arraylength, 1) := by decide +kernel
theorem d5 : decode yB 5 = .ok (.aconst_null, 1) := by decide +kernel
theorem d6 : decode yB 6 = .ok (.invokespecial 27, 3) := by decide +kernel
theorem d9 : decode yB 9 = .ok (.return_, 1) := by decide +kernel
def site : List Cond := [New4.tab] ++ initW "java/lang/String" 27 New4.yN
def tab : Cond := tabOf yN yB 2 none site
def P (a : Addr) (D : Cell) (fV fC : Field) (b : Addr) (A : Cell) (z : Int32) (args : Array Value) (s : State) : Prop := args = #[.ref a, .ref b] ∧ Blank "java/lang/String" a D s ∧ Found "java/lang/String" "value" "[B" fV s ∧ Found "java/lang/String" "coder" "B" fC s ∧ Ch b A s ∧ StaticIs s "java/lang/String" "COMPACT_STRINGS" "Z" (.int z) ∧ ¬ z = 0 ∧ 0 < A.slots.size ∧ A.slots.size ≤ 536870912 ∧ ∀ i, i < A.slots.size → ¬ 255 < cv A i
def E (a : Addr) (D : Cell) (fV fC : Field) (A : Cell) (r : Option Value) (s u : State) : Prop := Got a D fV fC A 0 A.slots.size r s u
/-- new String(chars), not empty, no char above 255: a Latin-1 String of their low bytes -/
theorem law (l : Launch) (a : Addr) (D : Cell) (fV fC : Field) (b : Addr) (A : Cell) (z : Int32) : Law l yN 2 1 3 52 yB 2 none site (P a D fV fC b A z) (E a D fV fC A) [⟨a, fC.slot⟩, ⟨a, fV.slot⟩] 1 A.slots.size := by
  refine Law.of_walk (plainFor_of_name (by decide +kernel)) (by decide +kernel) (by decide +kernel) (by decide) (fun _ _ h => by rw [h.1]; rfl) (fun _ U U' hal hh h => ⟨h.1, h.2.1.mv hal hh, h.2.2.1.al hal, h.2.2.2.1.al hal, h.2.2.2.2.1.mv hal hh, h.2.2.2.2.2.1.there hal hh, h.2.2.2.2.2.2⟩) (fun r U U' V V' h1 hal h2 h => Got.mv r U U' V V' h1 hal h2 h) ?_
  intro p e s m args below meth c s₁ X0 hexec hbytes hml hret hlk hnm hown hh0 W hP
  obtain ⟨rfl, hB, f1, f2, hA, s1, hz, l0, l2, hp⟩ := hP
  have c1 : Steps p.tables e below (s₁.setTop (entryFrame m #[.ref a, .ref b] 2)) (s₁.setTop (mkF m 0 #[.val (.ref a), .val (.ref b)] [])) := entry rfl
  have c2 : Steps p.tables e below (s₁.setTop (entryFrame m #[.ref a, .ref b] 2)) (s₁.setTop (mkF m 6 #[.val (.ref a), .val (.ref b)] [.null, .int (Int32.ofNat A.slots.size), .int 0, .ref b, .ref a])) := c1.trans (by
    refine XS.aloadN X0.here hexec rfl (hb hbytes d0) rfl rfl ?_
    refine XS.aloadN X0.here hexec rfl (hb hbytes d1) rfl rfl ?_
    refine iconstV X0.here hexec rfl 0 (hb hbytes d2) (by decide) ?_
    refine XS.aloadN X0.here hexec rfl (hb hbytes d3) rfl rfl ?_
    refine X0.alen hexec (hA.1.mv X0.warmed.alike hh0) rfl rfl (hb hbytes d4) ?_
    refine XS.aconstNull X0.here hexec rfl (hb hbytes d5) ?_
    exact Steps.refl _)
  obtain ⟨v3, T3, X3, E3, g3⟩ := X0.callN hexec (New4.law l a D fV fC b A z 0 A.slots.size) rfl hown (wks W (initW "java/lang/String" 27 New4.yN)) (W New4.tab (by simp only [site, List.mem_cons, List.mem_append, true_or, or_true])) (W := 0) (Nat.le_of_ble_eq_true rfl) (Nat.le_of_ble_eq_true rfl) (Nat.le_refl _) (by show 0 + A.slots.size ≤ A.slots.size; omega) (g := (mkF m 6 #[.val (.ref a), .val (.ref b)] [.null, .int (Int32.ofNat A.slots.size), .int (Int32.ofNat 0), .ref b, .ref a])) rfl (by rw [hml]; rfl) c2 (argsL := [.ref b, .int (Int32.ofNat 0), .int (Int32.ofNat A.slots.size), .null]) (rest := []) rfl rfl (by show 2 * 0 + 0 ≤ _; decide) (hb hbytes d6) (⟨rfl, hB.mv X0.warmed.alike hh0, f1.al X0.warmed.alike, f2.al X0.warmed.alike, hA.mv X0.warmed.alike hh0, s1.there X0.warmed.alike hh0, hz, l0, by omega, l2, fun i hi => by rw [Nat.zero_add]; exact hp i hi⟩)
  have e0 := Got.mv _ s₁ s _ _ hh0.symm (Vm.Alike.refl _) rfl E3
  obtain rfl := e0.1
  have c4 : Steps p.tables e below (s₁.setTop (entryFrame m #[.ref a, .ref b] 2)) (T3.setTop (mkF m 9 #[.val (.ref a), .val (.ref b)] [])) := g3
  exact ⟨T3, none, _, _, _, X3, by simp, rfl, by omega, (fun _ => rfl), e0, fun fs hl => c4.trans (X3.returnOut hexec hret (hb hbytes d9) hl)⟩
theorem pays {l : Launch} {R : Room} {p : Program} {e : Env} {below : List Frame} {s : State} {sargs : Array Value} {len W : Nat} (a : Addr) (D : Cell) (fV fC : Field) (b : Addr) (A : Cell) (z : Int32) (htab : tab.before sargs s = true) (hfr : 4 ≤ R.frames) (hlo : W + 65 ≤ R.locals) :
    Back l R p e below s sargs yN len W (fun A₁ a₁ => A₁.cells + 1 ≤ R.cells ∧ A₁.slots + A.slots.size ≤ R.slots ∧ P a D fV fC b A z a₁ A₁.U) (fun A₁ _ v₁ B₁ => E a D fV fC A v₁ A₁.U B₁.U ∧ B₁.locs = A₁.locs ++ [⟨a, fC.slot⟩, ⟨a, fV.slot⟩] ∧ B₁.cells = A₁.cells + 1 ∧ B₁.slots = A₁.slots + A.slots.size) :=
  (law l a D fV fC b A z).pays htab hfr (by omega)
end New1
/-- the byte, read back as charAt reads it, is the char -/
theorem lo8_mask {x : Int32} (h0 : ¬ x < 0) (h1 : ¬ 255 < x) : lo8 x &&& 255 = x := by
  have t : ∀ k : Fin 256, lo8 (Int32.ofNat k.val) &&& 255 = Int32.ofNat k.val := by decide +kernel
  rw [Int32.lt_iff_toInt_lt] at h0 h1
  have e0 : (0 : Int32).toInt = 0 := rfl
  have e1 : (255 : Int32).toInt = 255 := rfl
  obtain ⟨k, hk⟩ : ∃ k : Nat, x.toInt = k := ⟨x.toInt.toNat, by omega⟩
  have hx : x = Int32.ofNat k := Int32.toInt_inj.mp (by rw [hk, Int32.toInt_ofNat_small (by omega)])
  rw [hx]
  exact t ⟨k, by omega⟩
end StrChars
namespace StrChars.Road
open Jvm Sem ClassFile Op Lib Jvm.Stand Jvm.Free Jvm.Free.XT
open Jvm.Lib.Cold (StaticIs)
abbrev ST : String := "java/lang/String"
/-- every table word that New1's law asks, flat -/
abbrev words : List Jvm.Cond := [.code New1.yN New1.yB 2 none, .initialized ST, .methodLink ST 27 New4.yN, .instanceMethod New4.yN,
  .code New4.yN New4.yB 6 none, .fieldLink ST 38 ST "COMPACT_STRINGS" "Z", .laysFinal ST ST "value" "[B", .fieldLink ST 9 ST "value" "[B", .laysFinal ST ST "coder" "B", .fieldLink ST 15 ST "coder" "B",
  .methodLink ST 1 Lib.objectInit, .instanceMethod Lib.objectInit, .code Lib.objectInit ⟨#[0xb1]⟩ 1 none, .methodLink ST 177 Cmp3.yN, .static Cmp3.yN, .methodLink ST 47 CodL.yN, .static CodL.yN,
  .code Cmp3.yN Cmp3.yB 6 (some (.array .byte)), .initialized U16, .arrayClass .byte, .methodLink U16 115 Cmp5.yN, .static Cmp5.yN, .code Cmp5.yN Cmp5.yB 7 (some .int), .code CodL.yN CodL.yB 2 (some .byte)]
theorem tab_of {a : Array Value} {s : State} (h : ∀ w ∈ words, w.before a s = true) : New1.tab.before a s = true := by
  have h5 : Cmp5.tab.before a s = true := unparts (wk h (.code Cmp5.yN Cmp5.yB 7 (some .int))) (wks h (.initialized Cmp5.yN.cls :: Cmp5.site))
  have hc : CodL.tab.before a s = true := unparts (wk h (.code CodL.yN CodL.yB 2 (some .byte))) (wks h (.initialized CodL.yN.cls :: CodL.site))
  have q5 : ∀ w ∈ Cmp5.tab :: words, w.before a s = true := fun w hw => (List.mem_cons.mp hw).elim (fun e => e ▸ h5) (h w)
  have h3 : Cmp3.tab.before a s = true := unparts (wk q5 (.code Cmp3.yN Cmp3.yB 6 (some (.array .byte)))) (wks q5 (.initialized Cmp3.yN.cls :: Cmp3.site))
  have q3 : ∀ w ∈ Cmp3.tab :: CodL.tab :: words, w.before a s = true := fun w hw => (List.mem_cons.mp hw).elim (fun e => e ▸ h3) fun hw => (List.mem_cons.mp hw).elim (fun e => e ▸ hc) (h w)
  have h4 : New4.tab.before a s = true := unparts (wk q3 (.code New4.yN New4.yB 6 none)) (wks q3 (.initialized New4.yN.cls :: New4.site))
  have q4 : ∀ w ∈ New4.tab :: words, w.before a s = true := fun w hw => (List.mem_cons.mp hw).elim (fun e => e ▸ h4) (h w)
  exact unparts (wk q4 (.code New1.yN New1.yB 2 none)) (wks q4 (.initialized New1.yN.cls :: New1.site))
/-- the words ride from the start Z to the walk's own state -/
theorem moved {Z s : State} {a0 args : Array Value} (hZ : Z.Warmed39 s.vm) (hw : ∀ d ∈ words, d.before a0 Z = true) : ∀ d ∈ words, d.before args s = true := fun d hd => by
  have q := hw d hd
  have t : ∀ d ∈ words, d = .arrayClass .byte ∨ (d.onTables && d.keepsFace) = true := by decide +kernel
  rcases t d hd with rfl | t
  · exact RoadKit.mvA hZ q
  · exact RoadKit.mv hZ q t
/-- WHAT COMES BACK, over the tables of the start Z: h the heap at the call, h' behind it -/
def Q (Z : State) (x : Addr) (A : Cell) (h : Heap) (v : Option Value) (h' : Heap) (L : List Loc) : Prop := v = none ∧ (∀ y ∈ L, y.base = x) ∧ RoadKit.Keep h h' [x] ∧ h'.size = h.size + 1 ∧ RoadKit.Exa Z h' x ST ∧ RoadKit.Fld Z h' x ST "value" "[B" (.ref h.size) ∧ RoadKit.Fld Z h' x ST "coder" "B" (.int 0) ∧
  (∃ V : Cell, RoadKit.Arr Z h' h.size V .byte ∧ V.vm = .none ∧ Z.vm.findClass "[B" = some V.cls ∧ V.slots.size = A.slots.size ∧ ∀ j, j < A.slots.size → V.slots[j]? = some (.int (lo8 (cv A j)))) ∧
  ∀ (O n d : String) (w : Value), RoadKit.Fld Z h x O n d w → RoadKit.slotOf Z O n d ≠ RoadKit.slotOf Z ST "value" "[B" → RoadKit.slotOf Z O n d ≠ RoadKit.slotOf Z ST "coder" "B" → RoadKit.Fld Z h' x O n d w
/-- **new String(chars) AT A CALL, IN THE ROAD'S FORM**: for specialBack behind newO: x the fresh String, b the char[] with the cell A -/
theorem back {p : Program} {l : Launch} {e : Env} {R : Room} {s : State} {args : Array Value} {below : List Frame} {len W : Nat} {Z : State} {a0 : Array Value} {h : Heap} (hZ : Z.Warmed39 s.vm) (hw : ∀ d ∈ words, d.before a0 Z = true) {kI : Nat} (wi : (Jvm.Cond.instantiable ST kI).before a0 Z = true)
    {x b : Addr} {A : Cell} {z : Int32} {v0 c0 : Value} (E : RoadKit.Exa Z h x ST) (V : RoadKit.Fld Z h x ST "value" "[B" v0) (C : RoadKit.Fld Z h x ST "coder" "B" c0) (K : RoadKit.Arr Z h b A .char) (hty : Typed .char A) (S : RoadKit.Sta Z h ST "COMPACT_STRINGS" "Z" (.int z)) (hz : ¬ z = 0)
    (l0 : 0 < A.slots.size) (l2 : A.slots.size ≤ 536870912) (hp : ∀ i, i < A.slots.size → ¬ 255 < cv A i) (hfr : 4 ≤ R.frames) (hlo : W + 65 ≤ R.locals) :
    Back l R p e below s args New1.yN len W (fun P a => a = #[.ref x, .ref b] ∧ P.U.heap = h ∧ P.cells + 1 ≤ R.cells ∧ P.slots + A.slots.size ≤ R.slots)
      (fun P _ v B => ∃ L, Q Z x A h v B.U.heap L ∧ B.locs = P.locs ++ L ∧ B.cells = P.cells + 1 ∧ B.slots = P.slots + A.slots.size) := by
  intro m meth c P g ig mk a X hg hsize hdg hW hn hp'
  obtain ⟨rfl, rfl, r1, r2⟩ := hp'
  have al : Z.vm.Alike P.U.vm := hZ.alike.trans X.warmed.alike
  obtain ⟨D, cfV, kV, iV, fV, hD, gV, stV, knV, obV, asV, slV⟩ := id V
  obtain ⟨D', cfC, kC, iC, fC, hD', gC, stC, -, -, asC, slC⟩ := id C
  cases hD.symm.trans hD'
  obtain ⟨D2, kD, e1, e2, e3, e4, e5⟩ := id E
  cases hD.symm.trans e1
  obtain ⟨c2, k2, i1, i2, i3, -⟩ := Cond.instantiable_spec wi
  cases e2.symm.trans i1
  cases e3.symm.trans i2
  obtain ⟨kU, u1, u2⟩ := al.2.2 _ _ e3
  have hB : Blank ST x D P.U := ⟨hD, ⟨knV, fun q hq => by rw [hq] at obV; cases obV⟩, by rw [al.findClass]; exact e2, kU, u1, by rw [u2]; exact i3, by rw [u2]; exact e5 i3⟩
  have F1 : Found ST "value" "[B" fV P.U := ⟨SBG.found_only al ⟨cfV, kV, iV, gV⟩, stV⟩
  have F2 : Found ST "coder" "B" fC P.U := ⟨SBG.found_only al ⟨cfC, kC, iC, gC⟩, stC⟩
  have hA : Ch b A P.U := ⟨⟨K.1, State.isArrayOf_alike al K.2.1, K.2.2, by omega⟩, hty⟩
  have hS : StaticIs P.U ST "COMPACT_STRINGS" "Z" (.int z) := by
    obtain ⟨cfS, iS, kS, fS, st, cS, t1, t2, t3, t4, t5, t6, t7⟩ := S
    exact StaticIs.there (s := { Z with heap := P.U.heap }) ⟨cfS, iS, kS, fS, st, cS, t1, t2, t3, t4, t5, (fun q => by rw [q] at t6; cases t6), t7⟩ al rfl
  obtain ⟨v, B, X', ⟨⟨hv, E', V', q1, q2, q3, q4, q5, q6, q7, q8, q9, q10, q11⟩, hl, hc, hs⟩, st⟩ := New1.pays x D fV fC b A z (tab_of (moved hZ hw)) hfr hlo m meth c P g ig mk _ X hg hsize hdg hW hn ⟨r1, r2, rfl, hB, F1, F2, hA, hS, hz, l0, l2, hp⟩
  have al' : Z.vm.Alike B.U.vm := hZ.alike.trans X'.warmed.alike
  have hsz : E'.slots.size = D.slots.size := by
    obtain ⟨-, -, -, kB, w1, w2, w3⟩ := q1
    obtain ⟨kB', y1, y2⟩ := al'.2.2 _ _ e3
    rw [q2.2.1] at w1
    cases w1.symm.trans y1
    rw [w3, e5 i3, y2]
  refine ⟨v, B, X', ⟨_, ⟨hv, ?_, ⟨by omega, fun y cy hy hn' => q10 y cy (by simpa using hn') hy, fun y cy hy => ?_⟩, q11, ⟨E', _, q1.1, by rw [q2.2.1]; exact e2, by rw [q2.2.1]; exact e3, by rw [q2.1]; exact obV, fun _ => by rw [hsz]; exact e5 i3⟩,
    ⟨E', cfV, kV, iV, fV, q1.1, gV, stV, by rw [q2.1]; exact knV, by rw [q2.1]; exact obV, by rw [q2.2.1]; exact asV, q3⟩, ⟨E', cfC, kC, iC, fC, q1.1, gC, stC, by rw [q2.1]; exact knV, by rw [q2.1]; exact obV, by rw [q2.2.1]; exact asC, q4⟩,
    ⟨V', ⟨q5.1, State.isArrayOf_alike al'.symm q5.2.1, q5.2.2.1⟩, q6, by rw [← al'.findClass]; exact q7, q8, fun j hj => by have := q9 j hj; rwa [Nat.zero_add] at this⟩, fun O n d w F n1 n2 => ?_⟩, hl, hc, hs⟩, st⟩
  · intro y hy
    simp only [List.mem_cons, List.not_mem_nil, or_false] at hy
    rcases hy with rfl | rfl <;> rfl
  · by_cases q : y = x
    · subst q
      cases hD.symm.trans hy
      exact ⟨E', q1.1, q2.2.1, q2.1, hsz⟩
    · exact ⟨cy, q10 y cy q hy, rfl, rfl, rfl⟩
  · obtain ⟨D3, cf, k, i, f, g1, g2, g3, g4, g5, g6, g7⟩ := F
    cases hD.symm.trans g1
    simp only [RoadKit.slotOf, g2, gV, gC, Option.map_some, Option.getD_some] at n1 n2
    exact ⟨E', cf, k, i, f, q1.1, g2, g3, by rw [q2.1]; exact g4, by rw [q2.1]; exact g5, by rw [q2.2.1]; exact g6, by rw [q2.2.2 f.slot (by simp [n1, n2])]; exact g7⟩
end StrChars.Road
namespace StrChars.Road
open Jvm Sem ClassFile Op Lib Jvm.Stand Jvm.Free Jvm.Free.XT
/-- WHAT COMES BACK, the byte[] as a list of values -/
def QA (Z : State) (x : Addr) (zn : Int32) (cs : List Int32) (h : Heap) (v : Option Value) (h' : Heap) (L : List Loc) : Prop := v = none ∧ (∀ y ∈ L, y.base = x) ∧ RoadKit.Keep h h' [x] ∧ h'.size = h.size + 1 ∧ RoadKit.Exa Z h' x ST ∧ RoadKit.Fld Z h' x ST "value" "[B" (.ref h.size) ∧ RoadKit.Fld Z h' x ST "coder" "B" (.int 0) ∧
  (∃ kb, Z.vm.findClass "[B" = some kb ∧ RoadKit.Arv Z h' h.size kb .byte zn (cs.map fun c => .int (lo8 c)) (.int 0)) ∧
  ∀ (O n d : String) (w : Value), RoadKit.Fld Z h x O n d w → RoadKit.slotOf Z O n d ≠ RoadKit.slotOf Z ST "value" "[B" → RoadKit.slotOf Z O n d ≠ RoadKit.slotOf Z ST "coder" "B" → RoadKit.Fld Z h' x O n d w
/-- **new String(chars) AT A CALL, THE ARRAYS AS LISTS**: the char[] at b holds cs, not empty, no char above 255 -/
theorem backArv {p : Program} {l : Launch} {e : Env} {R : Room} {s : State} {args : Array Value} {below : List Frame} {len W : Nat} {Z : State} {a0 : Array Value} {h : Heap} (hZ : Z.Warmed39 s.vm) (hw : ∀ d ∈ words, d.before a0 Z = true) {kI : Nat} (wi : (Jvm.Cond.instantiable ST kI).before a0 Z = true)
    {x b : Addr} {k : ClassId} {zn z : Int32} {cs : List Int32} {dv v0 c0 : Value} (E : RoadKit.Exa Z h x ST) (V : RoadKit.Fld Z h x ST "value" "[B" v0) (C : RoadKit.Fld Z h x ST "coder" "B" c0) (K : RoadKit.Arv Z h b k .char zn (cs.map Value.int) dv) (S : RoadKit.Sta Z h ST "COMPACT_STRINGS" "Z" (.int z)) (hz : ¬ z = 0)
    (hlen : zn.toNatClampNeg = cs.length) (h0 : 0 < cs.length) (hbig : cs.length ≤ 536870912) (hall : ∀ c ∈ cs, ¬ 255 < c) (hfr : 4 ≤ R.frames) (hlo : W + 65 ≤ R.locals) :
    Back l R p e below s args New1.yN len W (fun P a => a = #[.ref x, .ref b] ∧ P.U.heap = h ∧ P.cells + 1 ≤ R.cells ∧ P.slots + cs.length ≤ R.slots)
      (fun P _ v B => ∃ L, QA Z x zn cs h v B.U.heap L ∧ B.locs = P.locs ++ L ∧ B.cells = P.cells + 1 ∧ B.slots = P.slots + cs.length) := by
  obtain ⟨A, K1, K2, K3, K4, K5, K6⟩ := K
  have e : A.slots.size = cs.length := K3.trans hlen
  have hat : ∀ (i : Nat) (hi : i < cs.length), A.slots[i]? = some (.int cs[i]) := fun i hi => by rw [K5 i (by omega)]; simp [List.getD_eq_getElem?_getD, hi]
  have hcv : ∀ (i : Nat) (hi : i < cs.length), cv A i = cs[i] := fun i hi => by unfold cv; rw [hat i hi]
  have hty : Typed .char A := fun i v hv => by
    have hi : i < A.slots.size := (Array.getElem?_eq_some_iff.mp hv).1
    have q := K5 i hi
    rw [hv] at q
    rw [Option.some.inj q]
    exact K6 i hi
  refine Back.mono (back hZ hw wi E V C K1 hty S hz (by omega) (by omega) (fun i hi => by rw [hcv i (by omega)]; exact hall _ (List.getElem_mem _)) hfr hlo) (fun P a hp => ⟨hp.1, hp.2.1, hp.2.2.1, by rw [e]; exact hp.2.2.2⟩) (fun P a v B hp hq => ?_)
  obtain ⟨L, ⟨q1, q2, q3, q4, q5, q6, q7, ⟨V', v1, v2, v3, v4, v5⟩, q9⟩, hl, hc, hs⟩ := hq
  refine ⟨L, ⟨q1, q2, q3, q4, q5, q6, q7, ⟨V'.cls, v3, V', v1, rfl, by rw [v4, e, hlen], K4, fun i hi => ?_, fun i hi => ?_⟩, q9⟩, hl, hc, by rw [hs, e]⟩
  · have hi' : i < cs.length := by omega
    rw [v5 i (by omega), hcv i hi']; simp [List.getD_eq_getElem?_getD, hi']
  · have hi' : i < cs.length := by omega
    simp only [List.getD_eq_getElem?_getD, List.getElem?_map, List.getElem?_eq_getElem hi', Option.map_some, Option.getD_some]
    exact fits_lo8 _
end StrChars.Road
namespace StrChars.Road
open Jvm Sem ClassFile Op Lib Jvm.Stand Jvm.Free Jvm.Free.XT
/-- WHAT COMES BACK, in the writer's own shape -/
def QV (Z : State) (x : Addr) (N : Int32) (bs : List Int32) (h : Heap) (n0 : Nat) (v : Option Value) (h' : Heap) (L : List Loc) : Prop := v = none ∧ RoadKit.Fr n0 L ∧ RoadKit.Keep h h' [x] ∧ RoadKit.Exa Z h' x ST ∧ RoadKit.Fld Z h' x ST "coder" "B" (.int 0) ∧
  ∃ (t : Addr) (kb : ClassId), n0 ≤ t ∧ h.size ≤ t ∧ ¬ t = x ∧ RoadKit.Fld Z h' x ST "value" "[B" (.ref t) ∧ RoadKit.Arv Z h' t kb .byte N (bs.map Value.int) (.int 0)
/-- **new String(chars) AT A CALL, FOR THE WRITER**: a char[] of n known ints, each 0 to 255 -/
theorem backV {p : Program} {l : Launch} {e : Env} {R : Room} {s : State} {args : Array Value} {below : List Frame} {len W : Nat} {Z : State} {a0 : Array Value} {h : Heap} (hZ : Z.Warmed39 s.vm) (hw : ∀ d ∈ words, d.before a0 Z = true) {kI : Nat} (wi : (Jvm.Cond.instantiable ST kI).before a0 Z = true)
    {x b : Addr} {kC : ClassId} {cs bs : List Int32} {d v0 c0 : Value} {z N : Int32} {n n0 : Nat} (hx0 : n0 ≤ x) (hh0 : n0 ≤ h.size) (E : RoadKit.Exa Z h x ST) (V : RoadKit.Fld Z h x ST "value" "[B" v0) (C : RoadKit.Fld Z h x ST "coder" "B" c0) (K : RoadKit.Arv Z h b kC .char N (cs.map Value.int) d) (S : RoadKit.Sta Z h ST "COMPACT_STRINGS" "Z" (.int z)) (hz : ¬ z = 0)
    (hn : cs.length = n) (hN : N = Int32.ofNat n) (l0 : 0 < n) (l2 : n ≤ 4000) (hp : ∀ c ∈ cs, ¬ c < 0 ∧ ¬ (255 : Int32) < c) (hb : bs = cs.map (fun c => c.toInt8.toInt32)) (hfr : 4 ≤ R.frames) (hlo : W + 65 ≤ R.locals) :
    Back l R p e below s args (⟨"java/lang/String", "<init>", "([C)V"⟩ : MethodName) len W (fun P a => a = #[.ref x, .ref b] ∧ P.U.heap = h ∧ P.cells + 1 ≤ R.cells ∧ P.slots + n ≤ R.slots)
      (fun P _ v B => ∃ L, QV Z x N bs h n0 v B.U.heap L ∧ B.locs = P.locs ++ L ∧ B.cells = P.cells + 1 ∧ B.slots = P.slots + n) := by
  subst hn hN hb
  refine Back.mono (backArv hZ hw wi E V C K S hz (n32 (by omega)) l0 (by omega) (fun c hc => (hp c hc).2) hfr hlo) (fun P a hp => hp) (fun P a v B hp hq => ?_)
  obtain ⟨L, ⟨q1, q2, q3, q4, q5, q6, q7, ⟨kb, v1, v2⟩, q9⟩, hl, hc, hs⟩ := hq
  exact ⟨L, ⟨q1, fun y hy => by rw [q2 y hy]; exact hx0, q3, q5, q7, h.size, kb, hh0, Nat.le_refl _, Nat.ne_of_gt E.lt, q6, by rw [List.map_map]; exact v2⟩, hl, hc, hs⟩
end StrChars.Road
namespace StrChars
open Jvm Sem ClassFile Op Lib Jvm.Stand Jvm.Free.XT Jvm.Free.ALB Jvm.Free.JM Jvm.Free
open Jvm.Lib.Cold (StaticIs)
def hi8 (x : Int32) : Int32 := lo8 (x >>> ((8 : Int32) &&& 31))
/-- what StringUTF16.getChar makes of two bytes -/
def pairCh (u v : Int32) : Int32 := (((u &&& 255) <<< ((0 : Int32) &&& 31)) ||| ((v &&& 255) <<< ((8 : Int32) &&& 31))).toUInt32.toUInt16.toUInt32.toInt32
theorem shr0 (c : Int32) : c >>> ((0 : Int32) &&& 31) = c := by
  have e : ((0 : Int32) &&& 31) = 0 := by decide
  rw [e]
  apply Int32.toBitVec_inj.mp
  rw [Int32.toBitVec_shiftRight]
  have e1 : ((0 : Int32).toBitVec.smod 32) = 0#32 := by decide
  rw [e1, BitVec.sshiftRight_eq']
  exact BitVec.sshiftRight_zero
theorem lo8_and (x : Int32) : (lo8 x &&& 255).toBitVec.toNat = x.toBitVec.toNat % 256 := by
  have h : (lo8 x).toBitVec = (x.toBitVec.signExtend 8).signExtend 32 := by rw [lo8, Int8.toBitVec_toInt32, Int32.toBitVec_toInt8]
  rw [Int32.toBitVec_and, BitVec.toNat_and, h]
  have e : ((x.toBitVec.signExtend 8).signExtend 32).toNat % 256 = x.toBitVec.toNat % 256 := by
    rw [BitVec.toNat_signExtend]
    have hlt := x.toBitVec.isLt
    simp only [BitVec.toNat_setWidth, BitVec.toNat_signExtend]
    split <;> split <;> omega
  rw [← e]
  exact Nat.and_two_pow_sub_one_eq_mod _ 8
theorem pair_says {c : Int32} (h0 : ¬ c < 0) (h1 : ¬ 65535 < c) : pairCh (lo8 c) (hi8 c) = c := by
  rw [Int32.lt_iff_toInt_lt] at h0 h1
  have e0 : (0 : Int32).toInt = 0 := rfl
  have e1 : (65535 : Int32).toInt = 65535 := rfl
  have hc : c.toInt = c.toBitVec.toNat := by
    have := c.toBitVec.isLt
    have e : c.toInt = c.toBitVec.toInt := rfl
    rw [e] at h0 h1
    rw [e]
    rw [BitVec.toInt_eq_toNat_cond] at h0 h1 ⊢
    split at h0 <;> split <;> omega
  have hn : c.toBitVec.toNat < 65536 := by omega
  have a1 := lo8_and c
  have a2 : (hi8 c &&& 255).toBitVec.toNat = c.toBitVec.toNat / 256 := by
    rw [hi8, lo8_and]
    have e : ((8 : Int32) &&& 31) = 8 := by decide
    rw [e, Int32.toBitVec_shiftRight]
    have e2 : ((8 : Int32).toBitVec.smod 32) = 8#32 := by decide
    rw [e2, BitVec.sshiftRight_eq', BitVec.toNat_sshiftRight_of_msb_false (by rw [BitVec.msb_eq_false_iff_two_mul_lt]; omega)]
    show c.toBitVec.toNat >>> 8 % 256 = _
    rw [Nat.shiftRight_eq_div_pow]
    omega
  unfold pairCh
  apply Int32.toBitVec_inj.mp
  apply BitVec.eq_of_toNat_eq
  have f0 : ((0 : Int32) &&& 31) = 0 := by decide
  have f8 : ((8 : Int32) &&& 31) = 8 := by decide
  rw [f0, f8]
  have g : (((lo8 c &&& 255) <<< (0 : Int32)) ||| ((hi8 c &&& 255) <<< (8 : Int32))).toBitVec.toNat = c.toBitVec.toNat := by
    rw [Int32.toBitVec_or, Int32.toBitVec_shiftLeft, Int32.toBitVec_shiftLeft]
    have s0 : ((0 : Int32).toBitVec.smod 32) = 0#32 := by decide
    have s8 : ((8 : Int32).toBitVec.smod 32) = 8#32 := by decide
    rw [s0, s8, BitVec.toNat_or]
    simp only [BitVec.shiftLeft_eq', BitVec.toNat_shiftLeft, a1, a2]
    show (c.toBitVec.toNat % 256) <<< 0 % 2 ^ 32 ||| (c.toBitVec.toNat / 256) <<< 8 % 2 ^ 32 = _
    rw [Nat.shiftLeft_zero, Nat.mod_eq_of_lt (show c.toBitVec.toNat % 256 < 2 ^ 32 by omega), Nat.mod_eq_of_lt (show (c.toBitVec.toNat / 256) <<< 8 < 2 ^ 32 by rw [Nat.shiftLeft_eq]; omega), Nat.or_comm, ← Nat.shiftLeft_add_eq_or_of_lt (by omega), Nat.shiftLeft_eq]
    omega
  show BitVec.toNat (((((lo8 c &&& 255) <<< (0 : Int32)) ||| ((hi8 c &&& 255) <<< (8 : Int32))).toBitVec.setWidth 16).setWidth 32) = _
  rw [BitVec.toNat_setWidth, BitVec.toNat_setWidth, g]
  omega
end StrChars
namespace StrChars
open Jvm Sem ClassFile Op Lib Jvm.Stand Jvm.Free.XT Jvm.Free.ALB Jvm.Free.JM Jvm.Free
open Jvm.Lib.Cold (StaticIs)
theorem shr1 {n : Nat} (h : 2 * n < 2 ^ 31) : Int32.ofNat (2 * n) >>> ((1 : Int32) &&& 31) = Int32.ofNat n := by
  have e : ((1 : Int32) &&& 31) = 1 := by decide
  rw [e]
  apply Int32.toBitVec_inj.mp
  rw [Int32.toBitVec_shiftRight]
  have e1 : ((1 : Int32).toBitVec.smod 32) = 1#32 := by decide
  have hm : (BitVec.ofNat 32 (2 * n)).toNat = 2 * n := by rw [BitVec.toNat_ofNat, Nat.mod_eq_of_lt (by omega)]
  rw [e1, BitVec.sshiftRight_eq']
  apply BitVec.eq_of_toNat_eq
  show ((BitVec.ofNat 32 (2 * n)).sshiftRight 1).toNat = (BitVec.ofNat 32 n).toNat
  rw [BitVec.toNat_sshiftRight_of_msb_false (by rw [BitVec.msb_eq_false_iff_two_mul_lt, hm]; omega), hm, BitVec.toNat_ofNat, Nat.shiftRight_eq_div_pow]
  omega
/-- charAt's cast of a byte read back -/
def chr8 (u : Int32) : Int32 := (u &&& 255).toUInt32.toUInt16.toUInt32.toInt32
theorem chr8_lo8 {c : Int32} (h0 : ¬ c < 0) (h1 : ¬ 255 < c) : chr8 (lo8 c) = c := by
  have t : ∀ k : Fin 256, (Int32.ofNat k.val).toUInt32.toUInt16.toUInt32.toInt32 = Int32.ofNat k.val := by decide +kernel
  unfold chr8
  rw [lo8_mask h0 h1]
  rw [Int32.lt_iff_toInt_lt] at h0 h1
  have e0 : (0 : Int32).toInt = 0 := rfl
  have e1 : (255 : Int32).toInt = 255 := rfl
  obtain ⟨k, hk⟩ : ∃ k : Nat, c.toInt = k := ⟨c.toInt.toNat, by omega⟩
  have hx : c = Int32.ofNat k := Int32.toInt_inj.mp (by rw [hk, Int32.toInt_ofNat_small (by omega)])
  rw [hx]
  exact t ⟨k, by omega⟩
theorem narrow_ch {c : Int32} (h0 : ¬ c < 0) (h1 : ¬ 65535 < c) : narrow .char (.int c) = .int c := by
  have q : narrow .char (.int (pairCh (lo8 c) (hi8 c))) = .int (pairCh (lo8 c) (hi8 c)) := narrow_c _
  rwa [pair_says h0 h1] at q
/-- the array's cell V codes the n chars f 0 .. f (n - 1) by the coder cd, as the JDK does: coder 1 just where some char is above 255 -/
def Cod (cd : Int32) (n : Nat) (f : Nat → Int32) (V : Cell) : Prop := (cd = 0 ∧ V.slots.size = n ∧ ∀ j, j < n → V.slots[j]? = some (.int (lo8 (f j))) ∧ ¬ 255 < f j) ∨ (cd = 1 ∧ V.slots.size = 2 * n ∧ (∀ j, j < n → V.slots[2 * j]? = some (.int (lo8 (f j))) ∧ V.slots[2 * j + 1]? = some (.int (hi8 (f j)))) ∧ ∃ j, j < n ∧ 255 < f j)
theorem Cod.cd {cd : Int32} {n : Nat} {f : Nat → Int32} {V : Cell} (h : Cod cd n f V) : cd = 0 ∨ cd = 1 := h.imp (fun q => q.1) fun q => q.1
theorem Cod.len {cd : Int32} {n : Nat} {f : Nat → Int32} {V : Cell} (h : Cod cd n f V) (hs : V.slots.size < 2 ^ 31) : Int32.ofNat V.slots.size >>> (cd &&& 31) = Int32.ofNat n := by
  rcases h with ⟨rfl, h, -⟩ | ⟨rfl, h, -⟩
  · rw [shr0, h]
  · rw [h, shr1 (by omega)]
/-- **x is a String of the n chars f 0 .. f (n - 1)**, Latin-1 or UTF-16; its array at t has the cell V -/
def Txt (x t : Addr) (V : Cell) (cd : Int32) (n : Nat) (f : Nat → Int32) (U : State) : Prop := Exact "java/lang/String" x U ∧ Has x "java/lang/String" "value" "[B" (.ref t) U ∧ Has x "java/lang/String" "coder" "B" (.int cd) U ∧ XT.Arr .byte t V U ∧ Cod cd n f V ∧ ∀ j, j < n → ¬ f j < 0 ∧ ¬ 65535 < f j
theorem Txt.mv {x t : Addr} {V : Cell} {cd : Int32} {n : Nat} {f : Nat → Int32} {U U' : State} (h : Txt x t V cd n f U) (hal : U.vm.Alike U'.vm) (hh : U'.heap = U.heap) : Txt x t V cd n f U' := ⟨h.1.mv hal hh, h.2.1.mv hal hh, h.2.2.1.mv hal hh, h.2.2.2.1.mv hal hh, h.2.2.2.2⟩
namespace Cdr
def yN : MethodName := ⟨"java/lang/String", "coder", "()B"⟩
abbrev yB : ByteArray := jdk_42_method_152_code
theorem d0 : decode yB 0 = .ok (.getstatic 38, 3) := by decide +kernel
theorem d3 : decode yB 3 = .ok (.ifCond (.eq) 10, 3) := by decide +kernel
theorem d6 : decode yB 6 = .ok (.aload_n 0, 1) := by decide +kernel
theorem d7 : decode yB 7 = .ok (.getfield 15, 3) := by decide +kernel
theorem d10 : decode yB 10 = .ok (.goto 4, 3) := by decide +kernel
theorem d14 : decode yB 14 = .ok (.ireturn, 1) := by decide +kernel
def site : List Cond := [.fieldLink "java/lang/String" 38 "java/lang/String" "COMPACT_STRINGS" "Z", .fieldLink "java/lang/String" 15 "java/lang/String" "coder" "B"]
def tab : Cond := tabOf yN yB 1 (some .byte) site
def P (x : Addr) (cd z : Int32) (args : Array Value) (s : State) : Prop := args = #[.ref x] ∧ Has x "java/lang/String" "coder" "B" (.int cd) s ∧ (cd = 0 ∨ cd = 1) ∧ StaticIs s "java/lang/String" "COMPACT_STRINGS" "Z" (.int z) ∧ ¬ z = 0
def E (cd : Int32) (r : Option Value) (s u : State) : Prop := XT.PureE (some (.int cd)) r s u
theorem law (l : Launch) (x : Addr) (cd z : Int32) : Law l yN 1 0 0 0 yB 1 (some .byte) site (P x cd z) (E cd) [] 0 0 := by
  refine Law.of_walk (plainFor_of_name (by decide +kernel)) (by decide +kernel) (by decide +kernel) (by decide) (fun _ _ h => by rw [h.1]; rfl) (fun _ U U' hal hh h => ⟨h.1, h.2.1.mv hal hh, h.2.2.1, h.2.2.2.1.there hal hh, h.2.2.2.2⟩) (fun r U U' V V' h1 hal h2 h => XT.PureE.mv r U U' V V' h1 hal h2 h) ?_
  intro p e s m args below meth c s₁ X0 hexec hbytes hml hret hlk hnm hown hh0 W hP
  obtain ⟨rfl, hx, hc, s1, hz⟩ := hP
  have c1 : Steps p.tables e below (s₁.setTop (entryFrame m #[.ref x] 1)) (s₁.setTop (mkF m 0 #[.val (.ref x)] [])) := entry rfl
  obtain ⟨T2, X2, q2, st2⟩ := X0.sget hexec hown (wk W (.fieldLink "java/lang/String" 38 "java/lang/String" "COMPACT_STRINGS" "Z")) s1 (fun _ _ h => by rw [hh0]; exact h) (g := (mkF m 0 #[.val (.ref x)] [])) rfl (hb hbytes d0)
  have hh2 := q2.trans hh0
  have c3 : Steps p.tables e below (s₁.setTop (entryFrame m #[.ref x] 1)) (T2.setTop (mkF m 7 #[.val (.ref x)] [.ref x])) := (c1.trans (st2 _ (Steps.refl _))).trans (by
    refine XS.ifNo X2.here hexec rfl (hb hbytes d3) rfl (i0_eq_f hz) ?_
    refine XS.aloadN X2.here hexec rfl (hb hbytes d6) rfl rfl ?_
    exact Steps.refl _)
  obtain ⟨T4, X4, q4, st4⟩ := X2.hget hexec hown (wk W (.fieldLink "java/lang/String" 15 "java/lang/String" "coder" "B")) (hx.mv X2.warmed.alike hh2) (g := (mkF m 7 #[.val (.ref x)] [.ref x])) rfl (rest := []) rfl (hb hbytes d7)
  have c5 : Steps p.tables e below (s₁.setTop (entryFrame m #[.ref x] 1)) (T4.setTop (mkF m 14 #[.val (.ref x)] [.int cd])) := (c3.trans (st4 _ (Steps.refl _))).trans (by
    refine XS.goto X4.here hexec rfl (pc0 := 10) rfl (hb hbytes d10) (by decide) rfl ?_
    exact Steps.refl _)
  exact ⟨T4, some (.int cd), _, _, _, X4, rfl, rfl, rfl, (fun h => by cases h), ⟨rfl, q4.trans hh2⟩, fun fs hl => c5.trans (X4.ireturnOut hexec hret (by rcases hc with rfl | rfl <;> rfl) (Or.inr (Or.inr (Or.inl rfl))) (hb hbytes d14) hl)⟩
end Cdr
namespace Len
def yN : MethodName := ⟨"java/lang/String", "length", "()I"⟩
abbrev yB : ByteArray := jdk_42_method_54_code
theorem d0 : decode yB 0 = .ok (.aload_n 0, 1) := by decide +kernel
theorem d1 : decode yB 1 = .ok (.getfield 9, 3) := by decide +kernel
theorem d4 : decode yB 4 = .ok (.arraylength, 1) := by decide +kernel
theorem d5 : decode yB 5 = .ok (.aload_n 0, 1) := by decide +kernel
theorem d6 : decode yB 6 = .ok (.invokevirtual 335, 3) := by decide +kernel
theorem d9 : decode yB 9 = .ok (.ishr, 1) := by decide +kernel
theorem d10 : decode yB 10 = .ok (.ireturn, 1) := by decide +kernel
def site : List Cond := [.fieldLink "java/lang/String" 9 "java/lang/String" "value" "[B", Cdr.tab] ++ virtW "java/lang/String" 335 "java/lang/String" Cdr.yN Cdr.yN
def tab : Cond := tabOf yN yB 1 (some .int) site
def P (x t : Addr) (V : Cell) (cd : Int32) (n : Nat) (f : Nat → Int32) (z : Int32) (args : Array Value) (s : State) : Prop := args = #[.ref x] ∧ Txt x t V cd n f s ∧ StaticIs s "java/lang/String" "COMPACT_STRINGS" "Z" (.int z) ∧ ¬ z = 0
def E (n : Nat) (r : Option Value) (s u : State) : Prop := XT.PureE (some (.int (Int32.ofNat n))) r s u
/-- length() of a String of n chars, in either coding -/
theorem law (l : Launch) (x t : Addr) (V : Cell) (cd : Int32) (n : Nat) (f : Nat → Int32) (z : Int32) : Law l yN 1 0 1 13 yB 1 (some .int) site (P x t V cd n f z) (E n) [] 0 0 := by
  refine Law.of_walk (plainFor_of_name (by decide +kernel)) (by decide +kernel) (by decide +kernel) (by decide) (fun _ _ h => by rw [h.1]; rfl) (fun _ U U' hal hh h => ⟨h.1, h.2.1.mv hal hh, h.2.2.1.there hal hh, h.2.2.2⟩) (fun r U U' V V' h1 hal h2 h => XT.PureE.mv r U U' V V' h1 hal h2 h) ?_
  intro p e s m args below meth c s₁ X0 hexec hbytes hml hret hlk hnm hown hh0 W hP
  obtain ⟨rfl, hx, s1, hz⟩ := hP
  have v31 := hx.2.2.2.1.2.2.2
  have c1 : Steps p.tables e below (s₁.setTop (entryFrame m #[.ref x] 1)) (s₁.setTop (mkF m 1 #[.val (.ref x)] [.ref x])) := Steps.trans (entry rfl) (by
    show Steps p.tables e below (s₁.setTop (mkF m 0 #[.val (.ref x)] [])) _
    refine XS.aloadN X0.here hexec rfl (hb hbytes d0) rfl rfl ?_
    exact Steps.refl _)
  obtain ⟨T2, X2, q2, st2⟩ := X0.hget hexec hown (wk W (.fieldLink "java/lang/String" 9 "java/lang/String" "value" "[B")) (hx.mv X0.warmed.alike hh0).2.1 (g := (mkF m 1 #[.val (.ref x)] [.ref x])) rfl (rest := []) rfl (hb hbytes d1)
  have hh2 := q2.trans hh0
  have hx2 := hx.mv X2.warmed.alike hh2
  have c3 : Steps p.tables e below (s₁.setTop (entryFrame m #[.ref x] 1)) (T2.setTop (mkF m 6 #[.val (.ref x)] [.ref x, .int (Int32.ofNat V.slots.size)])) := (c1.trans (st2 _ (Steps.refl _))).trans (by
    refine X2.alen hexec hx2.2.2.2.1 rfl rfl (hb hbytes d4) ?_
    refine XS.aloadN X2.here hexec rfl (hb hbytes d5) rfl rfl ?_
    exact Steps.refl _)
  obtain ⟨v4, T4, X4, E4, g4⟩ := X2.callV hexec (Cdr.law l x cd z) hown (wks W (virtW "java/lang/String" 335 "java/lang/String" Cdr.yN Cdr.yN)) rfl (by decide) (wk W Cdr.tab) (W := 1) (Nat.le_of_ble_eq_true rfl) (Nat.le_of_ble_eq_true rfl) (Nat.le_refl _) (Nat.le_refl _) (hx2.1.fc X2.warmed.alike) hx2.1.is (g := (mkF m 6 #[.val (.ref x)] [.ref x, .int (Int32.ofNat V.slots.size)])) rfl (by rw [hml]; rfl) c3 (argsL := []) (rest := [.int (Int32.ofNat V.slots.size)]) rfl rfl (by show 2 * 0 + (1 + 0) ≤ _; decide) (hb hbytes d6) (⟨rfl, hx2.2.2.1, hx.2.2.2.2.1.cd, s1.there X2.warmed.alike hh2, hz⟩)
  obtain ⟨rfl, q4⟩ := E4
  have c5 : Steps p.tables e below (s₁.setTop (entryFrame m #[.ref x] 1)) (T4.setTop (mkF m 10 #[.val (.ref x)] [.int (Int32.ofNat V.slots.size >>> (cd &&& 31))])) := Steps.trans g4 (by
    refine ishr X4.here hexec rfl (hb hbytes d9) rfl ?_
    exact Steps.refl _)
  rw [hx.2.2.2.2.1.len v31] at c5
  exact ⟨T4, some (.int (Int32.ofNat n)), _, _, _, X4, rfl, rfl, rfl, (fun h => by cases h), ⟨rfl, q4.trans hh2⟩, fun fs hl => c5.trans (X4.ireturnOut hexec hret rfl (Or.inl rfl) (hb hbytes d10) hl)⟩
theorem pays {l : Launch} {R : Room} {p : Program} {e : Env} {below : List Frame} {s : State} {sargs : Array Value} {len W : Nat} (x t : Addr) (V : Cell) (cd : Int32) (n : Nat) (f : Nat → Int32) (z : Int32) (htab : tab.before sargs s = true) (hfr : 2 ≤ R.frames) (hlo : W + 25 ≤ R.locals) :
    Back l R p e below s sargs yN len W (fun A₁ a₁ => A₁.cells + 0 ≤ R.cells ∧ A₁.slots + 0 ≤ R.slots ∧ P x t V cd n f z a₁ A₁.U) (fun A₁ _ v₁ B₁ => E n v₁ A₁.U B₁.U ∧ B₁.locs = A₁.locs ++ [] ∧ B₁.cells = A₁.cells + 0 ∧ B₁.slots = A₁.slots + 0) :=
  (law l x t V cd n f z).pays htab hfr (by omega)
end Len
namespace IsL
def yN : MethodName := ⟨"java/lang/String", "isLatin1", "()Z"⟩
abbrev yB : ByteArray := jdk_42_method_154_code
theorem d0 : decode yB 0 = .ok (.getstatic 38, 3) := by decide +kernel
theorem d3 : decode yB 3 = .ok (.ifCond (.eq) 14, 3) := by decide +kernel
theorem d6 : decode yB 6 = .ok (.aload_n 0, 1) := by decide +kernel
theorem d7 : decode yB 7 = .ok (.getfield 15, 3) := by decide +kernel
theorem d10 : decode yB 10 = .ok (.ifCond (.ne) 7, 3) := by decide +kernel
theorem d13 : decode yB 13 = .ok (.iconst 1, 1) := by decide +kernel
theorem d14 : decode yB 14 = .ok (.goto 4, 3) := by decide +kernel
theorem d17 : decode yB 17 = .ok (.iconst 0, 1) := by decide +kernel
theorem d18 : decode yB 18 = .ok (.ireturn, 1) := by decide +kernel
def site : List Cond := [.fieldLink "java/lang/String" 38 "java/lang/String" "COMPACT_STRINGS" "Z", .fieldLink "java/lang/String" 15 "java/lang/String" "coder" "B"]
def tab : Cond := tabOf yN yB 1 (some .boolean) site
def P (x : Addr) (cd z : Int32) (args : Array Value) (s : State) : Prop := args = #[.ref x] ∧ Has x "java/lang/String" "coder" "B" (.int cd) s ∧ (cd = 0 ∨ cd = 1) ∧ StaticIs s "java/lang/String" "COMPACT_STRINGS" "Z" (.int z) ∧ ¬ z = 0
def E (cd : Int32) (r : Option Value) (s u : State) : Prop := XT.PureE (some (.int (1 - cd))) r s u
theorem law (l : Launch) (x : Addr) (cd z : Int32) : Law l yN 1 0 0 0 yB 1 (some .boolean) site (P x cd z) (E cd) [] 0 0 := by
  refine Law.of_walk (plainFor_of_name (by decide +kernel)) (by decide +kernel) (by decide +kernel) (by decide) (fun _ _ h => by rw [h.1]; rfl) (fun _ U U' hal hh h => ⟨h.1, h.2.1.mv hal hh, h.2.2.1, h.2.2.2.1.there hal hh, h.2.2.2.2⟩) (fun r U U' V V' h1 hal h2 h => XT.PureE.mv r U U' V V' h1 hal h2 h) ?_
  intro p e s m args below meth c s₁ X0 hexec hbytes hml hret hlk hnm hown hh0 W hP
  obtain ⟨rfl, hx, hc, s1, hz⟩ := hP
  have c1 : Steps p.tables e below (s₁.setTop (entryFrame m #[.ref x] 1)) (s₁.setTop (mkF m 0 #[.val (.ref x)] [])) := entry rfl
  obtain ⟨T2, X2, q2, st2⟩ := X0.sget hexec hown (wk W (.fieldLink "java/lang/String" 38 "java/lang/String" "COMPACT_STRINGS" "Z")) s1 (fun _ _ h => by rw [hh0]; exact h) (g := (mkF m 0 #[.val (.ref x)] [])) rfl (hb hbytes d0)
  have hh2 := q2.trans hh0
  have c3 : Steps p.tables e below (s₁.setTop (entryFrame m #[.ref x] 1)) (T2.setTop (mkF m 7 #[.val (.ref x)] [.ref x])) := (c1.trans (st2 _ (Steps.refl _))).trans (by
    refine XS.ifNo X2.here hexec rfl (hb hbytes d3) rfl (i0_eq_f hz) ?_
    refine XS.aloadN X2.here hexec rfl (hb hbytes d6) rfl rfl ?_
    exact Steps.refl _)
  obtain ⟨T4, X4, q4, st4⟩ := X2.hget hexec hown (wk W (.fieldLink "java/lang/String" 15 "java/lang/String" "coder" "B")) (hx.mv X2.warmed.alike hh2) (g := (mkF m 7 #[.val (.ref x)] [.ref x])) rfl (rest := []) rfl (hb hbytes d7)
  have c5 : Steps p.tables e below (s₁.setTop (entryFrame m #[.ref x] 1)) (T4.setTop (mkF m 10 #[.val (.ref x)] [.int cd])) := c3.trans (st4 _ (Steps.refl _))
  have c6 : Steps p.tables e below (s₁.setTop (entryFrame m #[.ref x] 1)) (T4.setTop (mkF m 18 #[.val (.ref x)] [.int (1 - cd)])) := by
    rcases hc with rfl | rfl
    · exact c5.trans (by
        refine XS.ifNo X4.here hexec rfl (hb hbytes d10) rfl (i0_ne_f rfl) ?_
        refine iconstV X4.here hexec rfl 1 (hb hbytes d13) (by decide) ?_
        refine XS.goto X4.here hexec rfl (pc0 := 14) rfl (hb hbytes d14) (by decide) rfl ?_
        exact Steps.refl _)
    · exact c5.trans (by
        refine XS.ifYes X4.here hexec rfl (pc0 := 10) rfl (hb hbytes d10) rfl (i0_ne_t (by decide)) (by decide) rfl ?_
        refine iconstV X4.here hexec rfl 0 (hb hbytes d17) (by decide) ?_
        exact Steps.refl _)
  exact ⟨T4, some (.int (1 - cd)), _, _, _, X4, rfl, rfl, rfl, (fun h => by cases h), ⟨rfl, q4.trans hh2⟩, fun fs hl => c6.trans (X4.ireturnOut hexec hret (by rcases hc with rfl | rfl <;> rfl) (Or.inr (Or.inl rfl)) (hb hbytes d18) hl)⟩
end IsL
namespace LChA
def yN : MethodName := ⟨"java/lang/StringLatin1", "charAt", "([BI)C"⟩
abbrev yB : ByteArray := jdk_43_method_2_code
theorem d0 : decode yB 0 = .ok (.iload_n 1, 1) := by decide +kernel
theorem d1 : decode yB 1 = .ok (.aload_n 0, 1) := by decide +kernel
theorem d2 : decode yB 2 = .ok (.arraylength, 1) := by decide +kernel
theorem d3 : decode yB 3 = .ok (.invokestatic 9, 3) := by decide +kernel
theorem d6 : decode yB 6 = .ok (.aload_n 0, 1) := by decide +kernel
theorem d7 : decode yB 7 = .ok (.iload_n 1, 1) := by decide +kernel
theorem d8 : decode yB 8 = .ok (.baload, 1) := by decide +kernel
theorem d9 : decode yB 9 = .ok (.sipush 255, 3) := by decide +kernel
theorem d12 : decode yB 12 = .ok (.iand, 1) := by decide +kernel
theorem d13 : decode yB 13 = .ok (.i2c, 1) := by decide +kernel
theorem d14 : decode yB 14 = .ok (.ireturn, 1) := by decide +kernel
def site : List Cond := [JO.Str_checkIndex.tab] ++ staticW "java/lang/StringLatin1" 9 JO.Str_checkIndex.yN
def tab : Cond := tabOf yN yB 2 (some .char) site
def P (t : Addr) (V : Cell) (i : Nat) (u : Int32) (fm : Value) (args : Array Value) (s : State) : Prop := args = #[.ref t, .int (Int32.ofNat i)] ∧ XT.Arr .byte t V s ∧ V.slots[i]? = some (.int u) ∧ (StaticIs s "jdk/internal/util/Preconditions" "SIOOBE_FORMATTER" "Ljava/util/function/BiFunction;" fm ∧ fm.isRef = true)
def E (u : Int32) (r : Option Value) (s w : State) : Prop := XT.PureE (some (.int (chr8 u))) r s w
theorem law (l : Launch) (t : Addr) (V : Cell) (i : Nat) (u : Int32) (fm : Value) : Law l yN 2 2 2 27 yB 2 (some .char) site (P t V i u fm) (E u) [] 0 0 := by
  refine Law.of_walk (plainFor_of_name (by decide +kernel)) (by decide +kernel) (by decide +kernel) (by decide) (fun _ _ h => by rw [h.1]; rfl) (fun _ U U' hal hh h => ⟨h.1, h.2.1.mv hal hh, h.2.2.1, h.2.2.2.1.there hal hh, h.2.2.2.2⟩) (fun r U U' V V' h1 hal h2 h => XT.PureE.mv r U U' V V' h1 hal h2 h) ?_
  intro p e s m args below meth c s₁ X0 hexec hbytes hml hret hlk hnm hown hh0 W hP
  obtain ⟨rfl, hV, hu, s1, rf⟩ := hP
  have v31 := hV.2.2.2
  have hi : i < V.slots.size := (Array.getElem?_eq_some_iff.mp hu).1
  have c1 : Steps p.tables e below (s₁.setTop (entryFrame m #[.ref t, .int (Int32.ofNat i)] 2)) (s₁.setTop (mkF m 0 #[.val (.ref t), .val (.int (Int32.ofNat i))] [])) := entry rfl
  have c2 : Steps p.tables e below (s₁.setTop (entryFrame m #[.ref t, .int (Int32.ofNat i)] 2)) (s₁.setTop (mkF m 3 #[.val (.ref t), .val (.int (Int32.ofNat i))] [.int (Int32.ofNat V.slots.size), .int (Int32.ofNat i)])) := c1.trans (by
    refine XS.iloadN X0.here hexec rfl (hb hbytes d0) rfl ?_
    refine XS.aloadN X0.here hexec rfl (hb hbytes d1) rfl rfl ?_
    refine X0.alen hexec (hV.mv X0.warmed.alike hh0) rfl rfl (hb hbytes d2) ?_
    exact Steps.refl _)
  obtain ⟨v3, T3, X3, E3, g3⟩ := X0.callS hexec (JO.Str_checkIndex.law l (Int32.ofNat i) (Int32.ofNat V.slots.size) fm) hown (wks W (staticW "java/lang/StringLatin1" 9 JO.Str_checkIndex.yN)) (wk W JO.Str_checkIndex.tab) (W := 0) (Nat.le_of_ble_eq_true rfl) (Nat.le_of_ble_eq_true rfl) (Nat.le_refl _) (Nat.le_refl _) (g := (mkF m 3 #[.val (.ref t), .val (.int (Int32.ofNat i))] [.int (Int32.ofNat V.slots.size), .int (Int32.ofNat i)])) rfl (by rw [hml]; rfl) c2 (argsL := [.int (Int32.ofNat i), .int (Int32.ofNat V.slots.size)]) (rest := []) rfl rfl (by show 2 * 0 + 0 ≤ _; decide) (hb hbytes d3) (⟨rfl, rf, s1.there X0.warmed.alike hh0, Int32.ofNat_not_neg (by omega), lt32 v31 hi⟩)
  obtain ⟨rfl, q3⟩ := E3
  have hh3 := q3.trans hh0
  have c4 : Steps p.tables e below (s₁.setTop (entryFrame m #[.ref t, .int (Int32.ofNat i)] 2)) (T3.setTop (mkF m 14 #[.val (.ref t), .val (.int (Int32.ofNat i))] [.int (chr8 u)])) := Steps.trans g3 (by
    refine XS.aloadN X3.here hexec rfl (hb hbytes d6) rfl rfl ?_
    refine XS.iloadN X3.here hexec rfl (hb hbytes d7) rfl ?_
    refine X3.aget hexec (hV.mv X3.warmed.alike hh3) rfl hu rfl rfl (hb hbytes d8) ?_
    refine sipushV X3.here hexec rfl 255 (hb hbytes d9) (by decide) ?_
    refine XS.iand X3.here hexec rfl (hb hbytes d12) rfl ?_
    refine i2c X3.here hexec rfl (hb hbytes d13) rfl ?_
    exact Steps.refl _)
  exact ⟨T3, some (.int (chr8 u)), _, _, _, X3, rfl, rfl, rfl, (fun h => by cases h), ⟨rfl, hh3⟩, fun fs hl => c4.trans (X3.ireturnOut hexec hret (narrow_c _) (Or.inr (Or.inr (Or.inr (Or.inl rfl)))) (hb hbytes d14) hl)⟩
end LChA
end StrChars
namespace StrChars.Road
open Jvm Sem ClassFile Op Lib Jvm.Stand Jvm.Free Jvm.Free.XT
open Jvm.Lib.Cold (StaticIs)
theorem consq {a : Array Value} {s : State} {c : Jvm.Cond} {L : List Jvm.Cond} (h0 : c.before a s = true) (h : ∀ w ∈ L, w.before a s = true) : ∀ w ∈ c :: L, w.before a s = true := fun w hw => (List.mem_cons.mp hw).elim (fun e => e ▸ h0) (h w)
/-- the words of String.length(), either coding -/
abbrev wordsLen : List Jvm.Cond := [.code Len.yN Len.yB 1 (some .int), .initialized ST, .fieldLink ST 9 ST "value" "[B", .fieldLink ST 38 ST "COMPACT_STRINGS" "Z", .fieldLink ST 15 ST "coder" "B", .code Cdr.yN Cdr.yB 1 (some .byte), .methodLink ST 335 Cdr.yN, .declares Cdr.yN, .selects ST Cdr.yN Cdr.yN, .instanceMethod Cdr.yN]
theorem tabLen_of {a : Array Value} {s : State} (h : ∀ w ∈ wordsLen, w.before a s = true) : Len.tab.before a s = true := by
  have hc : Cdr.tab.before a s = true := unparts (wk h (.code Cdr.yN Cdr.yB 1 (some .byte))) (wks h (.initialized Cdr.yN.cls :: Cdr.site))
  have q := consq hc h
  exact unparts (wk q (.code Len.yN Len.yB 1 (some .int))) (wks q (.initialized Len.yN.cls :: Len.site))
theorem movedLen {Z s : State} {a0 args : Array Value} (hZ : Z.Warmed39 s.vm) (hw : ∀ d ∈ wordsLen, d.before a0 Z = true) : ∀ d ∈ wordsLen, d.before args s = true := fun d hd => by
  have q := hw d hd
  have t : ∀ d ∈ wordsLen, d = .arrayClass .byte ∨ (d.onTables && d.keepsFace) = true := by decide +kernel
  rcases t d hd with rfl | t
  · exact RoadKit.mvA hZ q
  · exact RoadKit.mv hZ q t
/-- the bytes of the chars cs, low before high -/
def wideBytes : List Int32 → List Value
  | [] => []
  | c :: cs => .int (lo8 c) :: .int (hi8 c) :: wideBytes cs
theorem wide_lo (d : Value) : ∀ (cs : List Int32) (j : Nat), j < cs.length → (wideBytes cs).getD (2 * j) d = .int (lo8 (cs.getD j 0))
  | [], j, h => absurd h (Nat.not_lt_zero j)
  | c :: cs, 0, _ => rfl
  | c :: cs, j + 1, h => by
    have q := wide_lo d cs j (by simpa using h)
    rw [show 2 * (j + 1) = 2 * j + 1 + 1 from by omega]
    simpa [wideBytes] using q
theorem wide_hi (d : Value) : ∀ (cs : List Int32) (j : Nat), j < cs.length → (wideBytes cs).getD (2 * j + 1) d = .int (hi8 (cs.getD j 0))
  | [], j, h => absurd h (Nat.not_lt_zero j)
  | c :: cs, 0, _ => rfl
  | c :: cs, j + 1, h => by
    have q := wide_hi d cs j (by simpa using h)
    rw [show 2 * (j + 1) + 1 = 2 * j + 1 + 1 + 1 from by omega]
    simpa [wideBytes] using q
theorem low_at (d : Value) (cs : List Int32) (j : Nat) (h : j < cs.length) : (cs.map fun c => Value.int (lo8 c)).getD j d = .int (lo8 (cs.getD j 0)) := by
  simp [List.getD_eq_getElem?_getD, h]
/-- an array of N2 bytes vs codes the chars cs by the coder cd -/
def CodA (cs : List Int32) (cd N2 : Int32) (vs : List Value) : Prop := (cd = 0 ∧ N2 = Int32.ofNat cs.length ∧ vs = (cs.map fun c => Value.int (lo8 c)) ∧ ∀ c ∈ cs, ¬ 255 < c) ∨ (cd = 1 ∧ N2 = Int32.ofNat (2 * cs.length) ∧ vs = wideBytes cs ∧ ∃ c ∈ cs, 255 < c)
theorem CodA.cod {cs : List Int32} {cd N2 : Int32} {vs : List Value} {V : Cell} (h : CodA cs cd N2 vs) (hn : 2 * cs.length < 2 ^ 31) (hs : V.slots.size = N2.toNatClampNeg) (hv : RoadKit.Has V vs (.int 0)) : Cod cd cs.length (fun j => cs.getD j 0) V := by
  rcases h with ⟨rfl, rfl, rfl, h⟩ | ⟨rfl, rfl, rfl, c, hc, hw⟩
  · rw [n32 (by omega)] at hs
    exact Or.inl ⟨rfl, hs, fun j hj => ⟨by rw [hv j (by omega), low_at _ _ _ hj], by
      have e : cs.getD j 0 = cs[j] := by simp [List.getD_eq_getElem?_getD, hj]
      show ¬ 255 < cs.getD j 0
      rw [e]; exact h _ (List.getElem_mem _)⟩⟩
  · rw [n32 (by omega)] at hs
    obtain ⟨j, hj, rfl⟩ := List.getElem_of_mem hc
    exact Or.inr ⟨rfl, hs, fun j hj => ⟨by rw [hv _ (by omega), wide_lo _ _ _ hj], by rw [hv _ (by omega), wide_hi _ _ _ hj]⟩, j, hj, by
      have e : cs.getD j 0 = cs[j] := by simp [List.getD_eq_getElem?_getD, hj]
      show 255 < cs.getD j 0
      rw [e]; exact hw⟩
/-- an object of exactly java/lang/String, its two fields found: as the laws ask it -/
theorem strObj {Z U : State} {a0 : Array Value} {kI : Nat} (wi : (Jvm.Cond.instantiable ST kI).before a0 Z = true) (al : Z.vm.Alike U.vm) {x : Addr} {v0 c0 : Value} (E : RoadKit.Exa Z U.heap x ST) (V : RoadKit.Fld Z U.heap x ST "value" "[B" v0) (C : RoadKit.Fld Z U.heap x ST "coder" "B" c0) :
    ∃ (D : Cell) (fV fC : Field), Blank ST x D U ∧ Found ST "value" "[B" fV U ∧ Found ST "coder" "B" fC U ∧ D.slots[fV.slot]? = some v0 ∧ D.slots[fC.slot]? = some c0 ∧ RoadKit.slotOf Z ST "value" "[B" = fV.slot ∧ RoadKit.slotOf Z ST "coder" "B" = fC.slot := by
  obtain ⟨D, cfV, kV, iV, fV, hD, gV, stV, knV, obV, asV, slV⟩ := V
  obtain ⟨D', cfC, kC, iC, fC, hD', gC, stC, -, -, asC, slC⟩ := C
  cases hD.symm.trans hD'
  obtain ⟨D2, kD, e1, e2, e3, e4, e5⟩ := E
  cases hD.symm.trans e1
  obtain ⟨c2, k2, i1, i2, i3, -⟩ := Cond.instantiable_spec wi
  cases e2.symm.trans i1
  cases e3.symm.trans i2
  obtain ⟨kU, u1, u2⟩ := al.2.2 _ _ e3
  exact ⟨D, fV, fC, ⟨hD, ⟨knV, fun q hq => by rw [hq] at obV; cases obV⟩, by rw [al.findClass]; exact e2, kU, u1, by rw [u2]; exact i3, by rw [u2]; exact e5 i3⟩, ⟨SBG.found_only al ⟨cfV, kV, iV, gV⟩, stV⟩, ⟨SBG.found_only al ⟨cfC, kC, iC, gC⟩, stC⟩, slV, slC, by simp [RoadKit.slotOf, gV], by simp [RoadKit.slotOf, gC]⟩
theorem sta_is {Z U : State} (al : Z.vm.Alike U.vm) {C n d : String} {v : Value} (S : RoadKit.Sta Z U.heap C n d v) : StaticIs U C n d v := by
  obtain ⟨cfS, iS, kS, fS, st, cS, t1, t2, t3, t4, t5, t6, t7⟩ := S
  exact StaticIs.there (s := { Z with heap := U.heap }) ⟨cfS, iS, kS, fS, st, cS, t1, t2, t3, t4, t5, (fun q => by rw [q] at t6; cases t6), t7⟩ al rfl
/-- **length() OF SUCH A STRING** -/
theorem lenW {p : Program} {l : Launch} {e : Env} {R : Room} {s : State} {args : Array Value} {below : List Frame} {len W : Nat} {Z : State} {a0 : Array Value} {h : Heap} (hZ : Z.Warmed39 s.vm) (hw : ∀ d ∈ wordsLen, d.before a0 Z = true) {kI : Nat} (wi : (Jvm.Cond.instantiable ST kI).before a0 Z = true)
    {x t : Addr} {kb : ClassId} {cs : List Int32} {cd N2 z : Int32} {vs : List Value} (E : RoadKit.Exa Z h x ST) (V : RoadKit.Fld Z h x ST "value" "[B" (.ref t)) (C : RoadKit.Fld Z h x ST "coder" "B" (.int cd)) (K : RoadKit.Arv Z h t kb .byte N2 vs (.int 0)) (hc : CodA cs cd N2 vs) (hb : ∀ c ∈ cs, ¬ c < 0 ∧ ¬ (65535 : Int32) < c)
    (S : RoadKit.Sta Z h ST "COMPACT_STRINGS" "Z" (.int z)) (hz : ¬ z = 0) (l2 : cs.length ≤ 4000) (hfr : 2 ≤ R.frames) (hlo : W + 25 ≤ R.locals) :
    Back l R p e below s args (⟨"java/lang/String", "length", "()I"⟩ : MethodName) len W (fun P a => a = #[.ref x] ∧ P.U.heap = h ∧ P.cells + 0 ≤ R.cells ∧ P.slots + 0 ≤ R.slots)
      (fun P _ v B => ∃ L, (v = some (.int (Int32.ofNat cs.length)) ∧ L = [] ∧ B.U.heap = h) ∧ B.locs = P.locs ++ L ∧ B.cells = P.cells + 0 ∧ B.slots = P.slots + 0) := by
  obtain ⟨A, K1, K2, K3, K4, K5, K6⟩ := K
  have hcod := hc.cod (by omega) K3 K5
  intro m meth c P g ig mk a X hg hsize hdg hW hn hp'
  obtain ⟨rfl, rfl, r1, r2⟩ := hp'
  have al : Z.vm.Alike P.U.vm := hZ.alike.trans X.warmed.alike
  obtain ⟨D, fV, fC, hB, F1, F2, g1, g2, -, -⟩ := strObj wi al E V C
  have hx : Txt x t A cd cs.length (fun j => cs.getD j 0) P.U := ⟨⟨_, hB.2.2.1, D, hB.1, rfl, by cases q : D.vm <;> first | rfl | exact absurd q (hB.2.1.2 _)⟩, Has.of hB F1 g1, Has.of hB F2 g2, ⟨K1.1, State.isArrayOf_alike al K1.2.1, K1.2.2, by rcases hcod with ⟨-, q, -⟩ | ⟨-, q, -⟩ <;> omega⟩, hcod, fun j hj => by
    have e : cs.getD j 0 = cs[j] := by simp [List.getD_eq_getElem?_getD, hj]
    show ¬ cs.getD j 0 < 0 ∧ ¬ 65535 < cs.getD j 0
    rw [e]; exact hb _ (List.getElem_mem _)⟩
  obtain ⟨v, B, X', ⟨⟨hv, hh⟩, hl, hk, hs⟩, st⟩ := Len.pays x t A cd cs.length (fun j => cs.getD j 0) z (tabLen_of (movedLen hZ hw)) hfr hlo m meth c P g ig mk _ X hg hsize hdg hW hn ⟨r1, r2, rfl, hx, sta_is al S, hz⟩
  exact ⟨v, B, X', ⟨[], ⟨hv, rfl, hh⟩, hl, hk, hs⟩, st⟩
end StrChars.Road
namespace StrChars
open Jvm Sem ClassFile Op Lib Jvm.Stand Jvm.Free.XT Jvm.Free.ALB Jvm.Free.JM Jvm.Free
open Jvm.Lib.Cold (StaticIs)
/-- what place i of a byte[]'s cell holds -/
def yv (A : Cell) (i : Nat) : Int32 := match A.slots[i]? with | some (.int x) => x | _ => 0
theorem yv_get {a : Addr} {A : Cell} {U : State} (h : XT.Arr .byte a A U) (ht : Typed .byte A) {i : Nat} (hi : i < A.slots.size) : A.slots[i]? = some (.int (yv A i)) := by
  have e := Array.getElem?_eq_getElem hi
  have f := ht i _ e
  unfold yv; rw [e]
  generalize A.slots[i] = v at f
  cases v <;> simp [fits] at f ⊢
/-- the two arrays are equal, place for place -/
def EqC (A B : Cell) : Prop := A.slots.size = B.slots.size ∧ ∀ i, i < A.slots.size → yv A i = yv B i
/-- a boolean that says whether p -/
def Says01 (q : Prop) (r : Option Value) (s u : State) : Prop := ∃ v : Int32, r = some (.int v) ∧ u.heap = s.heap ∧ ((v = 1 ∧ q) ∨ (v = 0 ∧ ¬ q))
theorem Says01.mv {q : Prop} : ∀ r (U U' V V' : State), U'.heap = U.heap → V.vm.Alike V'.vm → V'.heap = V.heap → Says01 q r U V → Says01 q r U' V' :=
  fun r U U' V V' h1 _ h2 ⟨v, a, b, c⟩ => ⟨v, a, by rw [h1, h2]; exact b, c⟩
namespace LEq
def yN : MethodName := ⟨"java/lang/StringLatin1", "equals", "([B[B)Z"⟩
abbrev yB : ByteArray := jdk_43_method_13_code
theorem d0 : decode yB 0 = .ok (.aload_n 0, 1) := by decide +kernel
theorem d1 : decode yB 1 = .ok (.arraylength, 1) := by decide +kernel
theorem d2 : decode yB 2 = .ok (.aload_n 1, 1) := by decide +kernel
theorem d3 : decode yB 3 = .ok (.arraylength, 1) := by decide +kernel
theorem d4 : decode yB 4 = .ok (.if_icmp (.ne) 30, 3) := by decide +kernel
theorem d7 : decode yB 7 = .ok (.iconst 0, 1) := by decide +kernel
theorem d8 : decode yB 8 = .ok (.istore_n 2, 1) := by decide +kernel
theorem d9 : decode yB 9 = .ok (.iload_n 2, 1) := by decide +kernel
theorem d10 : decode yB 10 = .ok (.aload_n 0, 1) := by decide +kernel
theorem d11 : decode yB 11 = .ok (.arraylength, 1) := by decide +kernel
theorem d12 : decode yB 12 = .ok (.if_icmp (.ge) 20, 3) := by decide +kernel
theorem d15 : decode yB 15 = .ok (.aload_n 0, 1) := by decide +kernel
theorem d16 : decode yB 16 = .ok (.iload_n 2, 1) := by decide +kernel
theorem d17 : decode yB 17 = .ok (.baload, 1) := by decide +kernel
theorem d18 : decode yB 18 = .ok (.aload_n 1, 1) := by decide +kernel
theorem d19 : decode yB 19 = .ok (.iload_n 2, 1) := by decide +kernel
theorem d20 : decode yB 20 = .ok (.baload, 1) := by decide +kernel
theorem d21 : decode yB 21 = .ok (.if_icmp (.eq) 5, 3) := by decide +kernel
theorem d24 : decode yB 24 = .ok (.iconst 0, 1) := by decide +kernel
theorem d25 : decode yB 25 = .ok (.ireturn, 1) := by decide +kernel
theorem d26 : decode yB 26 = .ok (.iinc 2 1, 3) := by decide +kernel
theorem d29 : decode yB 29 = .ok (.goto (-20), 3) := by decide +kernel
theorem d32 : decode yB 32 = .ok (.iconst 1, 1) := by decide +kernel
theorem d33 : decode yB 33 = .ok (.ireturn, 1) := by decide +kernel
theorem d34 : decode yB 34 = .ok (.iconst 0, 1) := by decide +kernel
theorem d35 : decode yB 35 = .ok (.ireturn, 1) := by decide +kernel
def site : List Cond := []
def tab : Cond := tabOf yN yB 3 (some .boolean) site
def P (a : Addr) (A : Cell) (b : Addr) (B : Cell) (args : Array Value) (s : State) : Prop := args = #[.ref a, .ref b] ∧ XT.Arr .byte a A s ∧ Typed .byte A ∧ XT.Arr .byte b B s ∧ Typed .byte B
/-- whether two byte[] are equal, place for place -/
theorem law (l : Launch) (a : Addr) (A : Cell) (b : Addr) (B : Cell) : Law l yN 2 2 0 0 yB 3 (some .boolean) site (P a A b B) (Says01 (EqC A B)) [] 0 0 := by
  refine Law.of_walk (plainFor_of_name (by decide +kernel)) (by decide +kernel) (by decide +kernel) (by decide) (fun _ _ h => by rw [h.1]; rfl) (fun _ U U' hal hh h => ⟨h.1, h.2.1.mv hal hh, h.2.2.1, h.2.2.2.1.mv hal hh, h.2.2.2.2⟩) (fun r U U' V V' h1 hal h2 h => Says01.mv r U U' V V' h1 hal h2 h) ?_
  intro p e s m args below meth c s₁ X0 hexec hbytes hml hret hlk hnm hown hh0 W hP
  obtain ⟨rfl, hA, tA, hB, tB⟩ := hP
  have a31 := hA.2.2.2
  have b31 := hB.2.2.2
  have hA0 := hA.mv X0.warmed.alike hh0
  have hB0 := hB.mv X0.warmed.alike hh0
  have c1 : Steps p.tables e below (s₁.setTop (entryFrame m #[.ref a, .ref b] 3)) (s₁.setTop (mkF m 0 #[.val (.ref a), .val (.ref b), .unset] [])) := entry rfl
  have c2 : Steps p.tables e below (s₁.setTop (entryFrame m #[.ref a, .ref b] 3)) (s₁.setTop (mkF m 4 #[.val (.ref a), .val (.ref b), .unset] [.int (Int32.ofNat B.slots.size), .int (Int32.ofNat A.slots.size)])) := c1.trans (by
    refine XS.aloadN X0.here hexec rfl (hb hbytes d0) rfl rfl ?_
    refine X0.alen hexec hA0 rfl rfl (hb hbytes d1) ?_
    refine XS.aloadN X0.here hexec rfl (hb hbytes d2) rfl rfl ?_
    refine X0.alen hexec hB0 rfl rfl (hb hbytes d3) ?_
    exact Steps.refl _)
  by_cases hs : A.slots.size = B.slots.size
  · have c3 : Steps p.tables e below (s₁.setTop (entryFrame m #[.ref a, .ref b] 3)) (s₁.setTop (mkF m 9 #[.val (.ref a), .val (.ref b), .val (.int 0)] [])) := c2.trans (by
      refine XS.icmpNo X0.here hexec rfl (hb hbytes d4) rfl (ii_ne_f (by rw [hs])) ?_
      refine iconstV X0.here hexec rfl 0 (hb hbytes d7) (by decide) ?_
      refine XS.istoreN X0.here hexec rfl (hb hbytes d8) rfl rfl ?_
      exact Steps.refl _)
    have loop : ∀ (r i : Nat), i + r = A.slots.size → (∀ j, j < i → yv A j = yv B j) → Steps p.tables e below (s₁.setTop (entryFrame m #[.ref a, .ref b] 3)) (s₁.setTop (mkF m 9 #[.val (.ref a), .val (.ref b), .val (.int (Int32.ofNat i))] [])) → ∃ (pc : Nat) (Ls : Array Slot) (v : Int32), (pc = 25 ∨ pc = 33) ∧ ((v = 1 ∧ EqC A B) ∨ (v = 0 ∧ ¬ EqC A B)) ∧ Steps p.tables e below (s₁.setTop (entryFrame m #[.ref a, .ref b] 3)) (s₁.setTop (mkF m pc Ls [.int v])) := by
      intro r
      induction r with
      | zero =>
        intro i hi he cl
        exact ⟨33, _, 1, Or.inr rfl, Or.inl ⟨rfl, hs, fun j hj => he j (by omega)⟩, cl.trans (by
          refine XS.iloadN X0.here hexec rfl (hb hbytes d9) rfl ?_
          refine XS.aloadN X0.here hexec rfl (hb hbytes d10) rfl rfl ?_
          refine X0.alen hexec hA0 rfl rfl (hb hbytes d11) ?_
          refine XS.icmpYes X0.here hexec rfl (pc0 := 12) rfl (hb hbytes d12) rfl (ii_ge_t (nlt32 (by omega) (by omega))) (by decide) rfl ?_
          refine iconstV X0.here hexec rfl 1 (hb hbytes d32) (by decide) ?_
          exact Steps.refl _)⟩
      | succ r ih =>
        intro i hi he cl
        have c4 : Steps p.tables e below (s₁.setTop (entryFrame m #[.ref a, .ref b] 3)) (s₁.setTop (mkF m 21 #[.val (.ref a), .val (.ref b), .val (.int (Int32.ofNat i))] [.int (yv B i), .int (yv A i)])) := cl.trans (by
          refine XS.iloadN X0.here hexec rfl (hb hbytes d9) rfl ?_
          refine XS.aloadN X0.here hexec rfl (hb hbytes d10) rfl rfl ?_
          refine X0.alen hexec hA0 rfl rfl (hb hbytes d11) ?_
          refine XS.icmpNo X0.here hexec rfl (hb hbytes d12) rfl (ii_ge_f (lt32 (by omega) (by omega))) ?_
          refine XS.aloadN X0.here hexec rfl (hb hbytes d15) rfl rfl ?_
          refine XS.iloadN X0.here hexec rfl (hb hbytes d16) rfl ?_
          refine X0.aget hexec hA0 rfl (yv_get hA tA (i := i) (by omega)) rfl rfl (hb hbytes d17) ?_
          refine XS.aloadN X0.here hexec rfl (hb hbytes d18) rfl rfl ?_
          refine XS.iloadN X0.here hexec rfl (hb hbytes d19) rfl ?_
          refine X0.aget hexec hB0 rfl (yv_get hB tB (i := i) (by omega)) rfl rfl (hb hbytes d20) ?_
          exact Steps.refl _)
        by_cases hv : yv A i = yv B i
        · have c5 : Steps p.tables e below (s₁.setTop (entryFrame m #[.ref a, .ref b] 3)) (s₁.setTop (mkF m 9 #[.val (.ref a), .val (.ref b), .val (.int (Int32.ofNat i + 1))] [])) := c4.trans (by
            refine XS.icmpYes X0.here hexec rfl (pc0 := 21) rfl (hb hbytes d21) rfl (ii_eq_t hv) (by decide) rfl ?_
            refine iincV X0.here hexec rfl 1 (hb hbytes d26) (by decide) rfl rfl ?_
            refine XS.goto X0.here hexec rfl (pc0 := 29) rfl (hb hbytes d29) (by decide) rfl ?_
            exact Steps.refl _)
          rw [succ32] at c5
          exact ih (i + 1) (by omega) (fun j hj => by
            by_cases e : j = i
            · rw [e]; exact hv
            · exact he j (by omega)) c5
        · exact ⟨25, _, 0, Or.inl rfl, Or.inr ⟨rfl, fun q => hv (q.2 i (by omega))⟩, c4.trans (by
            refine XS.icmpNo X0.here hexec rfl (hb hbytes d21) rfl (ii_eq_f hv) ?_
            refine iconstV X0.here hexec rfl 0 (hb hbytes d24) (by decide) ?_
            exact Steps.refl _)⟩
    obtain ⟨pc, Ls, v, hpc, hv, cz⟩ := loop A.slots.size 0 (by omega) (fun j hj => absurd hj (Nat.not_lt_zero j)) c3
    have nv : narrow .boolean (.int v) = .int v := by rcases hv with ⟨rfl, -⟩ | ⟨rfl, -⟩ <;> rfl
    rcases hpc with rfl | rfl
    · exact ⟨s₁, some (.int v), _, _, _, X0, rfl, rfl, rfl, (fun h => by cases h), ⟨v, rfl, hh0, hv⟩, fun fs hl => cz.trans (X0.ireturnOut hexec hret nv (Or.inr (Or.inl rfl)) (hb hbytes d25) hl)⟩
    · exact ⟨s₁, some (.int v), _, _, _, X0, rfl, rfl, rfl, (fun h => by cases h), ⟨v, rfl, hh0, hv⟩, fun fs hl => cz.trans (X0.ireturnOut hexec hret nv (Or.inr (Or.inl rfl)) (hb hbytes d33) hl)⟩
  · have c3 : Steps p.tables e below (s₁.setTop (entryFrame m #[.ref a, .ref b] 3)) (s₁.setTop (mkF m 35 #[.val (.ref a), .val (.ref b), .unset] [.int 0])) := c2.trans (by
      refine XS.icmpYes X0.here hexec rfl (pc0 := 4) rfl (hb hbytes d4) rfl (ii_ne_t (ne32 a31 b31 hs)) (by decide) rfl ?_
      refine iconstV X0.here hexec rfl 0 (hb hbytes d34) (by decide) ?_
      exact Steps.refl _)
    exact ⟨s₁, some (.int 0), _, _, _, X0, rfl, rfl, rfl, (fun h => by cases h), ⟨0, rfl, hh0, Or.inr ⟨rfl, fun q => hs q.1⟩⟩, fun fs hl => c3.trans (X0.ireturnOut hexec hret rfl (Or.inr (Or.inl rfl)) (hb hbytes d35) hl)⟩
end LEq
theorem Cod.ty {cd : Int32} {n : Nat} {f : Nat → Int32} {V : Cell} (h : Cod cd n f V) : Typed .byte V := fun i v hv => by
  have hi : i < V.slots.size := (Array.getElem?_eq_some_iff.mp hv).1
  rcases h with ⟨-, k1, k2⟩ | ⟨-, k1, k2, -⟩
  · rw [(k2 i (by omega)).1] at hv; cases hv; exact fits_lo8 _
  · rcases Nat.mod_two_eq_zero_or_one i with e | e
    · obtain ⟨j, rfl⟩ : ∃ j, i = 2 * j := ⟨i / 2, by omega⟩
      rw [(k2 j (by omega)).1] at hv; cases hv; exact fits_lo8 _
    · obtain ⟨j, rfl⟩ : ∃ j, i = 2 * j + 1 := ⟨i / 2, by omega⟩
      rw [(k2 j (by omega)).2] at hv; cases hv; exact fits_lo8 _
/-- the same text -/
def SameT (n : Nat) (f : Nat → Int32) (k : Nat) (g : Nat → Int32) : Prop := n = k ∧ ∀ j, j < n → f j = g j
theorem lo8_inj {x y : Int32} (h0 : ¬ x < 0) (h1 : ¬ 255 < x) (k0 : ¬ y < 0) (k1 : ¬ 255 < y) (h : lo8 x = lo8 y) : x = y := by
  rw [← lo8_mask h0 h1, ← lo8_mask k0 k1, h]
/-- arrays coded by one coder are equal just where the texts are -/
theorem Cod.eqv {cd : Int32} {n k : Nat} {f g : Nat → Int32} {V V' : Cell} (h : Cod cd n f V) (h' : Cod cd k g V') (hf : ∀ j, j < n → ¬ f j < 0 ∧ ¬ 65535 < f j) (hg : ∀ j, j < k → ¬ g j < 0 ∧ ¬ 65535 < g j) : EqC V V' ↔ SameT n f k g := by
  have yvv : ∀ {W : Cell} {i : Nat} {x : Int32}, W.slots[i]? = some (.int x) → yv W i = x := fun q => by unfold yv; rw [q]
  rcases h with ⟨rfl, k1, k2⟩ | ⟨rfl, k1, k2, -⟩
  · rcases h' with ⟨-, m1, m2⟩ | ⟨e, -⟩
    · constructor
      · rintro ⟨e1, e2⟩
        refine ⟨by omega, fun j hj => ?_⟩
        have q := e2 j (by omega)
        rw [yvv (k2 j hj).1, yvv (m2 j (by omega)).1] at q
        exact lo8_inj (hf j hj).1 (k2 j hj).2 (hg j (by omega)).1 (m2 j (by omega)).2 q
      · rintro ⟨rfl, e2⟩
        refine ⟨by omega, fun j hj => ?_⟩
        rw [yvv (k2 j (by omega)).1, yvv (m2 j (by omega)).1, e2 j (by omega)]
    · exact absurd e (by decide)
  · rcases h' with ⟨e, -⟩ | ⟨-, m1, m2, -⟩
    · exact absurd e (by decide)
    · constructor
      · rintro ⟨e1, e2⟩
        refine ⟨by omega, fun j hj => ?_⟩
        have q1 := e2 (2 * j) (by omega)
        have q2 := e2 (2 * j + 1) (by omega)
        rw [yvv (k2 j hj).1, yvv (m2 j (by omega)).1] at q1
        rw [yvv (k2 j hj).2, yvv (m2 j (by omega)).2] at q2
        rw [← pair_says (hf j hj).1 (hf j hj).2, ← pair_says (hg j (by omega)).1 (hg j (by omega)).2, q1, q2]
      · rintro ⟨rfl, e2⟩
        refine ⟨by omega, fun i hi => ?_⟩
        rcases Nat.mod_two_eq_zero_or_one i with e | e
        · obtain ⟨j, rfl⟩ : ∃ j, i = 2 * j := ⟨i / 2, by omega⟩
          rw [yvv (k2 j (by omega)).1, yvv (m2 j (by omega)).1, e2 j (by omega)]
        · obtain ⟨j, rfl⟩ : ∃ j, i = 2 * j + 1 := ⟨i / 2, by omega⟩
          rw [yvv (k2 j (by omega)).2, yvv (m2 j (by omega)).2, e2 j (by omega)]
/-- two codings differ: so do the texts -/
theorem Cod.dif {cd cd' : Int32} {n k : Nat} {f g : Nat → Int32} {V V' : Cell} (h : Cod cd n f V) (h' : Cod cd' k g V') (hne : ¬ cd = cd') : ¬ SameT n f k g := by
  rintro ⟨rfl, e⟩
  rcases h with ⟨rfl, -, k2⟩ | ⟨rfl, -, -, j, hj, hw⟩
  · rcases h' with ⟨rfl, -⟩ | ⟨-, -, -, j, hj, hw⟩
    · exact hne rfl
    · exact (k2 j hj).2 (by rw [e j hj]; exact hw)
  · rcases h' with ⟨-, -, m2⟩ | ⟨rfl, -⟩
    · exact (m2 j hj).2 (by rw [← e j hj]; exact hw)
    · exact hne rfl
/-- an object of exactly C is an instance of C -/
theorem cinst {p : Program} {l : Launch} {e : Env} {R : Room} {s : State} {m : MethodId} {args : Array Value} {below : List Frame} {meth : Method} {c : Code} {T : State} {locs : List Loc} {cells slots : Nat} (X : Stand p l e R s m args below meth c T locs cells slots) (hexec : p.tables.exec = Jvm.exec) {own C : String} {index : Nat} (hown : s.vm.findClass own = some m.cls) (hlink : (Cond.classLink own index C).before args s = true) {a : Addr} (hE : Exact C a T)
    {g : JFrame} (hg : g.method = m) {rest : List Value} (hstack : g.stack = .ref a :: rest) (hdg : decode c.code g.pc = .ok (.instanceof index, 3)) :
    ∃ T', Stand p l e R s m args below meth c T' locs cells slots ∧ T'.heap = T.heap ∧ ∀ target, Steps p.tables e below (T'.setTop { g with pc := g.pc + 3, stack := .int 1 :: rest }) target → Steps p.tables e below (T.setTop g) target := by
  obtain ⟨cB, h1, D, h2, h3, h4⟩ := hE
  have h1' : s.vm.findClass C = some cB := by rw [← X.warmed.alike.findClass]; exact h1
  obtain ⟨vm', X', st⟩ := X.instanceofYes hexec hown hlink h2 h4 h1' (by rw [h3]; exact Jvm.Free.SB.assignable_self _ _) hg hstack hdg
  exact ⟨_, X', rfl, st⟩
theorem cself {p : Program} {l : Launch} {e : Env} {R : Room} {s : State} {m : MethodId} {args : Array Value} {below : List Frame} {meth : Method} {c : Code} {T : State} {locs : List Loc} {cells slots : Nat} (X : Stand p l e R s m args below meth c T locs cells slots) (hexec : p.tables.exec = Jvm.exec) {own C : String} {index : Nat} (hown : s.vm.findClass own = some m.cls) (hlink : (Cond.classLink own index C).before args s = true) {a : Addr} (hE : Exact C a T)
    {g : JFrame} (hg : g.method = m) {rest : List Value} (hstack : g.stack = .ref a :: rest) (hdg : decode c.code g.pc = .ok (.checkcast index, 3)) :
    ∃ T', Stand p l e R s m args below meth c T' locs cells slots ∧ T'.heap = T.heap ∧ ∀ target, Steps p.tables e below (T'.setTop { g with pc := g.pc + 3, stack := .ref a :: rest }) target → Steps p.tables e below (T.setTop g) target := by
  obtain ⟨cB, h1, D, h2, h3, h4⟩ := hE
  have h1' : s.vm.findClass C = some cB := by rw [← X.warmed.alike.findClass]; exact h1
  obtain ⟨vm', X', st⟩ := X.checkcastYes hexec hown hlink h2 h4 h1' (by rw [h3]; exact Jvm.Free.SB.assignable_self _ _) hg hstack hdg
  exact ⟨_, X', rfl, fun t h => st t (by rw [← hstack] at h; exact h)⟩
namespace SEq
def yN : MethodName := ⟨"java/lang/String", "equals", "(Ljava/lang/Object;)Z"⟩
abbrev yB : ByteArray := jdk_42_method_66_code
theorem d0 : decode yB 0 = .ok (.aload_n 0, 1) := by decide +kernel
theorem d1 : decode yB 1 = .ok (.aload_n 1, 1) := by decide +kernel
theorem d2 : decode yB 2 = .ok (.if_acmp (.ne) 5, 3) := by decide +kernel
theorem d5 : decode yB 5 = .ok (.iconst 1, 1) := by decide +kernel
theorem d6 : decode yB 6 = .ok (.ireturn, 1) := by decide +kernel
theorem d7 : decode yB 7 = .ok (.aload_n 1, 1) := by decide +kernel
theorem d8 : decode yB 8 = .ok (.instanceof 10, 3) := by decide +kernel
theorem d11 : decode yB 11 = .ok (.ifCond (.eq) 43, 3) := by decide +kernel
theorem d14 : decode yB 14 = .ok (.aload_n 1, 1) := by decide +kernel
theorem d15 : decode yB 15 = .ok (.checkcast 10, 3) := by decide +kernel
theorem d18 : decode yB 18 = .ok (.astore_n 2, 1) := by decide +kernel
theorem d19 : decode yB 19 = .ok (.getstatic 38, 3) := by decide +kernel
theorem d22 : decode yB 22 = .ok (.ifCond (.eq) 14, 3) := by decide +kernel
theorem d25 : decode yB 25 = .ok (.aload_n 0, 1) := by decide +kernel
theorem d26 : decode yB 26 = .ok (.getfield 15, 3) := by decide +kernel
theorem d29 : decode yB 29 = .ok (.aload_n 2, 1) := by decide +kernel
theorem d30 : decode yB 30 = .ok (.getfield 15, 3) := by decide +kernel
theorem d33 : decode yB 33 = .ok (.if_icmp (.ne) 21, 3) := by decide +kernel
theorem d36 : decode yB 36 = .ok (.aload_n 0, 1) := by decide +kernel
theorem d37 : decode yB 37 = .ok (.getfield 9, 3) := by decide +kernel
theorem d40 : decode yB 40 = .ok (.aload_n 2, 1) := by decide +kernel
theorem d41 : decode yB 41 = .ok (.getfield 9, 3) := by decide +kernel
theorem d44 : decode yB 44 = .ok (.invokestatic 541, 3) := by decide +kernel
theorem d47 : decode yB 47 = .ok (.ifCond (.eq) 7, 3) := by decide +kernel
theorem d50 : decode yB 50 = .ok (.iconst 1, 1) := by decide +kernel
theorem d51 : decode yB 51 = .ok (.goto 4, 3) := by decide +kernel
theorem d54 : decode yB 54 = .ok (.iconst 0, 1) := by decide +kernel
theorem d55 : decode yB 55 = .ok (.ireturn, 1) := by decide +kernel
def site : List Cond := [.classLink "java/lang/String" 10 "java/lang/String", .fieldLink "java/lang/String" 38 "java/lang/String" "COMPACT_STRINGS" "Z", .fieldLink "java/lang/String" 15 "java/lang/String" "coder" "B", .fieldLink "java/lang/String" 9 "java/lang/String" "value" "[B", LEq.tab] ++ staticW "java/lang/String" 541 LEq.yN
def tab : Cond := tabOf yN yB 3 (some .boolean) site
def P (x t : Addr) (V : Cell) (cd : Int32) (n : Nat) (f : Nat → Int32) (y t' : Addr) (V' : Cell) (cd' : Int32) (k : Nat) (g : Nat → Int32) (z : Int32) (args : Array Value) (s : State) : Prop := args = #[.ref x, .ref y] ∧ Txt x t V cd n f s ∧ Txt y t' V' cd' k g s ∧ StaticIs s "java/lang/String" "COMPACT_STRINGS" "Z" (.int z) ∧ ¬ z = 0
/-- equals(Object) of two Strings: whether the texts are the same -/
theorem law (l : Launch) (x t : Addr) (V : Cell) (cd : Int32) (n : Nat) (f : Nat → Int32) (y t' : Addr) (V' : Cell) (cd' : Int32) (k : Nat) (g : Nat → Int32) (z : Int32) : Law l yN 2 1 1 14 yB 3 (some .boolean) site (P x t V cd n f y t' V' cd' k g z) (Says01 (SameT n f k g)) [] 0 0 := by
  refine Law.of_walk (plainFor_of_name (by decide +kernel)) (by decide +kernel) (by decide +kernel) (by decide) (fun _ _ h => by rw [h.1]; rfl) (fun _ U U' hal hh h => ⟨h.1, h.2.1.mv hal hh, h.2.2.1.mv hal hh, h.2.2.2.1.there hal hh, h.2.2.2.2⟩) (fun r U U' V V' h1 hal h2 h => Says01.mv r U U' V V' h1 hal h2 h) ?_
  intro p e s m args below meth c s₁ X0 hexec hbytes hml hret hlk hnm hown hh0 W hP
  obtain ⟨rfl, hx, hy, s1, hz⟩ := hP
  have c1 : Steps p.tables e below (s₁.setTop (entryFrame m #[.ref x, .ref y] 3)) (s₁.setTop (mkF m 2 #[.val (.ref x), .val (.ref y), .unset] [.ref y, .ref x])) := Steps.trans (entry rfl) (by
    show Steps p.tables e below (s₁.setTop (mkF m 0 #[.val (.ref x), .val (.ref y), .unset] [])) _
    refine XS.aloadN X0.here hexec rfl (hb hbytes d0) rfl rfl ?_
    refine XS.aloadN X0.here hexec rfl (hb hbytes d1) rfl rfl ?_
    exact Steps.refl _)
  by_cases hxy : x = y
  · have c2 : Steps p.tables e below (s₁.setTop (entryFrame m #[.ref x, .ref y] 3)) (s₁.setTop (mkF m 6 #[.val (.ref x), .val (.ref y), .unset] [.int 1])) := c1.trans (by
      refine acmpNo X0.here hexec rfl (hb hbytes d2) rfl rfl rfl (by simp [acmp, hxy]) ?_
      refine iconstV X0.here hexec rfl 1 (hb hbytes d5) (by decide) ?_
      exact Steps.refl _)
    subst hxy
    have ec : cd = cd' := by
      obtain ⟨D, fd, a1, a2, a3⟩ := hx.2.2.1
      obtain ⟨D', fd', b1, b2, b3⟩ := hy.2.2.1
      cases a1.symm.trans b1
      obtain ⟨q1, q2, q3, q4⟩ := a2.1
      obtain ⟨r1, r2, r3, r4⟩ := b2.1
      cases q4.symm.trans r4
      cases a3.symm.trans b3; rfl
    have et : t = t' := by
      obtain ⟨D, fd, a1, a2, a3⟩ := hx.2.1
      obtain ⟨D', fd', b1, b2, b3⟩ := hy.2.1
      cases a1.symm.trans b1
      obtain ⟨q1, q2, q3, q4⟩ := a2.1
      obtain ⟨r1, r2, r3, r4⟩ := b2.1
      cases q4.symm.trans r4
      cases a3.symm.trans b3; rfl
    subst ec et
    have ev : V = V' := by cases hx.2.2.2.1.1.symm.trans hy.2.2.2.1.1; rfl
    subst ev
    have hs : SameT n f k g := (Cod.eqv hx.2.2.2.2.1 hy.2.2.2.2.1 hx.2.2.2.2.2 hy.2.2.2.2.2).mp ⟨rfl, fun _ _ => rfl⟩
    exact ⟨s₁, some (.int 1), _, _, _, X0, rfl, rfl, rfl, (fun h => by cases h), ⟨1, rfl, hh0, Or.inl ⟨rfl, hs⟩⟩, fun fs hl => c2.trans (X0.ireturnOut hexec hret rfl (Or.inr (Or.inl rfl)) (hb hbytes d6) hl)⟩
  · have c2 : Steps p.tables e below (s₁.setTop (entryFrame m #[.ref x, .ref y] 3)) (s₁.setTop (mkF m 8 #[.val (.ref x), .val (.ref y), .unset] [.ref y])) := c1.trans (by
      refine acmpYes X0.here hexec rfl (pc0 := 2) rfl (hb hbytes d2) rfl rfl rfl (by simp [acmp, hxy]) (by decide) rfl ?_
      refine XS.aloadN X0.here hexec rfl (hb hbytes d7) rfl rfl ?_
      exact Steps.refl _)
    obtain ⟨T3, X3, q3, st3⟩ := cinst X0 hexec hown (wk W (.classLink "java/lang/String" 10 "java/lang/String")) (hy.mv X0.warmed.alike hh0).1 (g := (mkF m 8 #[.val (.ref x), .val (.ref y), .unset] [.ref y])) rfl (rest := []) rfl (hb hbytes d8)
    have hh3 := q3.trans hh0
    have c4 : Steps p.tables e below (s₁.setTop (entryFrame m #[.ref x, .ref y] 3)) (T3.setTop (mkF m 15 #[.val (.ref x), .val (.ref y), .unset] [.ref y])) := (c2.trans (st3 _ (Steps.refl _))).trans (by
      refine XS.ifNo X3.here hexec rfl (hb hbytes d11) rfl (i0_eq_f (by decide)) ?_
      refine XS.aloadN X3.here hexec rfl (hb hbytes d14) rfl rfl ?_
      exact Steps.refl _)
    obtain ⟨T5, X5, q5, st5⟩ := cself X3 hexec hown (wk W (.classLink "java/lang/String" 10 "java/lang/String")) (hy.mv X3.warmed.alike hh3).1 (g := (mkF m 15 #[.val (.ref x), .val (.ref y), .unset] [.ref y])) rfl (rest := []) rfl (hb hbytes d15)
    have hh5 := q5.trans hh3
    have c6 : Steps p.tables e below (s₁.setTop (entryFrame m #[.ref x, .ref y] 3)) (T5.setTop (mkF m 19 #[.val (.ref x), .val (.ref y), .val (.ref y)] [])) := (c4.trans (st5 _ (Steps.refl _))).trans (by
      refine XS.astoreN X5.here hexec rfl (hb hbytes d18) rfl rfl rfl ?_
      exact Steps.refl _)
    obtain ⟨T7, X7, q7, st7⟩ := X5.sget hexec hown (wk W (.fieldLink "java/lang/String" 38 "java/lang/String" "COMPACT_STRINGS" "Z")) s1 (fun _ _ h => by rw [hh5]; exact h) (g := (mkF m 19 #[.val (.ref x), .val (.ref y), .val (.ref y)] [])) rfl (hb hbytes d19)
    have hh7 := q7.trans hh5
    have c8 : Steps p.tables e below (s₁.setTop (entryFrame m #[.ref x, .ref y] 3)) (T7.setTop (mkF m 26 #[.val (.ref x), .val (.ref y), .val (.ref y)] [.ref x])) := (c6.trans (st7 _ (Steps.refl _))).trans (by
      refine XS.ifNo X7.here hexec rfl (hb hbytes d22) rfl (i0_eq_f hz) ?_
      refine XS.aloadN X7.here hexec rfl (hb hbytes d25) rfl rfl ?_
      exact Steps.refl _)
    obtain ⟨T9, X9, q9, st9⟩ := X7.hget hexec hown (wk W (.fieldLink "java/lang/String" 15 "java/lang/String" "coder" "B")) (hx.mv X7.warmed.alike hh7).2.2.1 (g := (mkF m 26 #[.val (.ref x), .val (.ref y), .val (.ref y)] [.ref x])) rfl (rest := []) rfl (hb hbytes d26)
    have hh9 := q9.trans hh7
    have c10 : Steps p.tables e below (s₁.setTop (entryFrame m #[.ref x, .ref y] 3)) (T9.setTop (mkF m 30 #[.val (.ref x), .val (.ref y), .val (.ref y)] [.ref y, .int cd])) := (c8.trans (st9 _ (Steps.refl _))).trans (by
      refine XS.aloadN X9.here hexec rfl (hb hbytes d29) rfl rfl ?_
      exact Steps.refl _)
    obtain ⟨T11, X11, q11, st11⟩ := X9.hget hexec hown (wk W (.fieldLink "java/lang/String" 15 "java/lang/String" "coder" "B")) (hy.mv X9.warmed.alike hh9).2.2.1 (g := (mkF m 30 #[.val (.ref x), .val (.ref y), .val (.ref y)] [.ref y, .int cd])) rfl (rest := [.int cd]) rfl (hb hbytes d30)
    have hh11 := q11.trans hh9
    have c12 : Steps p.tables e below (s₁.setTop (entryFrame m #[.ref x, .ref y] 3)) (T11.setTop (mkF m 33 #[.val (.ref x), .val (.ref y), .val (.ref y)] [.int cd', .int cd])) := c10.trans (st11 _ (Steps.refl _))
    by_cases hcd : cd = cd'
    · subst hcd
      have c13 : Steps p.tables e below (s₁.setTop (entryFrame m #[.ref x, .ref y] 3)) (T11.setTop (mkF m 37 #[.val (.ref x), .val (.ref y), .val (.ref y)] [.ref x])) := c12.trans (by
        refine XS.icmpNo X11.here hexec rfl (hb hbytes d33) rfl (ii_ne_f rfl) ?_
        refine XS.aloadN X11.here hexec rfl (hb hbytes d36) rfl rfl ?_
        exact Steps.refl _)
      obtain ⟨T14, X14, q14, st14⟩ := X11.hget hexec hown (wk W (.fieldLink "java/lang/String" 9 "java/lang/String" "value" "[B")) (hx.mv X11.warmed.alike hh11).2.1 (g := (mkF m 37 #[.val (.ref x), .val (.ref y), .val (.ref y)] [.ref x])) rfl (rest := []) rfl (hb hbytes d37)
      have hh14 := q14.trans hh11
      have c15 : Steps p.tables e below (s₁.setTop (entryFrame m #[.ref x, .ref y] 3)) (T14.setTop (mkF m 41 #[.val (.ref x), .val (.ref y), .val (.ref y)] [.ref y, .ref t])) := (c13.trans (st14 _ (Steps.refl _))).trans (by
        refine XS.aloadN X14.here hexec rfl (hb hbytes d40) rfl rfl ?_
        exact Steps.refl _)
      obtain ⟨T16, X16, q16, st16⟩ := X14.hget hexec hown (wk W (.fieldLink "java/lang/String" 9 "java/lang/String" "value" "[B")) (hy.mv X14.warmed.alike hh14).2.1 (g := (mkF m 41 #[.val (.ref x), .val (.ref y), .val (.ref y)] [.ref y, .ref t])) rfl (rest := [.ref t]) rfl (hb hbytes d41)
      have hh16 := q16.trans hh14
      have c17 : Steps p.tables e below (s₁.setTop (entryFrame m #[.ref x, .ref y] 3)) (T16.setTop (mkF m 44 #[.val (.ref x), .val (.ref y), .val (.ref y)] [.ref t', .ref t])) := c15.trans (st16 _ (Steps.refl _))
      obtain ⟨v18, T18, X18, E18, g18⟩ := X16.callS hexec (LEq.law l t V t' V') hown (wks W (staticW "java/lang/String" 541 LEq.yN)) (wk W LEq.tab) (W := 0) (Nat.le_of_ble_eq_true rfl) (Nat.le_of_ble_eq_true rfl) (Nat.le_refl _) (Nat.le_refl _) (g := (mkF m 44 #[.val (.ref x), .val (.ref y), .val (.ref y)] [.ref t', .ref t])) rfl (by rw [hml]; rfl) c17 (argsL := [.ref t, .ref t']) (rest := []) rfl rfl (by show 2 * 0 + 0 ≤ _; decide) (hb hbytes d44) (⟨rfl, hx.2.2.2.1.mv X16.warmed.alike hh16, hx.2.2.2.2.1.ty, hy.2.2.2.1.mv X16.warmed.alike hh16, hy.2.2.2.2.1.ty⟩)
      obtain ⟨v, rfl, q18, hv⟩ := E18
      have iff := Cod.eqv hx.2.2.2.2.1 hy.2.2.2.2.1 hx.2.2.2.2.2 hy.2.2.2.2.2
      rcases hv with ⟨rfl, he⟩ | ⟨rfl, he⟩
      · have c19 : Steps p.tables e below (s₁.setTop (entryFrame m #[.ref x, .ref y] 3)) (T18.setTop (mkF m 55 #[.val (.ref x), .val (.ref y), .val (.ref y)] [.int 1])) := Steps.trans g18 (by
          refine XS.ifNo X18.here hexec rfl (hb hbytes d47) rfl (i0_eq_f (by decide)) ?_
          refine iconstV X18.here hexec rfl 1 (hb hbytes d50) (by decide) ?_
          refine XS.goto X18.here hexec rfl (pc0 := 51) rfl (hb hbytes d51) (by decide) rfl ?_
          exact Steps.refl _)
        exact ⟨T18, some (.int 1), _, _, _, X18, rfl, rfl, rfl, (fun h => by cases h), ⟨1, rfl, q18.trans hh16, Or.inl ⟨rfl, iff.mp he⟩⟩, fun fs hl => c19.trans (X18.ireturnOut hexec hret rfl (Or.inr (Or.inl rfl)) (hb hbytes d55) hl)⟩
      · have c19 : Steps p.tables e below (s₁.setTop (entryFrame m #[.ref x, .ref y] 3)) (T18.setTop (mkF m 55 #[.val (.ref x), .val (.ref y), .val (.ref y)] [.int 0])) := Steps.trans g18 (by
          refine XS.ifYes X18.here hexec rfl (pc0 := 47) rfl (hb hbytes d47) rfl (i0_eq_t rfl) (by decide) rfl ?_
          refine iconstV X18.here hexec rfl 0 (hb hbytes d54) (by decide) ?_
          exact Steps.refl _)
        exact ⟨T18, some (.int 0), _, _, _, X18, rfl, rfl, rfl, (fun h => by cases h), ⟨0, rfl, q18.trans hh16, Or.inr ⟨rfl, fun q => he (iff.mpr q)⟩⟩, fun fs hl => c19.trans (X18.ireturnOut hexec hret rfl (Or.inr (Or.inl rfl)) (hb hbytes d55) hl)⟩
    · have c13 : Steps p.tables e below (s₁.setTop (entryFrame m #[.ref x, .ref y] 3)) (T11.setTop (mkF m 55 #[.val (.ref x), .val (.ref y), .val (.ref y)] [.int 0])) := c12.trans (by
        refine XS.icmpYes X11.here hexec rfl (pc0 := 33) rfl (hb hbytes d33) rfl (ii_ne_t hcd) (by decide) rfl ?_
        refine iconstV X11.here hexec rfl 0 (hb hbytes d54) (by decide) ?_
        exact Steps.refl _)
      exact ⟨T11, some (.int 0), _, _, _, X11, rfl, rfl, rfl, (fun h => by cases h), ⟨0, rfl, hh11, Or.inr ⟨rfl, Cod.dif hx.2.2.2.2.1 hy.2.2.2.2.1 hcd⟩⟩, fun fs hl => c13.trans (X11.ireturnOut hexec hret rfl (Or.inr (Or.inl rfl)) (hb hbytes d55) hl)⟩
theorem pays {l : Launch} {R : Room} {p : Program} {e : Env} {below : List Frame} {s : State} {sargs : Array Value} {len W : Nat} (x t : Addr) (V : Cell) (cd : Int32) (n : Nat) (f : Nat → Int32) (y t' : Addr) (V' : Cell) (cd' : Int32) (k : Nat) (g : Nat → Int32) (z : Int32) (htab : tab.before sargs s = true) (hfr : 2 ≤ R.frames) (hlo : W + 28 ≤ R.locals) :
    Back l R p e below s sargs yN len W (fun A₁ a₁ => A₁.cells + 0 ≤ R.cells ∧ A₁.slots + 0 ≤ R.slots ∧ P x t V cd n f y t' V' cd' k g z a₁ A₁.U) (fun A₁ _ v₁ B₁ => Says01 (SameT n f k g) v₁ A₁.U B₁.U ∧ B₁.locs = A₁.locs ++ [] ∧ B₁.cells = A₁.cells + 0 ∧ B₁.slots = A₁.slots + 0) :=
  (law l x t V cd n f y t' V' cd' k g z).pays htab hfr (by omega)
end SEq
end StrChars
namespace StrChars.Road
open Jvm Sem ClassFile Op Lib Jvm.Stand Jvm.Free Jvm.Free.XT
open Jvm.Lib.Cold (StaticIs)
/-- the words of String.equals(Object) -/
abbrev wordsEq : List Jvm.Cond := [.code SEq.yN SEq.yB 3 (some .boolean), .initialized ST, .classLink ST 10 ST, .fieldLink ST 38 ST "COMPACT_STRINGS" "Z", .fieldLink ST 15 ST "coder" "B", .fieldLink ST 9 ST "value" "[B", .methodLink ST 541 LEq.yN, .static LEq.yN, .code LEq.yN LEq.yB 3 (some .boolean), .initialized "java/lang/StringLatin1"]
theorem tabEq_of {a : Array Value} {s : State} (h : ∀ w ∈ wordsEq, w.before a s = true) : SEq.tab.before a s = true := by
  have hl : LEq.tab.before a s = true := unparts (wk h (.code LEq.yN LEq.yB 3 (some .boolean))) (wks h (.initialized LEq.yN.cls :: LEq.site))
  have q := consq hl h
  exact unparts (wk q (.code SEq.yN SEq.yB 3 (some .boolean))) (wks q (.initialized SEq.yN.cls :: SEq.site))
theorem movedEq {Z s : State} {a0 args : Array Value} (hZ : Z.Warmed39 s.vm) (hw : ∀ d ∈ wordsEq, d.before a0 Z = true) : ∀ d ∈ wordsEq, d.before args s = true := fun d hd => by
  have t : ∀ d ∈ wordsEq, (d.onTables && d.keepsFace) = true := by decide +kernel
  exact RoadKit.mv hZ (hw d hd) (t d hd)
/-- the road's facts of a String, as the laws ask it -/
theorem txt_of {Z U : State} {a0 : Array Value} {kI : Nat} (wi : (Jvm.Cond.instantiable ST kI).before a0 Z = true) (al : Z.vm.Alike U.vm) {x t : Addr} {kb : ClassId} {cs : List Int32} {cd N2 : Int32} {vs : List Value} (E : RoadKit.Exa Z U.heap x ST) (V : RoadKit.Fld Z U.heap x ST "value" "[B" (.ref t)) (C : RoadKit.Fld Z U.heap x ST "coder" "B" (.int cd)) (K : RoadKit.Arv Z U.heap t kb .byte N2 vs (.int 0)) (hc : CodA cs cd N2 vs) (hb : ∀ c ∈ cs, ¬ c < 0 ∧ ¬ (65535 : Int32) < c) (l2 : cs.length ≤ 4000) :
    ∃ A, Txt x t A cd cs.length (fun j => cs.getD j 0) U := by
  obtain ⟨A, K1, K2, K3, K4, K5, K6⟩ := K
  have hcod := hc.cod (by omega) K3 K5
  obtain ⟨D, fV, fC, hB, F1, F2, g1, g2, -, -⟩ := strObj wi al E V C
  exact ⟨A, ⟨_, hB.2.2.1, D, hB.1, rfl, by cases q : D.vm <;> first | rfl | exact absurd q (hB.2.1.2 _)⟩, Has.of hB F1 g1, Has.of hB F2 g2, ⟨K1.1, State.isArrayOf_alike al K1.2.1, K1.2.2, by rcases hcod with ⟨-, q, -⟩ | ⟨-, q, -⟩ <;> omega⟩, hcod, fun j hj => by
    have e : cs.getD j 0 = cs[j] := by simp [List.getD_eq_getElem?_getD, hj]
    show ¬ cs.getD j 0 < 0 ∧ ¬ 65535 < cs.getD j 0
    rw [e]; exact hb _ (List.getElem_mem _)⟩
theorem same_list (cs ds : List Int32) : SameT cs.length (fun j => cs.getD j 0) ds.length (fun j => ds.getD j 0) ↔ cs = ds := by
  constructor
  · rintro ⟨e, q⟩
    refine List.ext_getElem e fun j h1 h2 => ?_
    have := q j h1
    simpa [List.getD_eq_getElem?_getD, h1, h2] using this
  · rintro rfl
    exact ⟨rfl, fun _ _ => rfl⟩
/-- **equals(Object) OF TWO SUCH STRINGS**: 1 just where the chars are the same -/
theorem eqW {p : Program} {l : Launch} {e : Env} {R : Room} {s : State} {args : Array Value} {below : List Frame} {len W : Nat} {Z : State} {a0 : Array Value} {h : Heap} (hZ : Z.Warmed39 s.vm) (hw : ∀ d ∈ wordsEq, d.before a0 Z = true) {kI : Nat} (wi : (Jvm.Cond.instantiable ST kI).before a0 Z = true)
    {x t : Addr} {kb : ClassId} {cs : List Int32} {cd N2 : Int32} {vs : List Value} (E : RoadKit.Exa Z h x ST) (V : RoadKit.Fld Z h x ST "value" "[B" (.ref t)) (C : RoadKit.Fld Z h x ST "coder" "B" (.int cd)) (K : RoadKit.Arv Z h t kb .byte N2 vs (.int 0)) (hc : CodA cs cd N2 vs) (hb : ∀ c ∈ cs, ¬ c < 0 ∧ ¬ (65535 : Int32) < c) (l2 : cs.length ≤ 4000)
    {y t' : Addr} {kb' : ClassId} {ds : List Int32} {cd' N2' : Int32} {vs' : List Value} (E' : RoadKit.Exa Z h y ST) (V' : RoadKit.Fld Z h y ST "value" "[B" (.ref t')) (C' : RoadKit.Fld Z h y ST "coder" "B" (.int cd')) (K' : RoadKit.Arv Z h t' kb' .byte N2' vs' (.int 0)) (hc' : CodA ds cd' N2' vs') (hb' : ∀ c ∈ ds, ¬ c < 0 ∧ ¬ (65535 : Int32) < c) (l2' : ds.length ≤ 4000)
    {z : Int32} (S : RoadKit.Sta Z h ST "COMPACT_STRINGS" "Z" (.int z)) (hz : ¬ z = 0) (hfr : 2 ≤ R.frames) (hlo : W + 28 ≤ R.locals) :
    Back l R p e below s args (⟨"java/lang/String", "equals", "(Ljava/lang/Object;)Z"⟩ : MethodName) len W (fun P a => a = #[.ref x, .ref y] ∧ P.U.heap = h ∧ P.cells + 0 ≤ R.cells ∧ P.slots + 0 ≤ R.slots)
      (fun P _ v B => ∃ L, (((v = some (.int 1) ∧ cs = ds) ∨ (v = some (.int 0) ∧ ¬ cs = ds)) ∧ L = [] ∧ B.U.heap = h) ∧ B.locs = P.locs ++ L ∧ B.cells = P.cells + 0 ∧ B.slots = P.slots + 0) := by
  intro m meth c P g ig mk a X hg hsize hdg hW hn hp'
  obtain ⟨rfl, rfl, r1, r2⟩ := hp'
  have al : Z.vm.Alike P.U.vm := hZ.alike.trans X.warmed.alike
  obtain ⟨A, hx⟩ := txt_of wi al E V C K hc hb l2
  obtain ⟨A', hy⟩ := txt_of wi al E' V' C' K' hc' hb' l2'
  obtain ⟨v, B, X', ⟨⟨w, hv, hh, hq⟩, hl, hk, hs⟩, st⟩ := SEq.pays x t A cd cs.length (fun j => cs.getD j 0) y t' A' cd' ds.length (fun j => ds.getD j 0) z (tabEq_of (movedEq hZ hw)) hfr hlo m meth c P g ig mk _ X hg hsize hdg hW hn ⟨r1, r2, rfl, hx, hy, sta_is al S, hz⟩
  refine ⟨v, B, X', ⟨[], ⟨?_, rfl, hh⟩, hl, hk, hs⟩, st⟩
  rcases hq with ⟨rfl, q⟩ | ⟨rfl, q⟩
  · exact Or.inl ⟨hv, (same_list cs ds).mp q⟩
  · exact Or.inr ⟨hv, fun e => q ((same_list cs ds).mpr e)⟩
end StrChars.Road
namespace StrChars
open Jvm Sem ClassFile Op Lib Jvm.Stand Jvm.Free.XT Jvm.Free.ALB Jvm.Free.JM Jvm.Free
open Jvm.Lib.Cold (StaticIs)
namespace ChN
def yN : MethodName := ⟨"java/lang/String", "charAt", "(I)C"⟩
abbrev yB : ByteArray := jdk_42_method_56_code
theorem d0 : decode yB 0 = .ok (.aload_n 0, 1) := by decide +kernel
theorem d1 : decode yB 1 = .ok (.invokevirtual 492, 3) := by decide +kernel
theorem d4 : decode yB 4 = .ok (.ifCond (.eq) 12, 3) := by decide +kernel
theorem d7 : decode yB 7 = .ok (.aload_n 0, 1) := by decide +kernel
theorem d8 : decode yB 8 = .ok (.getfield 9, 3) := by decide +kernel
theorem d11 : decode yB 11 = .ok (.iload_n 1, 1) := by decide +kernel
theorem d12 : decode yB 12 = .ok (.invokestatic 495, 3) := by decide +kernel
theorem d15 : decode yB 15 = .ok (.ireturn, 1) := by decide +kernel
def site : List Cond := [.fieldLink "java/lang/String" 9 "java/lang/String" "value" "[B", IsL.tab, LChA.tab] ++ virtW "java/lang/String" 492 "java/lang/String" IsL.yN IsL.yN ++ staticW "java/lang/String" 495 LChA.yN
def tab : Cond := tabOf yN yB 2 (some .char) site
def P (x t : Addr) (V : Cell) (n : Nat) (f : Nat → Int32) (z : Int32) (fm : Value) (i : Nat) (args : Array Value) (s : State) : Prop := args = #[.ref x, .int (Int32.ofNat i)] ∧ Txt x t V 0 n f s ∧ i < n ∧ StaticIs s "java/lang/String" "COMPACT_STRINGS" "Z" (.int z) ∧ ¬ z = 0 ∧ StaticIs s "jdk/internal/util/Preconditions" "SIOOBE_FORMATTER" "Ljava/util/function/BiFunction;" fm ∧ fm.isRef = true
def E (f : Nat → Int32) (i : Nat) (r : Option Value) (s u : State) : Prop := XT.PureE (some (.int (f i))) r s u
/-- charAt(i) of a Latin-1 String of n chars, i < n: f i -/
theorem law (l : Launch) (x t : Addr) (V : Cell) (n : Nat) (f : Nat → Int32) (z : Int32) (fm : Value) (i : Nat) : Law l yN 2 1 3 40 yB 2 (some .char) site (P x t V n f z fm i) (E f i) [] 0 0 := by
  refine Law.of_walk (plainFor_of_name (by decide +kernel)) (by decide +kernel) (by decide +kernel) (by decide) (fun _ _ h => by rw [h.1]; rfl) (fun _ U U' hal hh h => ⟨h.1, h.2.1.mv hal hh, h.2.2.1, h.2.2.2.1.there hal hh, h.2.2.2.2.1, h.2.2.2.2.2.1.there hal hh, h.2.2.2.2.2.2⟩) (fun r U U' V V' h1 hal h2 h => XT.PureE.mv r U U' V V' h1 hal h2 h) ?_
  intro p e s m args below meth c s₁ X0 hexec hbytes hml hret hlk hnm hown hh0 W hP
  obtain ⟨rfl, hx, hi, s1, hz, s3, rf⟩ := hP
  have v31 := hx.2.2.2.1.2.2.2
  have hr := hx.2.2.2.2.2 i hi
  have hx0 := hx.mv X0.warmed.alike hh0
  have c1 : Steps p.tables e below (s₁.setTop (entryFrame m #[.ref x, .int (Int32.ofNat i)] 2)) (s₁.setTop (mkF m 1 #[.val (.ref x), .val (.int (Int32.ofNat i))] [.ref x])) := Steps.trans (entry rfl) (by
    show Steps p.tables e below (s₁.setTop (mkF m 0 #[.val (.ref x), .val (.int (Int32.ofNat i))] [])) _
    refine XS.aloadN X0.here hexec rfl (hb hbytes d0) rfl rfl ?_
    exact Steps.refl _)
  obtain ⟨v2, T2, X2, E2, g2⟩ := X0.callV hexec (IsL.law l x 0 z) hown (wks W (virtW "java/lang/String" 492 "java/lang/String" IsL.yN IsL.yN)) rfl (by decide) (wk W IsL.tab) (W := 0) (Nat.le_of_ble_eq_true rfl) (Nat.le_of_ble_eq_true rfl) (Nat.le_refl _) (Nat.le_refl _) (hx0.1.fc X0.warmed.alike) hx0.1.is (g := (mkF m 1 #[.val (.ref x), .val (.int (Int32.ofNat i))] [.ref x])) rfl (by rw [hml]; rfl) c1 (argsL := []) (rest := []) rfl rfl (by show 2 * 0 + 0 ≤ _; decide) (hb hbytes d1) (⟨rfl, hx0.2.2.1, hx.2.2.2.2.1.cd, s1.there X0.warmed.alike hh0, hz⟩)
  obtain ⟨rfl, q2⟩ := E2
  have hh2 := q2.trans hh0
  have hx2 := hx.mv X2.warmed.alike hh2
  obtain ⟨-, k1, k2⟩ | ⟨k0, -⟩ := hx.2.2.2.2.1
  · have c3 : Steps p.tables e below (s₁.setTop (entryFrame m #[.ref x, .int (Int32.ofNat i)] 2)) (T2.setTop (mkF m 8 #[.val (.ref x), .val (.int (Int32.ofNat i))] [.ref x])) := Steps.trans g2 (by
      refine XS.ifNo X2.here hexec rfl (hb hbytes d4) rfl (i0_eq_f (by decide)) ?_
      refine XS.aloadN X2.here hexec rfl (hb hbytes d7) rfl rfl ?_
      exact Steps.refl _)
    obtain ⟨T4, X4, q4, st4⟩ := X2.hget hexec hown (wk W (.fieldLink "java/lang/String" 9 "java/lang/String" "value" "[B")) hx2.2.1 (g := (mkF m 8 #[.val (.ref x), .val (.int (Int32.ofNat i))] [.ref x])) rfl (rest := []) rfl (hb hbytes d8)
    have hh4 := q4.trans hh2
    have c5 : Steps p.tables e below (s₁.setTop (entryFrame m #[.ref x, .int (Int32.ofNat i)] 2)) (T4.setTop (mkF m 12 #[.val (.ref x), .val (.int (Int32.ofNat i))] [.int (Int32.ofNat i), .ref t])) := (c3.trans (st4 _ (Steps.refl _))).trans (by
      refine XS.iloadN X4.here hexec rfl (hb hbytes d11) rfl ?_
      exact Steps.refl _)
    obtain ⟨v6, T6, X6, E6, g6⟩ := X4.callS hexec (LChA.law l t V i (lo8 (f i)) fm) hown (wks W (staticW "java/lang/String" 495 LChA.yN)) (wk W LChA.tab) (W := 0) (Nat.le_of_ble_eq_true rfl) (Nat.le_of_ble_eq_true rfl) (Nat.le_refl _) (Nat.le_refl _) (g := (mkF m 12 #[.val (.ref x), .val (.int (Int32.ofNat i))] [.int (Int32.ofNat i), .ref t])) rfl (by rw [hml]; rfl) c5 (argsL := [.ref t, .int (Int32.ofNat i)]) (rest := []) rfl rfl (by show 2 * 0 + 0 ≤ _; decide) (hb hbytes d12) (⟨rfl, hx.2.2.2.1.mv X4.warmed.alike hh4, (k2 i hi).1, s3.there X4.warmed.alike hh4, rf⟩)
    obtain ⟨rfl, q6⟩ := E6
    rw [chr8_lo8 hr.1 (k2 i hi).2] at g6
    exact ⟨T6, some (.int (f i)), _, _, _, X6, rfl, rfl, rfl, (fun h => by cases h), ⟨rfl, q6.trans hh4⟩, fun fs hl => Steps.trans g6 (X6.ireturnOut hexec hret (narrow_ch hr.1 hr.2) (Or.inr (Or.inr (Or.inr (Or.inl rfl)))) (hb hbytes d15) hl)⟩
  · exact absurd k0 (by decide)
theorem pays {l : Launch} {R : Room} {p : Program} {e : Env} {below : List Frame} {s : State} {sargs : Array Value} {len W : Nat} (x t : Addr) (V : Cell) (n : Nat) (f : Nat → Int32) (z : Int32) (fm : Value) (i : Nat) (htab : tab.before sargs s = true) (hfr : 4 ≤ R.frames) (hlo : W + 53 ≤ R.locals) :
    Back l R p e below s sargs yN len W (fun A₁ a₁ => A₁.cells + 0 ≤ R.cells ∧ A₁.slots + 0 ≤ R.slots ∧ P x t V n f z fm i a₁ A₁.U) (fun A₁ _ v₁ B₁ => E f i v₁ A₁.U B₁.U ∧ B₁.locs = A₁.locs ++ [] ∧ B₁.cells = A₁.cells + 0 ∧ B₁.slots = A₁.slots + 0) :=
  (law l x t V n f z fm i).pays htab hfr (by omega)
end ChN
end StrChars
namespace StrChars.Road
open Jvm Sem ClassFile Op Lib Jvm.Stand Jvm.Free Jvm.Free.XT
open Jvm.Lib.Cold (StaticIs)
/-- the words of String.charAt(int), the Latin-1 road alone -/
abbrev wordsChN : List Jvm.Cond := [.code ChN.yN ChN.yB 2 (some .char), .initialized ST, .fieldLink ST 9 ST "value" "[B", .fieldLink ST 38 ST "COMPACT_STRINGS" "Z", .fieldLink ST 15 ST "coder" "B", .code IsL.yN IsL.yB 1 (some .boolean), .methodLink ST 492 IsL.yN, .declares IsL.yN, .selects ST IsL.yN IsL.yN, .instanceMethod IsL.yN,
  .methodLink ST 495 LChA.yN, .static LChA.yN, .code LChA.yN LChA.yB 2 (some .char), .initialized "java/lang/StringLatin1", .methodLink "java/lang/StringLatin1" 9 JO.Str_checkIndex.yN, .static JO.Str_checkIndex.yN, .code JO.Str_checkIndex.yN JO.Str_checkIndex.yB 2 none,
  .fieldLink ST 1053 "jdk/internal/util/Preconditions" "SIOOBE_FORMATTER" "Ljava/util/function/BiFunction;", .methodLink ST 1059 JC.PreCheck.yN, .static JC.PreCheck.yN, .code JC.PreCheck.yN JC.PreCheck.yB 3 (some .int), .initialized "jdk/internal/util/Preconditions"]
theorem tabChN_of {a : Array Value} {s : State} (h : ∀ w ∈ wordsChN, w.before a s = true) : ChN.tab.before a s = true := by
  have hp : JC.PreCheck.tab.before a s = true := unparts (wk h (.code JC.PreCheck.yN JC.PreCheck.yB 3 (some .int))) (wks h (.initialized JC.PreCheck.yN.cls :: JC.PreCheck.site))
  have qk := consq hp h
  have hk : JO.Str_checkIndex.tab.before a s = true := unparts (wk qk (.code JO.Str_checkIndex.yN JO.Str_checkIndex.yB 2 none)) (wks qk (.initialized JO.Str_checkIndex.yN.cls :: JO.Str_checkIndex.site))
  have ql := consq hk h
  have hl : LChA.tab.before a s = true := unparts (wk ql (.code LChA.yN LChA.yB 2 (some .char))) (wks ql (.initialized LChA.yN.cls :: LChA.site))
  have hi : IsL.tab.before a s = true := unparts (wk h (.code IsL.yN IsL.yB 1 (some .boolean))) (wks h (.initialized IsL.yN.cls :: IsL.site))
  have q := consq hi (consq hl h)
  exact unparts (wk q (.code ChN.yN ChN.yB 2 (some .char))) (wks q (.initialized ChN.yN.cls :: ChN.site))
theorem movedChN {Z s : State} {a0 args : Array Value} (hZ : Z.Warmed39 s.vm) (hw : ∀ d ∈ wordsChN, d.before a0 Z = true) : ∀ d ∈ wordsChN, d.before args s = true := fun d hd => by
  have t : ∀ d ∈ wordsChN, (d.onTables && d.keepsFace) = true := by decide +kernel
  exact RoadKit.mv hZ (hw d hd) (t d hd)
/-- **charAt(i) OF A LATIN-1 STRING**, i < n: the char -/
theorem chN {p : Program} {l : Launch} {e : Env} {R : Room} {s : State} {args : Array Value} {below : List Frame} {len W : Nat} {Z : State} {a0 : Array Value} {h : Heap} (hZ : Z.Warmed39 s.vm) (hw : ∀ d ∈ wordsChN, d.before a0 Z = true) {kI : Nat} (wi : (Jvm.Cond.instantiable ST kI).before a0 Z = true)
    {x t : Addr} {kb : ClassId} {cs : List Int32} {N2 z : Int32} {vs : List Value} {fm : Value} {i : Nat} {j : Int32} (E : RoadKit.Exa Z h x ST) (V : RoadKit.Fld Z h x ST "value" "[B" (.ref t)) (C : RoadKit.Fld Z h x ST "coder" "B" (.int 0)) (K : RoadKit.Arv Z h t kb .byte N2 vs (.int 0)) (hc : CodA cs 0 N2 vs) (hb : ∀ c ∈ cs, ¬ c < 0 ∧ ¬ (65535 : Int32) < c)
    (S : RoadKit.Sta Z h ST "COMPACT_STRINGS" "Z" (.int z)) (hz : ¬ z = 0) (F : RoadKit.Sta Z h "jdk/internal/util/Preconditions" "SIOOBE_FORMATTER" "Ljava/util/function/BiFunction;" fm) (rf : fm.isRef = true) (l2 : cs.length ≤ 4000) (hi : i < cs.length) (hj : j = Int32.ofNat i) (hfr : 4 ≤ R.frames) (hlo : W + 53 ≤ R.locals) :
    Back l R p e below s args (⟨"java/lang/String", "charAt", "(I)C"⟩ : MethodName) len W (fun P a => a = #[.ref x, .int j] ∧ P.U.heap = h ∧ P.cells + 0 ≤ R.cells ∧ P.slots + 0 ≤ R.slots)
      (fun P _ v B => ∃ L, (v = some (.int (cs.getD i 0)) ∧ L = [] ∧ B.U.heap = h) ∧ B.locs = P.locs ++ L ∧ B.cells = P.cells + 0 ∧ B.slots = P.slots + 0) := by
  subst hj
  intro m meth c P g ig mk a X hg hsize hdg hW hn hp'
  obtain ⟨rfl, rfl, r1, r2⟩ := hp'
  have al : Z.vm.Alike P.U.vm := hZ.alike.trans X.warmed.alike
  obtain ⟨A, hx⟩ := txt_of wi al E V C K hc hb l2
  obtain ⟨v, B, X', ⟨⟨hv, hh⟩, hl, hk, hs⟩, st⟩ := ChN.pays x t A cs.length (fun j => cs.getD j 0) z fm i (tabChN_of (movedChN hZ hw)) hfr hlo m meth c P g ig mk _ X hg hsize hdg hW hn ⟨r1, r2, rfl, hx, hi, sta_is al S, hz, sta_is al F, rf⟩
  exact ⟨v, B, X', ⟨[], ⟨hv, rfl, hh⟩, hl, hk, hs⟩, st⟩
/-- what backV says of its String, as the contracts of this text ask it: cs's low bytes, coder 0 -/
theorem codOf {cs : List Int32} {n : Nat} (hn : cs.length = n) (hb : ∀ c ∈ cs, ¬ 255 < c) : CodA cs 0 (Int32.ofNat n) ((cs.map lo8).map Value.int) := Or.inl ⟨rfl, by rw [hn], by simp [List.map_map, Function.comp_def], hb⟩
end StrChars.Road
end Jvm.Pilot.@@N@@
namespace Jvm.Pilot.@@N@@
open Jvm Jvm.ClassFile Sem Op Lib Jvm.Free Jvm.Stand Jvm.LawKit Jvm.RoadKit Jvm.OwnKit Bundle Jvm.Pilot.@@N@@.Jvm.D
def EL1 : List (String × Nat) := [("java/lang/String", 7)]
abbrev HW (a0 : Array Value) (Z : State) : Prop := ∀ d ∈ tables_1, d.before a0 Z = true
theorem w0 {a0 : Array Value} {Z : State} (hw : HW a0 Z) : (Jvm.Cond.methodLink "com/example/wachter/wachter/decision/AccessEqualsPinLaw" (16 : Nat) ({ cls := "com/example/wachter/wachter/decision/AccessEqualsPinLaw", name := "str", desc := "(I)Ljava/lang/String;" } : Jvm.MethodName) : Jvm.Cond).before a0 Z = true := hw _ (List.mem_of_getElem? (i := 0) rfl)
theorem w1 {a0 : Array Value} {Z : State} (hw : HW a0 Z) : (Jvm.Cond.static ({ cls := "com/example/wachter/wachter/decision/AccessEqualsPinLaw", name := "str", desc := "(I)Ljava/lang/String;" } : Jvm.MethodName) : Jvm.Cond).before a0 Z = true := hw _ (List.mem_of_getElem? (i := 1) rfl)
theorem w2 {a0 : Array Value} {Z : State} (hw : HW a0 Z) : (Jvm.Cond.initialized "com/example/wachter/wachter/decision/AccessEqualsPinLaw" : Jvm.Cond).before a0 Z = true := hw _ (List.mem_of_getElem? (i := 2) rfl)
theorem w3 {a0 : Array Value} {Z : State} (hw : HW a0 Z) : (Jvm.Cond.code ({ cls := "com/example/wachter/wachter/decision/AccessEqualsPinLaw", name := "str", desc := "(I)Ljava/lang/String;" } : Jvm.MethodName) method_2_code (5 : Nat) (Option.some (Jvm.ClassFile.FieldType.object "java/lang/String")) : Jvm.Cond).before a0 Z = true := hw _ (List.mem_of_getElem? (i := 3) rfl)
theorem w4 {a0 : Array Value} {Z : State} (hw : HW a0 Z) : (Jvm.Cond.classLink "com/example/wachter/wachter/decision/AccessEqualsPinLaw" (7 : Nat) "java/lang/String" : Jvm.Cond).before a0 Z = true := hw _ (List.mem_of_getElem? (i := 4) rfl)
theorem w5 {a0 : Array Value} {Z : State} (hw : HW a0 Z) : (Jvm.Cond.instantiable "java/lang/String" (4 : Nat) : Jvm.Cond).before a0 Z = true := hw _ (List.mem_of_getElem? (i := 5) rfl)
theorem w6 {a0 : Array Value} {Z : State} (hw : HW a0 Z) : (Jvm.Cond.initialized "java/lang/String" : Jvm.Cond).before a0 Z = true := hw _ (List.mem_of_getElem? (i := 6) rfl)
theorem w7 {a0 : Array Value} {Z : State} (hw : HW a0 Z) : (Jvm.Cond.arrayClass Jvm.ClassFile.FieldType.char : Jvm.Cond).before a0 Z = true := hw _ (List.mem_of_getElem? (i := 7) rfl)
theorem w8 {a0 : Array Value} {Z : State} (hw : HW a0 Z) : (Jvm.Cond.methodLink "com/example/wachter/wachter/decision/AccessEqualsPinLaw" (9 : Nat) ({ cls := "java/lang/String", name := "<init>", desc := "([C)V" } : Jvm.MethodName) : Jvm.Cond).before a0 Z = true := hw _ (List.mem_of_getElem? (i := 8) rfl)
theorem w9 {a0 : Array Value} {Z : State} (hw : HW a0 Z) : (Jvm.Cond.instanceMethod ({ cls := "java/lang/String", name := "<init>", desc := "([C)V" } : Jvm.MethodName) : Jvm.Cond).before a0 Z = true := hw _ (List.mem_of_getElem? (i := 9) rfl)
theorem w10 {a0 : Array Value} {Z : State} (hw : HW a0 Z) : (Jvm.Cond.code ({ cls := "java/lang/String", name := "<init>", desc := "([C)V" } : Jvm.MethodName) jdk_42_method_3_code (2 : Nat) (Option.none : Option Jvm.ClassFile.FieldType) : Jvm.Cond).before a0 Z = true := hw _ (List.mem_of_getElem? (i := 10) rfl)
theorem w11 {a0 : Array Value} {Z : State} (hw : HW a0 Z) : (Jvm.Cond.methodLink "java/lang/String" (27 : Nat) ({ cls := "java/lang/String", name := "<init>", desc := "([CIILjava/lang/Void;)V" } : Jvm.MethodName) : Jvm.Cond).before a0 Z = true := hw _ (List.mem_of_getElem? (i := 11) rfl)
theorem w12 {a0 : Array Value} {Z : State} (hw : HW a0 Z) : (Jvm.Cond.instanceMethod ({ cls := "java/lang/String", name := "<init>", desc := "([CIILjava/lang/Void;)V" } : Jvm.MethodName) : Jvm.Cond).before a0 Z = true := hw _ (List.mem_of_getElem? (i := 12) rfl)
theorem w14 {a0 : Array Value} {Z : State} (hw : HW a0 Z) : (Jvm.Cond.code ({ cls := "java/lang/String", name := "<init>", desc := "([CIILjava/lang/Void;)V" } : Jvm.MethodName) jdk_42_method_149_code (6 : Nat) (Option.none : Option Jvm.ClassFile.FieldType) : Jvm.Cond).before a0 Z = true := hw _ (List.mem_of_getElem? (i := 14) rfl)
theorem w15 {a0 : Array Value} {Z : State} (hw : HW a0 Z) : (Jvm.Cond.methodLink "java/lang/String" (1 : Nat) ({ cls := "java/lang/Object", name := "<init>", desc := "()V" } : Jvm.MethodName) : Jvm.Cond).before a0 Z = true := hw _ (List.mem_of_getElem? (i := 15) rfl)
theorem w16 {a0 : Array Value} {Z : State} (hw : HW a0 Z) : (Jvm.Cond.instanceMethod ({ cls := "java/lang/Object", name := "<init>", desc := "()V" } : Jvm.MethodName) : Jvm.Cond).before a0 Z = true := hw _ (List.mem_of_getElem? (i := 16) rfl)
theorem w17 {a0 : Array Value} {Z : State} (hw : HW a0 Z) : (Jvm.Cond.code ({ cls := "java/lang/Object", name := "<init>", desc := "()V" } : Jvm.MethodName) object_method_1_code (1 : Nat) (Option.none : Option Jvm.ClassFile.FieldType) : Jvm.Cond).before a0 Z = true := hw _ (List.mem_of_getElem? (i := 17) rfl)
theorem w19 {a0 : Array Value} {Z : State} (hw : HW a0 Z) : (Jvm.Cond.arrayClass Jvm.ClassFile.FieldType.byte : Jvm.Cond).before a0 Z = true := hw _ (List.mem_of_getElem? (i := 19) rfl)
theorem w20 {a0 : Array Value} {Z : State} (hw : HW a0 Z) : (Jvm.Cond.laysFinal "java/lang/String" "java/lang/String" "value" "[B" : Jvm.Cond).before a0 Z = true := hw _ (List.mem_of_getElem? (i := 20) rfl)
theorem w21 {a0 : Array Value} {Z : State} (hw : HW a0 Z) : (Jvm.Cond.laysFinal "java/lang/String" "java/lang/String" "coder" "B" : Jvm.Cond).before a0 Z = true := hw _ (List.mem_of_getElem? (i := 21) rfl)
theorem w24 {a0 : Array Value} {Z : State} (hw : HW a0 Z) : (Jvm.Cond.fieldLink "java/lang/String" (9 : Nat) "java/lang/String" "value" "[B" : Jvm.Cond).before a0 Z = true := hw _ (List.mem_of_getElem? (i := 24) rfl)
theorem w25 {a0 : Array Value} {Z : State} (hw : HW a0 Z) : (Jvm.Cond.fieldLink "java/lang/String" (15 : Nat) "java/lang/String" "coder" "B" : Jvm.Cond).before a0 Z = true := hw _ (List.mem_of_getElem? (i := 25) rfl)
theorem w26 {a0 : Array Value} {Z : State} (hw : HW a0 Z) : (Jvm.Cond.fieldLink "java/lang/String" (38 : Nat) "java/lang/String" "COMPACT_STRINGS" "Z" : Jvm.Cond).before a0 Z = true := hw _ (List.mem_of_getElem? (i := 26) rfl)
theorem w37 {a0 : Array Value} {Z : State} (hw : HW a0 Z) : (Jvm.Cond.methodLink "com/example/wachter/wachter/decision/AccessEqualsPinLaw" (30 : Nat) ({ cls := "com/example/wachter/wachter/decision/AccessEqualsPinLaw", name := "pick", desc := "(II)Ljava/lang/String;" } : Jvm.MethodName) : Jvm.Cond).before a0 Z = true := hw _ (List.mem_of_getElem? (i := 37) rfl)
theorem w38 {a0 : Array Value} {Z : State} (hw : HW a0 Z) : (Jvm.Cond.static ({ cls := "com/example/wachter/wachter/decision/AccessEqualsPinLaw", name := "pick", desc := "(II)Ljava/lang/String;" } : Jvm.MethodName) : Jvm.Cond).before a0 Z = true := hw _ (List.mem_of_getElem? (i := 38) rfl)
theorem w39 {a0 : Array Value} {Z : State} (hw : HW a0 Z) : (Jvm.Cond.code ({ cls := "com/example/wachter/wachter/decision/AccessEqualsPinLaw", name := "pick", desc := "(II)Ljava/lang/String;" } : Jvm.MethodName) method_3_code (2 : Nat) (Option.some (Jvm.ClassFile.FieldType.object "java/lang/String")) : Jvm.Cond).before a0 Z = true := hw _ (List.mem_of_getElem? (i := 39) rfl)
theorem w40 {a0 : Array Value} {Z : State} (hw : HW a0 Z) : (Jvm.Cond.classLink "com/example/wachter/wachter/decision/AccessEqualsPinLaw" (34 : Nat) "com/example/wachter/wachter/decision/Access" : Jvm.Cond).before a0 Z = true := hw _ (List.mem_of_getElem? (i := 40) rfl)
theorem w41 {a0 : Array Value} {Z : State} (hw : HW a0 Z) : (Jvm.Cond.instantiable "com/example/wachter/wachter/decision/Access" (3 : Nat) : Jvm.Cond).before a0 Z = true := hw _ (List.mem_of_getElem? (i := 41) rfl)
theorem w42 {a0 : Array Value} {Z : State} (hw : HW a0 Z) : (Jvm.Cond.initialized "com/example/wachter/wachter/decision/Access" : Jvm.Cond).before a0 Z = true := hw _ (List.mem_of_getElem? (i := 42) rfl)
theorem w43 {a0 : Array Value} {Z : State} (hw : HW a0 Z) : (Jvm.Cond.methodLink "com/example/wachter/wachter/decision/AccessEqualsPinLaw" (36 : Nat) ({ cls := "com/example/wachter/wachter/decision/Access", name := "<init>", desc := "(Ljava/lang/String;Ljava/lang/String;Ljava/lang/String;)V" } : Jvm.MethodName) : Jvm.Cond).before a0 Z = true := hw _ (List.mem_of_getElem? (i := 43) rfl)
theorem w44 {a0 : Array Value} {Z : State} (hw : HW a0 Z) : (Jvm.Cond.instanceMethod ({ cls := "com/example/wachter/wachter/decision/Access", name := "<init>", desc := "(Ljava/lang/String;Ljava/lang/String;Ljava/lang/String;)V" } : Jvm.MethodName) : Jvm.Cond).before a0 Z = true := hw _ (List.mem_of_getElem? (i := 44) rfl)
theorem w45 {a0 : Array Value} {Z : State} (hw : HW a0 Z) : (Jvm.Cond.code ({ cls := "com/example/wachter/wachter/decision/Access", name := "<init>", desc := "(Ljava/lang/String;Ljava/lang/String;Ljava/lang/String;)V" } : Jvm.MethodName) prog_1_method_1_code (4 : Nat) (Option.none : Option Jvm.ClassFile.FieldType) : Jvm.Cond).before a0 Z = true := hw _ (List.mem_of_getElem? (i := 45) rfl)
theorem w46 {a0 : Array Value} {Z : State} (hw : HW a0 Z) : (Jvm.Cond.methodLink "com/example/wachter/wachter/decision/Access" (1 : Nat) ({ cls := "java/lang/Object", name := "<init>", desc := "()V" } : Jvm.MethodName) : Jvm.Cond).before a0 Z = true := hw _ (List.mem_of_getElem? (i := 46) rfl)
theorem w48 {a0 : Array Value} {Z : State} (hw : HW a0 Z) : (Jvm.Cond.methodLink "com/example/wachter/wachter/decision/Access" (9 : Nat) ({ cls := "java/util/Objects", name := "requireNonNull", desc := "(Ljava/lang/Object;Ljava/lang/String;)Ljava/lang/Object;" } : Jvm.MethodName) : Jvm.Cond).before a0 Z = true := hw _ (List.mem_of_getElem? (i := 48) rfl)
theorem w49 {a0 : Array Value} {Z : State} (hw : HW a0 Z) : (Jvm.Cond.static ({ cls := "java/util/Objects", name := "requireNonNull", desc := "(Ljava/lang/Object;Ljava/lang/String;)Ljava/lang/Object;" } : Jvm.MethodName) : Jvm.Cond).before a0 Z = true := hw _ (List.mem_of_getElem? (i := 49) rfl)
theorem w50 {a0 : Array Value} {Z : State} (hw : HW a0 Z) : (Jvm.Cond.initialized "java/util/Objects" : Jvm.Cond).before a0 Z = true := hw _ (List.mem_of_getElem? (i := 50) rfl)
theorem w51 {a0 : Array Value} {Z : State} (hw : HW a0 Z) : (Jvm.Cond.code ({ cls := "java/util/Objects", name := "requireNonNull", desc := "(Ljava/lang/Object;Ljava/lang/String;)Ljava/lang/Object;" } : Jvm.MethodName) jdk_31_method_11_code (2 : Nat) (Option.some (Jvm.ClassFile.FieldType.object "java/lang/Object")) : Jvm.Cond).before a0 Z = true := hw _ (List.mem_of_getElem? (i := 51) rfl)
theorem w52 {a0 : Array Value} {Z : State} (hw : HW a0 Z) : (Jvm.Cond.classLink "com/example/wachter/wachter/decision/Access" (15 : Nat) "java/lang/String" : Jvm.Cond).before a0 Z = true := hw _ (List.mem_of_getElem? (i := 52) rfl)
theorem w53 {a0 : Array Value} {Z : State} (hw : HW a0 Z) : (Jvm.Cond.fieldLink "com/example/wachter/wachter/decision/Access" (17 : Nat) "com/example/wachter/wachter/decision/Access" "kind" "Ljava/lang/String;" : Jvm.Cond).before a0 Z = true := hw _ (List.mem_of_getElem? (i := 53) rfl)
theorem w54 {a0 : Array Value} {Z : State} (hw : HW a0 Z) : (Jvm.Cond.laysFinal "com/example/wachter/wachter/decision/Access" "com/example/wachter/wachter/decision/Access" "kind" "Ljava/lang/String;" : Jvm.Cond).before a0 Z = true := hw _ (List.mem_of_getElem? (i := 54) rfl)
theorem w56 {a0 : Array Value} {Z : State} (hw : HW a0 Z) : (Jvm.Cond.fieldLink "com/example/wachter/wachter/decision/Access" (24 : Nat) "com/example/wachter/wachter/decision/Access" "operation" "Ljava/lang/String;" : Jvm.Cond).before a0 Z = true := hw _ (List.mem_of_getElem? (i := 56) rfl)
theorem w57 {a0 : Array Value} {Z : State} (hw : HW a0 Z) : (Jvm.Cond.laysFinal "com/example/wachter/wachter/decision/Access" "com/example/wachter/wachter/decision/Access" "operation" "Ljava/lang/String;" : Jvm.Cond).before a0 Z = true := hw _ (List.mem_of_getElem? (i := 57) rfl)
theorem w59 {a0 : Array Value} {Z : State} (hw : HW a0 Z) : (Jvm.Cond.fieldLink "com/example/wachter/wachter/decision/Access" (28 : Nat) "com/example/wachter/wachter/decision/Access" "object" "Ljava/lang/String;" : Jvm.Cond).before a0 Z = true := hw _ (List.mem_of_getElem? (i := 59) rfl)
theorem w60 {a0 : Array Value} {Z : State} (hw : HW a0 Z) : (Jvm.Cond.laysFinal "com/example/wachter/wachter/decision/Access" "com/example/wachter/wachter/decision/Access" "object" "Ljava/lang/String;" : Jvm.Cond).before a0 Z = true := hw _ (List.mem_of_getElem? (i := 60) rfl)
theorem w61 {a0 : Array Value} {Z : State} (hw : HW a0 Z) : (Jvm.Cond.methodLink "com/example/wachter/wachter/decision/AccessEqualsPinLaw" (43 : Nat) ({ cls := "com/example/wachter/wachter/decision/AccessEqualsPinLaw", name := "same", desc := "(Ljava/lang/String;Ljava/lang/String;)Z" } : Jvm.MethodName) : Jvm.Cond).before a0 Z = true := hw _ (List.mem_of_getElem? (i := 61) rfl)
theorem w62 {a0 : Array Value} {Z : State} (hw : HW a0 Z) : (Jvm.Cond.static ({ cls := "com/example/wachter/wachter/decision/AccessEqualsPinLaw", name := "same", desc := "(Ljava/lang/String;Ljava/lang/String;)Z" } : Jvm.MethodName) : Jvm.Cond).before a0 Z = true := hw _ (List.mem_of_getElem? (i := 62) rfl)
theorem w63 {a0 : Array Value} {Z : State} (hw : HW a0 Z) : (Jvm.Cond.code ({ cls := "com/example/wachter/wachter/decision/AccessEqualsPinLaw", name := "same", desc := "(Ljava/lang/String;Ljava/lang/String;)Z" } : Jvm.MethodName) method_4_code (3 : Nat) (Option.some Jvm.ClassFile.FieldType.boolean) : Jvm.Cond).before a0 Z = true := hw _ (List.mem_of_getElem? (i := 63) rfl)
theorem w64 {a0 : Array Value} {Z : State} (hw : HW a0 Z) : (Jvm.Cond.methodLink "com/example/wachter/wachter/decision/AccessEqualsPinLaw" (22 : Nat) ({ cls := "java/lang/String", name := "length", desc := "()I" } : Jvm.MethodName) : Jvm.Cond).before a0 Z = true := hw _ (List.mem_of_getElem? (i := 64) rfl)
theorem w65 {a0 : Array Value} {Z : State} (hw : HW a0 Z) : (Jvm.Cond.declares ({ cls := "java/lang/String", name := "length", desc := "()I" } : Jvm.MethodName) : Jvm.Cond).before a0 Z = true := hw _ (List.mem_of_getElem? (i := 65) rfl)
theorem w66 {a0 : Array Value} {Z : State} (hw : HW a0 Z) : (Jvm.Cond.instanceMethod ({ cls := "java/lang/String", name := "length", desc := "()I" } : Jvm.MethodName) : Jvm.Cond).before a0 Z = true := hw _ (List.mem_of_getElem? (i := 66) rfl)
theorem w67 {a0 : Array Value} {Z : State} (hw : HW a0 Z) : (Jvm.Cond.selects "java/lang/String" ({ cls := "java/lang/String", name := "length", desc := "()I" } : Jvm.MethodName) ({ cls := "java/lang/String", name := "length", desc := "()I" } : Jvm.MethodName) : Jvm.Cond).before a0 Z = true := hw _ (List.mem_of_getElem? (i := 67) rfl)
theorem w74 {a0 : Array Value} {Z : State} (hw : HW a0 Z) : (Jvm.Cond.methodLink "com/example/wachter/wachter/decision/AccessEqualsPinLaw" (26 : Nat) ({ cls := "java/lang/String", name := "charAt", desc := "(I)C" } : Jvm.MethodName) : Jvm.Cond).before a0 Z = true := hw _ (List.mem_of_getElem? (i := 74) rfl)
theorem w75 {a0 : Array Value} {Z : State} (hw : HW a0 Z) : (Jvm.Cond.declares ({ cls := "java/lang/String", name := "charAt", desc := "(I)C" } : Jvm.MethodName) : Jvm.Cond).before a0 Z = true := hw _ (List.mem_of_getElem? (i := 75) rfl)
theorem w76 {a0 : Array Value} {Z : State} (hw : HW a0 Z) : (Jvm.Cond.instanceMethod ({ cls := "java/lang/String", name := "charAt", desc := "(I)C" } : Jvm.MethodName) : Jvm.Cond).before a0 Z = true := hw _ (List.mem_of_getElem? (i := 76) rfl)
theorem w77 {a0 : Array Value} {Z : State} (hw : HW a0 Z) : (Jvm.Cond.selects "java/lang/String" ({ cls := "java/lang/String", name := "charAt", desc := "(I)C" } : Jvm.MethodName) ({ cls := "java/lang/String", name := "charAt", desc := "(I)C" } : Jvm.MethodName) : Jvm.Cond).before a0 Z = true := hw _ (List.mem_of_getElem? (i := 77) rfl)
theorem w86 {a0 : Array Value} {Z : State} (hw : HW a0 Z) : (Jvm.Cond.initialized "java/lang/StringLatin1" : Jvm.Cond).before a0 Z = true := hw _ (List.mem_of_getElem? (i := 86) rfl)
theorem w96 {a0 : Array Value} {Z : State} (hw : HW a0 Z) : (Jvm.Cond.methodLink "com/example/wachter/wachter/decision/AccessEqualsPinLaw" (39 : Nat) ({ cls := "com/example/wachter/wachter/decision/Access", name := "equals", desc := "(Ljava/lang/Object;)Z" } : Jvm.MethodName) : Jvm.Cond).before a0 Z = true := hw _ (List.mem_of_getElem? (i := 96) rfl)
theorem w97 {a0 : Array Value} {Z : State} (hw : HW a0 Z) : (Jvm.Cond.declares ({ cls := "com/example/wachter/wachter/decision/Access", name := "equals", desc := "(Ljava/lang/Object;)Z" } : Jvm.MethodName) : Jvm.Cond).before a0 Z = true := hw _ (List.mem_of_getElem? (i := 97) rfl)
theorem w98 {a0 : Array Value} {Z : State} (hw : HW a0 Z) : (Jvm.Cond.instanceMethod ({ cls := "com/example/wachter/wachter/decision/Access", name := "equals", desc := "(Ljava/lang/Object;)Z" } : Jvm.MethodName) : Jvm.Cond).before a0 Z = true := hw _ (List.mem_of_getElem? (i := 98) rfl)
theorem w99 {a0 : Array Value} {Z : State} (hw : HW a0 Z) : (Jvm.Cond.selects "com/example/wachter/wachter/decision/Access" ({ cls := "com/example/wachter/wachter/decision/Access", name := "equals", desc := "(Ljava/lang/Object;)Z" } : Jvm.MethodName) ({ cls := "com/example/wachter/wachter/decision/Access", name := "equals", desc := "(Ljava/lang/Object;)Z" } : Jvm.MethodName) : Jvm.Cond).before a0 Z = true := hw _ (List.mem_of_getElem? (i := 99) rfl)
theorem w100 {a0 : Array Value} {Z : State} (hw : HW a0 Z) : (Jvm.Cond.code ({ cls := "com/example/wachter/wachter/decision/Access", name := "equals", desc := "(Ljava/lang/Object;)Z" } : Jvm.MethodName) prog_1_method_5_code (3 : Nat) (Option.some Jvm.ClassFile.FieldType.boolean) : Jvm.Cond).before a0 Z = true := hw _ (List.mem_of_getElem? (i := 100) rfl)
theorem w101 {a0 : Array Value} {Z : State} (hw : HW a0 Z) : (Jvm.Cond.classLink "com/example/wachter/wachter/decision/Access" (18 : Nat) "com/example/wachter/wachter/decision/Access" : Jvm.Cond).before a0 Z = true := hw _ (List.mem_of_getElem? (i := 101) rfl)
theorem w103 {a0 : Array Value} {Z : State} (hw : HW a0 Z) : (Jvm.Cond.methodLink "com/example/wachter/wachter/decision/Access" (30 : Nat) ({ cls := "java/lang/String", name := "equals", desc := "(Ljava/lang/Object;)Z" } : Jvm.MethodName) : Jvm.Cond).before a0 Z = true := hw _ (List.mem_of_getElem? (i := 103) rfl)
theorem w104 {a0 : Array Value} {Z : State} (hw : HW a0 Z) : (Jvm.Cond.declares ({ cls := "java/lang/String", name := "equals", desc := "(Ljava/lang/Object;)Z" } : Jvm.MethodName) : Jvm.Cond).before a0 Z = true := hw _ (List.mem_of_getElem? (i := 104) rfl)
theorem w105 {a0 : Array Value} {Z : State} (hw : HW a0 Z) : (Jvm.Cond.instanceMethod ({ cls := "java/lang/String", name := "equals", desc := "(Ljava/lang/Object;)Z" } : Jvm.MethodName) : Jvm.Cond).before a0 Z = true := hw _ (List.mem_of_getElem? (i := 105) rfl)
theorem w106 {a0 : Array Value} {Z : State} (hw : HW a0 Z) : (Jvm.Cond.selects "java/lang/String" ({ cls := "java/lang/String", name := "equals", desc := "(Ljava/lang/Object;)Z" } : Jvm.MethodName) ({ cls := "java/lang/String", name := "equals", desc := "(Ljava/lang/Object;)Z" } : Jvm.MethodName) : Jvm.Cond).before a0 Z = true := hw _ (List.mem_of_getElem? (i := 106) rfl)
theorem w108 {a0 : Array Value} {Z : State} (hw : HW a0 Z) : (Jvm.Cond.classLink "java/lang/String" (10 : Nat) "java/lang/String" : Jvm.Cond).before a0 Z = true := hw _ (List.mem_of_getElem? (i := 108) rfl)
theorem w112 {a0 : Array Value} {Z : State} (hw : HW a0 Z) : (Jvm.Cond.superclass "java/lang/String" "java/lang/Object" : Jvm.Cond).before a0 Z = true := hw _ (List.mem_of_getElem? (i := 112) rfl)
theorem w113 {a0 : Array Value} {Z : State} (hw : HW a0 Z) : (Jvm.Cond.noSuperclass "java/lang/Object" : Jvm.Cond).before a0 Z = true := hw _ (List.mem_of_getElem? (i := 113) rfl)
theorem w114 {a0 : Array Value} {Z : State} (hw : HW a0 Z) : (Jvm.Cond.methodLink "com/example/wachter/wachter/decision/AccessEqualsPinLaw" (12 : Nat) ({ cls := "java/lang/String", name := "valueOf", desc := "(C)Ljava/lang/String;" } : Jvm.MethodName) : Jvm.Cond).before a0 Z = true := hw _ (List.mem_of_getElem? (i := 114) rfl)
theorem w115 {a0 : Array Value} {Z : State} (hw : HW a0 Z) : (Jvm.Cond.static ({ cls := "java/lang/String", name := "valueOf", desc := "(C)Ljava/lang/String;" } : Jvm.MethodName) : Jvm.Cond).before a0 Z = true := hw _ (List.mem_of_getElem? (i := 115) rfl)
theorem w116 {a0 : Array Value} {Z : State} (hw : HW a0 Z) : (Jvm.Cond.code ({ cls := "java/lang/String", name := "valueOf", desc := "(C)Ljava/lang/String;" } : Jvm.MethodName) jdk_42_method_139_code (1 : Nat) (Option.some (Jvm.ClassFile.FieldType.object "java/lang/String")) : Jvm.Cond).before a0 Z = true := hw _ (List.mem_of_getElem? (i := 116) rfl)
theorem w117 {a0 : Array Value} {Z : State} (hw : HW a0 Z) : (Jvm.Cond.methodLink "java/lang/String" (1015 : Nat) ({ cls := "java/lang/StringLatin1", name := "canEncode", desc := "(C)Z" } : Jvm.MethodName) : Jvm.Cond).before a0 Z = true := hw _ (List.mem_of_getElem? (i := 117) rfl)
theorem w118 {a0 : Array Value} {Z : State} (hw : HW a0 Z) : (Jvm.Cond.static ({ cls := "java/lang/StringLatin1", name := "canEncode", desc := "(C)Z" } : Jvm.MethodName) : Jvm.Cond).before a0 Z = true := hw _ (List.mem_of_getElem? (i := 118) rfl)
theorem w119 {a0 : Array Value} {Z : State} (hw : HW a0 Z) : (Jvm.Cond.code ({ cls := "java/lang/StringLatin1", name := "canEncode", desc := "(C)Z" } : Jvm.MethodName) jdk_43_method_3_code (1 : Nat) (Option.some Jvm.ClassFile.FieldType.boolean) : Jvm.Cond).before a0 Z = true := hw _ (List.mem_of_getElem? (i := 119) rfl)
theorem w120 {a0 : Array Value} {Z : State} (hw : HW a0 Z) : (Jvm.Cond.methodLink "java/lang/String" (1018 : Nat) ({ cls := "java/lang/StringLatin1", name := "toBytes", desc := "(C)[B" } : Jvm.MethodName) : Jvm.Cond).before a0 Z = true := hw _ (List.mem_of_getElem? (i := 120) rfl)
theorem w121 {a0 : Array Value} {Z : State} (hw : HW a0 Z) : (Jvm.Cond.static ({ cls := "java/lang/StringLatin1", name := "toBytes", desc := "(C)[B" } : Jvm.MethodName) : Jvm.Cond).before a0 Z = true := hw _ (List.mem_of_getElem? (i := 121) rfl)
theorem w122 {a0 : Array Value} {Z : State} (hw : HW a0 Z) : (Jvm.Cond.code ({ cls := "java/lang/StringLatin1", name := "toBytes", desc := "(C)[B" } : Jvm.MethodName) jdk_43_method_46_code (1 : Nat) (Option.some (Jvm.ClassFile.FieldType.array Jvm.ClassFile.FieldType.byte)) : Jvm.Cond).before a0 Z = true := hw _ (List.mem_of_getElem? (i := 122) rfl)
theorem w123 {a0 : Array Value} {Z : State} (hw : HW a0 Z) : (Jvm.Cond.methodLink "java/lang/String" (209 : Nat) ({ cls := "java/lang/String", name := "<init>", desc := "([BB)V" } : Jvm.MethodName) : Jvm.Cond).before a0 Z = true := hw _ (List.mem_of_getElem? (i := 123) rfl)
theorem w124 {a0 : Array Value} {Z : State} (hw : HW a0 Z) : (Jvm.Cond.instanceMethod ({ cls := "java/lang/String", name := "<init>", desc := "([BB)V" } : Jvm.MethodName) : Jvm.Cond).before a0 Z = true := hw _ (List.mem_of_getElem? (i := 124) rfl)
theorem w125 {a0 : Array Value} {Z : State} (hw : HW a0 Z) : (Jvm.Cond.code ({ cls := "java/lang/String", name := "<init>", desc := "([BB)V" } : Jvm.MethodName) jdk_42_method_151_code (3 : Nat) (Option.none : Option Jvm.ClassFile.FieldType) : Jvm.Cond).before a0 Z = true := hw _ (List.mem_of_getElem? (i := 125) rfl)
theorem pd0 : parseMethodDescriptor "([CIILjava/lang/Void;)V" = some ⟨[(.array .char), .int, .int, (.object "java/lang/Void")], none⟩ := by decide +kernel
theorem pd1 : parseMethodDescriptor "(C)Z" = some ⟨[.char], some .boolean⟩ := by decide +kernel
theorem pd2 : parseMethodDescriptor "(C)[B" = some ⟨[.char], some (.array .byte)⟩ := by decide +kernel
theorem pd3 : parseMethodDescriptor "([BB)V" = some ⟨[(.array .byte), .byte], none⟩ := by decide +kernel
theorem pd4 : parseMethodDescriptor "(C)Ljava/lang/String;" = some ⟨[.char], some (.object "java/lang/String")⟩ := by decide +kernel
theorem pd5 : parseMethodDescriptor "([C)V" = some ⟨[(.array .char)], none⟩ := by decide +kernel
theorem pd6 : parseMethodDescriptor "(I)Ljava/lang/String;" = some ⟨[.int], some (.object "java/lang/String")⟩ := by decide +kernel
theorem pd7 : parseMethodDescriptor "(Ljava/lang/Object;Ljava/lang/String;)Ljava/lang/Object;" = some ⟨[(.object "java/lang/Object"), (.object "java/lang/String")], some (.object "java/lang/Object")⟩ := by decide +kernel
theorem pd8 : parseMethodDescriptor "(II)Ljava/lang/String;" = some ⟨[.int, .int], some (.object "java/lang/String")⟩ := by decide +kernel
theorem pd9 : parseMethodDescriptor "(Ljava/lang/String;Ljava/lang/String;Ljava/lang/String;)V" = some ⟨[(.object "java/lang/String"), (.object "java/lang/String"), (.object "java/lang/String")], none⟩ := by decide +kernel
theorem pd10 : parseMethodDescriptor "(Ljava/lang/Object;)Z" = some ⟨[(.object "java/lang/Object")], some .boolean⟩ := by decide +kernel
theorem pd11 : parseMethodDescriptor "(Ljava/lang/String;Ljava/lang/String;)Z" = some ⟨[(.object "java/lang/String"), (.object "java/lang/String")], some .boolean⟩ := by decide +kernel
theorem pd12 : parseMethodDescriptor "()I" = some ⟨[], some .int⟩ := by decide +kernel
theorem pd13 : parseMethodDescriptor "(I)C" = some ⟨[.int], some .char⟩ := by decide +kernel
theorem pn0 : plainName "java/lang/String" = true := by first | (simp [plainName, overriddenIn]; done) | decide +kernel
theorem pn1 : plainName "java/lang/StringLatin1" = true := by first | (simp [plainName, overriddenIn]; done) | decide +kernel
theorem pn2 : plainName "java/util/Objects" = true := by first | (simp [plainName, overriddenIn]; done) | decide +kernel
theorem pn3 : plainName "com/example/wachter/wachter/decision/AccessEqualsPinLaw" = true := by first | (simp [plainName, overriddenIn]; done) | decide +kernel
theorem pn4 : plainName "com/example/wachter/wachter/decision/Access" = true := by first | (simp [plainName, overriddenIn]; done) | decide +kernel
theorem efN4 (m : MethodId) (x0 : Addr) (x1 : Addr) (x2 : Int32) (x3 : Int32) : entryFrame m #[(.ref x0), (.ref x1), (.int x2), (.int x3), .null] 6 = mkF m 0 #[.val (.ref x0), .val (.ref x1), .val (.int x2), .val (.int x3), .val .null, .unset] [] := by first | (simp [entryFrame, mkF, argsToLocals, Value.category]; done) | rfl
theorem ef1 (m : MethodId) (x0 : Addr) (x1 : Addr) : entryFrame m #[(.ref x0), (.ref x1)] 2 = mkF m 0 #[.val (.ref x0), .val (.ref x1)] [] := by first | (simp [entryFrame, mkF, argsToLocals, Value.category]; done) | rfl
theorem ef2 (m : MethodId) (x0 : Int32) : entryFrame m #[(.int x0)] 1 = mkF m 0 #[.val (.int x0)] [] := by first | (simp [entryFrame, mkF, argsToLocals, Value.category]; done) | rfl
theorem ef3 (m : MethodId) (x0 : Addr) (x1 : Addr) (x2 : Int32) : entryFrame m #[(.ref x0), (.ref x1), (.int x2)] 3 = mkF m 0 #[.val (.ref x0), .val (.ref x1), .val (.int x2)] [] := by first | (simp [entryFrame, mkF, argsToLocals, Value.category]; done) | rfl
theorem ef4 (m : MethodId) (x0 : Int32) : entryFrame m #[(.int x0)] 5 = mkF m 0 #[.val (.int x0), .unset, .unset, .unset, .unset] [] := by first | (simp [entryFrame, mkF, argsToLocals, Value.category]; done) | rfl
theorem ef5 (m : MethodId) (x0 : Int32) (x1 : Int32) : entryFrame m #[(.int x0), (.int x1)] 2 = mkF m 0 #[.val (.int x0), .val (.int x1)] [] := by first | (simp [entryFrame, mkF, argsToLocals, Value.category]; done) | rfl
theorem ef6 (m : MethodId) (x0 : Addr) (x1 : Addr) (x2 : Addr) (x3 : Addr) : entryFrame m #[(.ref x0), (.ref x1), (.ref x2), (.ref x3)] 4 = mkF m 0 #[.val (.ref x0), .val (.ref x1), .val (.ref x2), .val (.ref x3)] [] := by first | (simp [entryFrame, mkF, argsToLocals, Value.category]; done) | rfl
theorem ef7 (m : MethodId) (x0 : Addr) (x1 : Addr) : entryFrame m #[(.ref x0), (.ref x1)] 3 = mkF m 0 #[.val (.ref x0), .val (.ref x1), .unset] [] := by first | (simp [entryFrame, mkF, argsToLocals, Value.category]; done) | rfl
theorem ef8 (m : MethodId) (x0 : Addr) : entryFrame m #[(.ref x0), .null] 3 = mkF m 0 #[.val (.ref x0), .val .null, .unset] [] := by first | (simp [entryFrame, mkF, argsToLocals, Value.category]; done) | rfl
theorem ef9 (m : MethodId) (x0 : Int32) (x1 : Int32) (x2 : Int32) (x3 : Int32) (x4 : Int32) (x5 : Int32) : entryFrame m #[(.int x0), (.int x1), (.int x2), (.int x3), (.int x4), (.int x5)] maxLocals = mkF m 0 #[.val (.int x0), .val (.int x1), .val (.int x2), .val (.int x3), .val (.int x4), .val (.int x5), .unset, .unset, .unset, .unset, .unset, .unset, .unset, .unset, .unset, .unset] [] := by first | (simp [entryFrame, mkF, argsToLocals, Value.category, maxLocals]; done) | rfl
abbrev ST : String := "java/lang/String"
def Ctx (Z : State) (a0 : Array Value) : Prop := HW a0 Z ∧ EW Z a0 EL1 ∧ (∃ z1 : Int32, Sta Z Z.heap "java/lang/String" "COMPACT_STRINGS" "Z" (.int z1) ∧ ¬ z1 = 0) ∧ (∃ fm : Value, Sta Z Z.heap "jdk/internal/util/Preconditions" "SIOOBE_FORMATTER" "Ljava/util/function/BiFunction;" fm ∧ fm.isRef = true)
theorem Ctx.hw {Z : State} {a0 : Array Value} (X : Ctx Z a0) : HW a0 Z := X.1
theorem Ctx.ew {Z : State} {a0 : Array Value} (X : Ctx Z a0) : EW Z a0 EL1 := X.2.1
theorem sAtoms {Z : State} {a0 : Array Value} (hw : HW a0 Z) : ∀ a ∈ Bundle.stringAtoms, a.before a0 Z = true := fun d hd => hw d ((by decide +kernel : ∀ d ∈ Bundle.stringAtoms, d ∈ tables_1) d hd)
/-- the String at a spells cs -/
def StrF (Z : State) (h : Heap) (a : Addr) (cs : List Int32) : Prop := ∃ (t : Addr) (kb : ClassId) (cd N2 : Int32) (vs : List Value), Exa Z h a ST ∧ Fld Z h a ST "value" "[B" (.ref t) ∧ Fld Z h a ST "coder" "B" (.int cd) ∧ Arv Z h t kb .byte N2 vs (.int 0) ∧ StrChars.Road.CodA cs cd N2 vs ∧ (∀ c ∈ cs, ¬ c < 0 ∧ ¬ (65535 : Int32) < c) ∧ cs.length ≤ 4000
theorem StrF.ext {Z : State} {h h' : Heap} {a : Addr} {cs : List Int32} (F : StrF Z h a cs) (E : Ext h h') : StrF Z h' a cs := by
  obtain ⟨t, kb, cd, N2, vs, f1, f2, f3, f4, r⟩ := F; exact ⟨t, kb, cd, N2, vs, f1.ext E, f2.ext E, f3.ext E, f4.ext E, r⟩
theorem StrF.keep {Z : State} {h h' : Heap} {a x : Addr} {cs : List Int32} {C : String} {a0 : Array Value} {kk : Nat} (F : StrF Z h a cs) (K : Keep h h' [x]) (Ex : Exa Z h x C) (hC : C ≠ "java/lang/String") (wi : (Jvm.Cond.instantiable C kk).before a0 Z = true) : StrF Z h' a cs := by
  obtain ⟨t, kb, cd, N2, vs, f1, f2, f3, f4, r⟩ := F
  have n1 : a ∉ [x] := ninS (fun e => ne_exa Ex f1 hC e.symm) nin0
  have n2 : t ∉ [x] := ninS (fun e => by obtain ⟨c, A, -⟩ := f4; exact ne_arr Ex wi A e.symm) nin0
  exact ⟨t, kb, cd, N2, vs, f1.keep K, f2.keep K n1, f3.keep K n1, f4.keep K n2, r⟩
theorem StrF.exa {Z : State} {h : Heap} {a : Addr} {cs : List Int32} (F : StrF Z h a cs) : Exa Z h a ST := by obtain ⟨t, kb, cd, N2, vs, f1, r⟩ := F; exact f1
theorem StrF.lt {Z : State} {h : Heap} {a : Addr} {cs : List Int32} (F : StrF Z h a cs) : a < h.size := F.exa.lt
theorem up255 {cs : List Int32} (h : ∀ c ∈ cs, ¬ c < 0 ∧ ¬ (255 : Int32) < c) : ∀ c ∈ cs, ¬ c < 0 ∧ ¬ (65535 : Int32) < c := fun c hc => ⟨(h c hc).1, fun q => (h c hc).2 (by rw [Int32.lt_iff_toInt_lt] at q ⊢; have e1 : (65535 : Int32).toInt = 65535 := rfl; have e2 : (255 : Int32).toInt = 255 := rfl; omega)⟩
/-- a literal of EL1 is such a String -/
theorem StrF.lit {Z : State} {h : Heap} {a t : Addr} {kt : ClassId} {cs : List Int32} {z : Int32} {vs : List Value} (f1 : Exa Z h a ST) (f2 : Fld Z h a ST "coder" "B" (.int 0)) (f3 : Fld Z h a ST "value" "[B" (.ref t)) (f4 : Arv Z h t kt .byte z vs (.int 0)) (hz : z = Int32.ofNat cs.length) (hv : vs = (cs.map StrChars.lo8).map Value.int) (hp : ∀ c ∈ cs, ¬ c < 0 ∧ ¬ (255 : Int32) < c) (hl : cs.length ≤ 4000) : StrF Z h a cs := by
  subst hz hv
  exact ⟨t, kt, 0, _, _, f1, f3, f2, f4, StrChars.Road.codOf rfl (fun c hc => (hp c hc).2), up255 hp, hl⟩
theorem wdsV {Z : State} {a0 : Array Value} (hw : HW a0 Z) : ∀ d ∈ StrChars.Road.words, d.before a0 Z = true := fun d hd => hw d ((by decide +kernel : ∀ d ∈ StrChars.Road.words, d ∈ tables_1) d hd)
theorem g_newStr {p : Program} {l : Launch} {e : Env} {R : Room} {s : State} {m : MethodId} {args : Array Value} {below : List Frame} {meth : Method} {c : Code} {Z : State} {a0 : Array Value} {EL : List (String × Nat)} {n0 : Nat} {own : String} {T : State} {V : Vm} {h : Heap} {k n : Nat} {Q : Outcome → State → Prop} {pc : Nat} {Ls : Array Slot} {rest : List Value} (S : St p l e R s m args below meth c Z a0 EL n0 own T V h k n) (X : Ctx Z a0) {x b : Addr} {kC : ClassId} {cs : List Int32} {N : Int32} {dv v0 c0 : Value} {index : Nat} (l0 : 0 < cs.length) (l2 : cs.length ≤ 4000) (hN : N = Int32.ofNat cs.length) (na : n0 ≤ x) (sf : Safe Z EL V h x) (E : Exa Z h x ST) (Fv : Fld Z h x ST "value" "[B" v0) (Fc : Fld Z h x ST "coder" "B" c0) (K : Arv Z h b kC .char N (cs.map Value.int) dv) (hp : ∀ c ∈ cs, ¬ c < 0 ∧ ¬ (255 : Int32) < c)
    (wl : (Jvm.Cond.methodLink own index (⟨"java/lang/String", "<init>", "([C)V"⟩ : MethodName)).before a0 Z = true) (hd : decode c.code pc = .ok (.invokespecial index, 3)) (hsz : Ls.size = c.maxLocals) (hfr : 4 ≤ R.frames) (hlo : (rest.map fun v => v.category).sum + 65 ≤ R.locals) (hc : k + 1 ≤ R.cells) (hs : n + cs.length ≤ R.slots)
    (go : ∀ T' h', St p l e R s m args below meth c Z a0 EL n0 own T' V h' (k + 1) (n + cs.length) → Keep h h' [x] → StrF Z h' x cs → Go p e below Q (T'.setTop (mkF m (pc + 3) Ls rest))) : Go p e below Q (T.setTop (mkF m pc Ls (.ref b :: .ref x :: rest))) := by
  have hw := X.hw
  obtain ⟨z1, hz1, hz2⟩ := X.2.2.1
  refine g_specialB S (rc := 1) (rs := cs.length) (as' := #[.ref x, .ref b]) (W := (rest.map fun v => v.category).sum) (fun s' hZ' => StrChars.Road.backV hZ' (wdsV hw) (w5 hw) (n0 := n0) na S.le E Fv Fc K (hz1.ext S.old.2) hz2 rfl hN l0 l2 hp rfl hfr hlo) rfl wl (w9 hw) (w10 hw) (by decide) hd hsz x [.ref b] (lenOf pd5 rfl) rfl rfl (Nat.le_refl _) hc hs ?_ ?_
  · intro v h' L q
    exact ⟨q.2.1, [x], q.2.2.1, sfS sf sf0, allS na all0⟩
  · intro v T' h' L S' q
    obtain ⟨rfl, -, K', f1, f2, t, kb, -, -, -, f3, f4⟩ := q
    refine go T' h' S' K' ?_
    subst hN
    exact ⟨t, kb, 0, _, _, f1, f3, f2, f4, StrChars.Road.codOf rfl (fun c hc => (hp c hc).2), up255 hp, l2⟩
theorem wdsEq {Z : State} {a0 : Array Value} (hw : HW a0 Z) : ∀ d ∈ StrChars.Road.wordsEq, d.before a0 Z = true := fun d hd => hw d ((by decide +kernel : ∀ d ∈ StrChars.Road.wordsEq, d ∈ tables_1) d hd)
theorem g_strEq {p : Program} {l : Launch} {e : Env} {R : Room} {s : State} {m : MethodId} {args : Array Value} {below : List Frame} {meth : Method} {c : Code} {Z : State} {a0 : Array Value} {EL : List (String × Nat)} {n0 : Nat} {own : String} {T : State} {V : Vm} {h : Heap} {k n : Nat} {Q : Outcome → State → Prop} {pc : Nat} {Ls : Array Slot} {rest : List Value} (S : St p l e R s m args below meth c Z a0 EL n0 own T V h k n) (X : Ctx Z a0) {x y : Addr} {cs ds : List Int32} {index : Nat} (F : StrF Z h x cs) (G : StrF Z h y ds) (wl : (Jvm.Cond.methodLink own index (⟨"java/lang/String", "equals", "(Ljava/lang/Object;)Z"⟩ : MethodName)).before a0 Z = true) (hd : decode c.code pc = .ok (.invokevirtual index, 3)) (hsz : Ls.size = c.maxLocals) (hfr : 2 ≤ R.frames) (hlo : (rest.map fun v => v.category).sum + 28 ≤ R.locals) (hc : k ≤ R.cells) (hs : n ≤ R.slots)
    (go : ∀ T' b, St p l e R s m args below meth c Z a0 EL n0 own T' V h k n → ((b = (1 : Int32) ∧ cs = ds) ∨ (b = (0 : Int32) ∧ ¬ cs = ds)) → Go p e below Q (T'.setTop (mkF m (pc + 3) Ls (.int b :: rest)))) : Go p e below Q (T.setTop (mkF m pc Ls (.ref y :: .ref x :: rest))) := by
  have hw := X.hw
  obtain ⟨z1, hz1, hz2⟩ := X.2.2.1
  obtain ⟨t, kb, cd, N2, vs, f1, f2, f3, f4, f5, f6, f7⟩ := F
  obtain ⟨t', kb', cd', N2', vs', g1, g2, g3, g4, g5, g6, g7⟩ := G
  refine g_virtualB S (rc := 0) (rs := 0) (QB := fun v h' L => ((v = some (.int 1) ∧ cs = ds) ∨ (v = some (.int 0) ∧ ¬ cs = ds)) ∧ L = [] ∧ h' = h) (as' := #[.ref x, .ref y]) (W := (rest.map fun v => v.category).sum) (fun s' hZ' => StrChars.Road.eqW hZ' (wdsEq hw) (w5 hw) f1 f2 f3 f4 f5 f6 f7 g1 g2 g3 g4 g5 g6 g7 (hz1.ext S.old.2) hz2 hfr hlo) wl (w104 hw) (w106 hw) (w105 hw) (by decide) (fun _ h => notFace_of_selects h) hd hsz x f1 [.ref y] (lenOf pd10 rfl) rfl rfl (Nat.le_refl _) hc hs ?_ ?_
  · intro v h' L q
    obtain ⟨-, rfl, rfl⟩ := q
    exact ⟨Fr.nil n0, [], Keep.refl _ _, sf0, all0⟩
  · intro v T' h' L S' q
    obtain ⟨q, rfl, rfl⟩ := q
    rcases q with ⟨rfl, q⟩ | ⟨rfl, q⟩
    · exact go T' 1 S' (Or.inl ⟨rfl, q⟩)
    · exact go T' 0 S' (Or.inr ⟨rfl, q⟩)
theorem wdsLen {Z : State} {a0 : Array Value} (hw : HW a0 Z) : ∀ d ∈ StrChars.Road.wordsLen, d.before a0 Z = true := fun d hd => hw d ((by decide +kernel : ∀ d ∈ StrChars.Road.wordsLen, d ∈ tables_1) d hd)
theorem g_strLen {p : Program} {l : Launch} {e : Env} {R : Room} {s : State} {m : MethodId} {args : Array Value} {below : List Frame} {meth : Method} {c : Code} {Z : State} {a0 : Array Value} {EL : List (String × Nat)} {n0 : Nat} {own : String} {T : State} {V : Vm} {h : Heap} {k n : Nat} {Q : Outcome → State → Prop} {pc : Nat} {Ls : Array Slot} {rest : List Value} (S : St p l e R s m args below meth c Z a0 EL n0 own T V h k n) (X : Ctx Z a0) {x : Addr} {cs : List Int32} {index : Nat} (F : StrF Z h x cs) (wl : (Jvm.Cond.methodLink own index (⟨"java/lang/String", "length", "()I"⟩ : MethodName)).before a0 Z = true) (hd : decode c.code pc = .ok (.invokevirtual index, 3)) (hsz : Ls.size = c.maxLocals) (hfr : 2 ≤ R.frames) (hlo : (rest.map fun v => v.category).sum + 25 ≤ R.locals) (hc : k ≤ R.cells) (hs : n ≤ R.slots)
    (go : ∀ T', St p l e R s m args below meth c Z a0 EL n0 own T' V h k n → Go p e below Q (T'.setTop (mkF m (pc + 3) Ls (.int (Int32.ofNat cs.length) :: rest)))) : Go p e below Q (T.setTop (mkF m pc Ls (.ref x :: rest))) := by
  have hw := X.hw
  obtain ⟨z1, hz1, hz2⟩ := X.2.2.1
  obtain ⟨t, kb, cd, N2, vs, f1, f2, f3, f4, f5, f6, f7⟩ := F
  refine g_virtualB S (rc := 0) (rs := 0) (QB := fun v h' L => v = some (.int (Int32.ofNat cs.length)) ∧ L = [] ∧ h' = h) (as' := #[.ref x]) (W := (rest.map fun v => v.category).sum) (fun s' hZ' => StrChars.Road.lenW hZ' (wdsLen hw) (w5 hw) f1 f2 f3 f4 f5 f6 (hz1.ext S.old.2) hz2 f7 hfr hlo) wl (w65 hw) (w67 hw) (w66 hw) (by decide) (fun _ h => notFace_of_selects h) hd hsz x f1 [] (lenOf pd12 rfl) rfl rfl (Nat.le_refl _) hc hs ?_ ?_
  · intro v h' L q
    obtain ⟨-, rfl, rfl⟩ := q
    exact ⟨Fr.nil n0, [], Keep.refl _ _, sf0, all0⟩
  · intro v T' h' L S' q
    obtain ⟨rfl, rfl, rfl⟩ := q
    exact go T' S'
theorem wdsCh {Z : State} {a0 : Array Value} (hw : HW a0 Z) : ∀ d ∈ StrChars.Road.wordsChN, d.before a0 Z = true := fun d hd => hw d ((by decide +kernel : ∀ d ∈ StrChars.Road.wordsChN, d ∈ tables_1) d hd)
theorem g_strChar {p : Program} {l : Launch} {e : Env} {R : Room} {s : State} {m : MethodId} {args : Array Value} {below : List Frame} {meth : Method} {c : Code} {Z : State} {a0 : Array Value} {EL : List (String × Nat)} {n0 : Nat} {own : String} {T : State} {V : Vm} {h : Heap} {k n : Nat} {Q : Outcome → State → Prop} {pc : Nat} {Ls : Array Slot} {rest : List Value} (S : St p l e R s m args below meth c Z a0 EL n0 own T V h k n) (X : Ctx Z a0) {x : Addr} {cs : List Int32} {index i : Nat} {j : Int32} (F : StrF Z h x cs) (hlat : ∀ c ∈ cs, ¬ (255 : Int32) < c) (hi : i < cs.length) (hj : j = Int32.ofNat i) (wl : (Jvm.Cond.methodLink own index (⟨"java/lang/String", "charAt", "(I)C"⟩ : MethodName)).before a0 Z = true) (hd : decode c.code pc = .ok (.invokevirtual index, 3)) (hsz : Ls.size = c.maxLocals) (hfr : 4 ≤ R.frames) (hlo : (rest.map fun v => v.category).sum + 53 ≤ R.locals) (hc : k ≤ R.cells) (hs : n ≤ R.slots)
    (go : ∀ T', St p l e R s m args below meth c Z a0 EL n0 own T' V h k n → Go p e below Q (T'.setTop (mkF m (pc + 3) Ls (.int (cs.getD i 0) :: rest)))) : Go p e below Q (T.setTop (mkF m pc Ls (.int j :: .ref x :: rest))) := by
  have hw := X.hw
  obtain ⟨z1, hz1, hz2⟩ := X.2.2.1
  obtain ⟨fm, hfm, rfm⟩ := X.2.2.2
  obtain ⟨t, kb, cd, N2, vs, f1, f2, f3, f4, f5, f6, f7⟩ := F
  have hcd : cd = 0 := by
    rcases f5 with ⟨q, -⟩ | ⟨-, -, -, c, hc, hb⟩
    · exact q
    · exact absurd hb (hlat c hc)
  subst hcd
  refine g_virtualB S (rc := 0) (rs := 0) (QB := fun v h' L => v = some (.int (cs.getD i 0)) ∧ L = [] ∧ h' = h) (as' := #[.ref x, .int j]) (W := (rest.map fun v => v.category).sum) (fun s' hZ' => StrChars.Road.chN hZ' (wdsCh hw) (w5 hw) f1 f2 f3 f4 f5 f6 (hz1.ext S.old.2) hz2 (hfm.ext S.old.2) rfm f7 hi hj hfr hlo) wl (w75 hw) (w77 hw) (w76 hw) (by decide) (fun _ h => notFace_of_selects h) hd hsz x f1 [.int j] (lenOf pd13 rfl) rfl rfl (Nat.le_refl _) hc hs ?_ ?_
  · intro v h' L q
    obtain ⟨-, rfl, rfl⟩ := q
    exact ⟨Fr.nil n0, [], Keep.refl _ _, sf0, all0⟩
  · intro v T' h' L S' q
    obtain ⟨rfl, rfl, rfl⟩ := q
    exact go T' S'
theorem i2c255 (x : Int32) : ¬ (x &&& (255 : Int32)).toUInt32.toUInt16.toUInt32.toInt32 < 0 ∧ ¬ (255 : Int32) < (x &&& (255 : Int32)).toUInt32.toUInt16.toUInt32.toInt32 := by
  rw [i2c_mask]; exact and255 x
theorem own_len3 {cs : List Int32} (h : cs.length ≤ 3) : cs = [] ∨ (∃ a, cs = [a]) ∨ (∃ a b, cs = [a, b]) ∨ ∃ a b c, cs = [a, b, c] := by
  match cs, h with
  | [], _ => exact Or.inl rfl
  | [a], _ => exact Or.inr (Or.inl ⟨a, rfl⟩)
  | [a, b], _ => exact Or.inr (Or.inr (Or.inl ⟨a, b, rfl⟩))
  | [a, b, c], _ => exact Or.inr (Or.inr (Or.inr ⟨a, b, c, rfl⟩))
  | _ :: _ :: _ :: _ :: _, h => simp at h

end Jvm.Pilot.@@N@@

namespace Jvm.Pilot.@@N@@
open Jvm Jvm.ClassFile Sem Op Lib Jvm.Free Jvm.Stand Jvm.LawKit Jvm.RoadKit Jvm.OwnKit Bundle Jvm.Pilot.@@N@@.Jvm.D
theorem tlt_no {x y : Int32} (h : ¬ y < x) : if_icmp.holds .gt x y = false := (flt h).2.2.1
theorem lo8_lo8 (x : Int32) : StrChars.lo8 (StrChars.lo8 x) = StrChars.lo8 x := by simp [StrChars.lo8]
theorem dN4_0 : decode jdk_42_method_149_code 0 = .ok (.aload_n 0, 1) := by decide +kernel
theorem dN4_1 : decode jdk_42_method_149_code 1 = .ok (.invokespecial 1, 3) := by decide +kernel
theorem dN4_4 : decode jdk_42_method_149_code 4 = .ok (.iload_n 3, 1) := by decide +kernel
theorem dN4_5 : decode jdk_42_method_149_code 5 = .ok (.ifCond .ne 22, 3) := by decide +kernel
theorem dN4_8 : decode jdk_42_method_149_code 8 = .ok (.aload_n 0, 1) := by decide +kernel
theorem dN4_9 : decode jdk_42_method_149_code 9 = .ok (.ldc 7, 2) := by decide +kernel
theorem dN4_11 : decode jdk_42_method_149_code 11 = .ok (.getfield 9, 3) := by decide +kernel
theorem dN4_14 : decode jdk_42_method_149_code 14 = .ok (.putfield 9, 3) := by decide +kernel
theorem dN4_17 : decode jdk_42_method_149_code 17 = .ok (.aload_n 0, 1) := by decide +kernel
theorem dN4_18 : decode jdk_42_method_149_code 18 = .ok (.ldc 7, 2) := by decide +kernel
theorem dN4_20 : decode jdk_42_method_149_code 20 = .ok (.getfield 15, 3) := by decide +kernel
theorem dN4_23 : decode jdk_42_method_149_code 23 = .ok (.putfield 15, 3) := by decide +kernel
theorem dN4_26 : decode jdk_42_method_149_code 26 = .ok (.return_, 1) := by decide +kernel
set_option maxRecDepth 65536 in
set_option maxHeartbeats 40000000 in
theorem rmN4 {l : Launch} {Z : State} {a0 : Array Value} {n0 : Nat} (X : Ctx Z a0) {x b : Addr} {v0 c0 : Value} (na : n0 ≤ x) {h : Heap} (hO : Old Z n0 h) (E : Exa Z h x ST) (Fv : Fld Z h x ST "value" "[B" v0) (Fc : Fld Z h x ST "coder" "B" c0) :
    Ctr l Z EL1 n0 (⟨"java/lang/String", "<init>", "([CIILjava/lang/Void;)V"⟩ : MethodName) jdk_42_method_149_code 6 none ({ frames := 1, cells := 4, slots := 8, locals := 14 } : Room) #[(.ref x), (.ref b), (.int (0 : Int32)), (.int (0 : Int32)), .null] h [x] (fun v h' => v = none ∧ Keep h h' [x] ∧ StrF Z h' x []) := by
  have hw := X.hw
  obtain ⟨z1, hz1, hz2⟩ := X.2.2.1
  refine Ctr.intro (a0 := a0) (plainFor_of_name pn0) hO X.ew ?_
  intro p e s m below meth c T0 V0 S0 hby hml hret hnm hsf
  rw [efN4]
  refine s_aloadN S0 (hb hby dN4_0) rfl rfl (pc' := 1) rfl ?_
  refine g_initO S0 (w15 hw) (w16 hw) (w17 hw) (by rw [hml]; rfl) (hb hby dN4_1) (Nat.le_of_ble_eq_true rfl) (Nat.le_of_ble_eq_true rfl) ?_
  intro T1 ST1
  show Go p e below _ (T1.setTop (mkF m 4 #[.val (.ref x), .val (.ref b), .val (.int (0 : Int32)), .val (.int (0 : Int32)), .val .null, .unset] []))
  refine s_iloadN ST1 (hb hby dN4_4) rfl (pc' := 5) rfl ?_
  refine s_ifN ST1 (hb hby dN4_5) (by decide) (pc' := 8) rfl ?_
  refine s_aloadN ST1 (hb hby dN4_8) rfl rfl (pc' := 9) rfl ?_
  show Go p e below _ (T1.setTop (mkF m 9 #[.val (.ref x), .val (.ref b), .val (.int (0 : Int32)), .val (.int (0 : Int32)), .val .null, .unset] [(.ref x)]))
  refine g_ldcS ST1 (hw _ (List.mem_of_getElem? (i := 18) rfl)) (sAtoms hw) (by decide) (vs := []) (z := (0 : Int32)) ⟨by decide +kernel, by decide +kernel⟩ (by decide) rfl (hb hby dN4_9) (b := 0) (by decide +kernel) (by decide) (Nat.le_of_ble_eq_true rfl) (Nat.le_of_ble_eq_true rfl) ?_
  intro b2 T2 V2 h2 t2 kt2 S2 E2 C2 f2a f2b f2c f2d f2e
  have sf3 := C2.safe E.lt (hsf x List.mem_cons_self)
  have F2 : StrF Z h2 b2 [] := StrF.lit f2a f2b f2c f2d rfl rfl (by decide) (by decide)
  show Go p e below _ (T2.setTop (mkF m 11 #[.val (.ref x), .val (.ref b), .val (.int (0 : Int32)), .val (.int (0 : Int32)), .val .null, .unset] [(.ref b2), (.ref x)]))
  refine g_getF S2 (w24 hw) Via.refl f2c (hb hby dN4_11) ?_
  intro T91 S91
  show Go p e below _ (T91.setTop (mkF m 14 #[.val (.ref x), .val (.ref b), .val (.int (0 : Int32)), .val (.int (0 : Int32)), .val .null, .unset] [(.ref t2), (.ref x)]))
  have Ex1 := E.ext E2
  have Fv1 := Fv.ext E2
  have Fc1 := Fc.ext E2
  have ne1 := f2e x sf3
  refine g_putF S91 (w24 hw) Via.refl Fv1 Ex1 (Or.inr ⟨(w20 hw), rfl, hnm⟩) (w5 hw) (ty := .array .byte) (by decide) rfl rfl na sf3 (hb hby dN4_14) ?_
  intro T92 h92 S92 K92 W92 Ex2 Fv2 sf92
  have Fc2 := Fc1.other W92 (Or.inr (slot_ne (Or.inr (w21 hw)) (Or.inr (w20 hw)) (by decide) (t := .byte) (t' := .array .byte) (by decide) (by decide)))
  have At2 := f2d.keep K92 (ninS (Ne.symm ne1.2) nin0)
  show Go p e below _ (T92.setTop (mkF m 17 #[.val (.ref x), .val (.ref b), .val (.int (0 : Int32)), .val (.int (0 : Int32)), .val .null, .unset] []))
  refine s_aloadN S92 (hb hby dN4_17) rfl rfl (pc' := 18) rfl ?_
  show Go p e below _ (T92.setTop (mkF m 18 #[.val (.ref x), .val (.ref b), .val (.int (0 : Int32)), .val (.int (0 : Int32)), .val .null, .unset] [(.ref x)]))
  refine g_ldcS S92 (hw _ (List.mem_of_getElem? (i := 18) rfl)) (sAtoms hw) (by decide) (vs := []) (z := (0 : Int32)) ⟨by decide +kernel, by decide +kernel⟩ (by decide) rfl (hb hby dN4_18) (b := 0) (by decide +kernel) (by decide) (Nat.le_of_ble_eq_true rfl) (Nat.le_of_ble_eq_true rfl) ?_
  intro b4 T4 V4 h4 t4 kt4 S4 E4 C4 f4a f4b f4c f4d f4e
  have sf5 := C4.safe Ex2.lt sf92
  have F4 : StrF Z h4 b4 [] := StrF.lit f4a f4b f4c f4d rfl rfl (by decide) (by decide)
  show Go p e below _ (T4.setTop (mkF m 20 #[.val (.ref x), .val (.ref b), .val (.int (0 : Int32)), .val (.int (0 : Int32)), .val .null, .unset] [(.ref b4), (.ref x)]))
  refine g_getF S4 (w25 hw) Via.refl f4b (hb hby dN4_20) ?_
  intro T93 S93
  show Go p e below _ (T93.setTop (mkF m 23 #[.val (.ref x), .val (.ref b), .val (.int (0 : Int32)), .val (.int (0 : Int32)), .val .null, .unset] [(.int (0 : Int32)), (.ref x)]))
  refine g_putF S93 (w25 hw) Via.refl (Fc2.ext E4) (Ex2.ext E4) (Or.inr ⟨(w21 hw), rfl, hnm⟩) (w5 hw) (ty := .byte) (v' := .int 0) (by decide) rfl rfl na sf5 (hb hby dN4_23) ?_
  intro T94 h94 S94 K94 W94 Ex4 Fc4 sf94
  have Fv4 := (Fv2.ext E4).other W94 (Or.inr (slot_ne (Or.inr (w20 hw)) (Or.inr (w21 hw)) (by decide) (t := .array .byte) (t' := .byte) (by decide) (by decide)))
  have ne2 : t2 ≠ x := Ne.symm ne1.2
  have At4 := (At2.ext E4).keep K94 (ninS ne2 nin0)
  have KK : Keep h h94 [x] := ((((Keep.refl h [x]).ext E2).trans K92 (fun y hy => Or.inl hy)).ext E4).trans K94 (fun y hy => Or.inl hy)
  show Go p e below _ (T94.setTop (mkF m 26 #[.val (.ref x), .val (.ref b), .val (.int (0 : Int32)), .val (.int (0 : Int32)), .val .null, .unset] []))
  exact g_ret S94 (hb hby dN4_26) hret ⟨rfl, KK, t2, kt2, 0, _, _, Ex4, Fv4, Fc4, At4, StrChars.Road.codOf (cs := []) rfl fa0, fa0, by decide⟩
theorem dN1_0 : decode jdk_42_method_3_code 0 = .ok (.aload_n 0, 1) := by decide +kernel
theorem dN1_1 : decode jdk_42_method_3_code 1 = .ok (.aload_n 1, 1) := by decide +kernel
theorem dN1_2 : decode jdk_42_method_3_code 2 = .ok (.iconst 0, 1) := by decide +kernel
theorem dN1_3 : decode jdk_42_method_3_code 3 = .ok (.aload_n 1, 1) := by decide +kernel
theorem dN1_4 : decode jdk_42_method_3_code 4 = .ok (.arraylength, 1) := by decide +kernel
theorem dN1_5 : decode jdk_42_method_3_code 5 = .ok (.aconst_null, 1) := by decide +kernel
theorem dN1_6 : decode jdk_42_method_3_code 6 = .ok (.invokespecial 27, 3) := by decide +kernel
theorem dN1_9 : decode jdk_42_method_3_code 9 = .ok (.return_, 1) := by decide +kernel
set_option maxRecDepth 65536 in
set_option maxHeartbeats 40000000 in
theorem rmN1 {l : Launch} {Z : State} {a0 : Array Value} {n0 : Nat} (X : Ctx Z a0) {x b : Addr} {kb : ClassId} {v0 c0 dv : Value} {vs : List Value} (na : n0 ≤ x) {h : Heap} (hO : Old Z n0 h) (E : Exa Z h x ST) (Fv : Fld Z h x ST "value" "[B" v0) (Fc : Fld Z h x ST "coder" "B" c0) (Vb : Arv Z h b kb .char (0 : Int32) vs dv) :
    Ctr l Z EL1 n0 (⟨"java/lang/String", "<init>", "([C)V"⟩ : MethodName) jdk_42_method_3_code 2 none ({ frames := 2, cells := 4, slots := 8, locals := 33 } : Room) #[(.ref x), (.ref b)] h [x] (fun v h' => v = none ∧ Keep h h' [x] ∧ StrF Z h' x []) := by
  have hw := X.hw
  obtain ⟨z1, hz1, hz2⟩ := X.2.2.1
  refine Ctr.intro (a0 := a0) (plainFor_of_name pn0) hO X.ew ?_
  intro p e s m below meth c T0 V0 S0 hby hml hret hnm hsf
  rw [ef1]
  refine s_aloadN S0 (hb hby dN1_0) rfl rfl (pc' := 1) rfl ?_
  refine s_aloadN S0 (hb hby dN1_1) rfl rfl (pc' := 2) rfl ?_
  refine s_iconst S0 (hb hby dN1_2) (v := (0 : Int32)) rfl (pc' := 3) rfl ?_
  refine s_aloadN S0 (hb hby dN1_3) rfl rfl (pc' := 4) rfl ?_
  refine g_len S0 Vb (hb hby dN1_4) ?_
  show Go p e below _ (T0.setTop (mkF m 5 #[.val (.ref x), .val (.ref b)] [(.int (0 : Int32)), (.int (0 : Int32)), (.ref b), (.ref x)]))
  refine s_null S0 (hb hby dN1_5) (pc' := 6) rfl ?_
  show Go p e below _ (T0.setTop (mkF m 6 #[.val (.ref x), .val (.ref b)] [.null, (.int (0 : Int32)), (.int (0 : Int32)), (.ref b), (.ref x)]))
  refine g_special S0 (rmN4 X na S0.old E Fv Fc) (sf1 E.lt (hsf x List.mem_cons_self)) rfl (w11 hw) (w12 hw) (w6 hw) (w14 hw) (by decide) (hb hby dN1_6) (by rw [hml]; rfl) x [(.ref b), (.int (0 : Int32)), (.int (0 : Int32)), .null] (lenOf pd0 rfl) rfl rfl (Nat.le_of_ble_eq_true rfl) (Nat.le_of_ble_eq_true rfl) (Nat.le_of_ble_eq_true rfl) (Nat.le_of_ble_eq_true rfl) ?_
  intro v6 T6 V6 h6 S6 C6 q6
  obtain ⟨rfl, K61, F61⟩ := q6
  show Go p e below _ (T6.setTop (mkF m 9 #[.val (.ref x), .val (.ref b)] []))
  exact g_ret S6 (hb hby dN1_9) hret ⟨rfl, K61, F61⟩
theorem dCE_0 : decode jdk_43_method_3_code 0 = .ok (.iload_n 0, 1) := by decide +kernel
theorem dCE_1 : decode jdk_43_method_3_code 1 = .ok (.sipush 255, 3) := by decide +kernel
theorem dCE_4 : decode jdk_43_method_3_code 4 = .ok (.if_icmp .gt 7, 3) := by decide +kernel
theorem dCE_7 : decode jdk_43_method_3_code 7 = .ok (.iconst 1, 1) := by decide +kernel
theorem dCE_8 : decode jdk_43_method_3_code 8 = .ok (.goto 4, 3) := by decide +kernel
theorem dCE_12 : decode jdk_43_method_3_code 12 = .ok (.ireturn, 1) := by decide +kernel
set_option maxRecDepth 65536 in
set_option maxHeartbeats 40000000 in
theorem rmCE {l : Launch} {Z : State} {a0 : Array Value} {n0 : Nat} (X : Ctx Z a0) {ch : Int32} {h : Heap} (hO : Old Z n0 h) (r : ¬ ch < 0 ∧ ¬ (255 : Int32) < ch) :
    Ctr l Z EL1 n0 (⟨"java/lang/StringLatin1", "canEncode", "(C)Z"⟩ : MethodName) jdk_43_method_3_code 1 (some .boolean) ({ frames := 0, cells := 0, slots := 0, locals := 0 } : Room) #[(.int ch)] h [] (fun v h' => v = some (.int 1) ∧ h' = h) := by
  have hw := X.hw
  obtain ⟨z1, hz1, hz2⟩ := X.2.2.1
  refine Ctr.intro (a0 := a0) (plainFor_of_name pn1) hO X.ew ?_
  intro p e s m below meth c T0 V0 S0 hby hml hret hnm hsf
  rw [ef2]
  refine s_iloadN S0 (hb hby dCE_0) rfl (pc' := 1) rfl ?_
  refine s_sipush S0 (hb hby dCE_1) (v := (255 : Int32)) rfl (pc' := 4) rfl ?_
  refine s_icmpN S0 (hb hby dCE_4) (tlt_no r.2) (pc' := 7) rfl ?_
  refine s_iconst S0 (hb hby dCE_7) (v := (1 : Int32)) rfl (pc' := 8) rfl ?_
  refine s_goto S0 (hb hby dCE_8) (by decide) (pcT := 12) (by decide) ?_
  exact g_iretN S0 (hb hby dCE_12) hret (by simp) ⟨rfl, rfl⟩
theorem dTB_0 : decode jdk_43_method_46_code 0 = .ok (.iconst 1, 1) := by decide +kernel
theorem dTB_1 : decode jdk_43_method_46_code 1 = .ok (.newarray .byte, 2) := by decide +kernel
theorem dTB_3 : decode jdk_43_method_46_code 3 = .ok (.dup, 1) := by decide +kernel
theorem dTB_4 : decode jdk_43_method_46_code 4 = .ok (.iconst 0, 1) := by decide +kernel
theorem dTB_5 : decode jdk_43_method_46_code 5 = .ok (.iload_n 0, 1) := by decide +kernel
theorem dTB_6 : decode jdk_43_method_46_code 6 = .ok (.i2b, 1) := by decide +kernel
theorem dTB_7 : decode jdk_43_method_46_code 7 = .ok (.bastore, 1) := by decide +kernel
theorem dTB_8 : decode jdk_43_method_46_code 8 = .ok (.areturn, 1) := by decide +kernel
set_option maxRecDepth 65536 in
set_option maxHeartbeats 40000000 in
theorem rmTB {l : Launch} {Z : State} {a0 : Array Value} {n0 : Nat} (X : Ctx Z a0) (ch : Int32) {h : Heap} (hO : Old Z n0 h)  :
    Ctr l Z EL1 n0 (⟨"java/lang/StringLatin1", "toBytes", "(C)[B"⟩ : MethodName) jdk_43_method_46_code 1 (some (.array .byte)) ({ frames := 0, cells := 1, slots := 1, locals := 0 } : Room) #[(.int ch)] h [] (fun v h' => ∃ t kt, v = some (.ref t) ∧ Ext h h' ∧ Arv Z h' t kt .byte (1 : Int32) [(.int (StrChars.lo8 ch))] (.int (0 : Int32))) := by
  have hw := X.hw
  obtain ⟨z1, hz1, hz2⟩ := X.2.2.1
  refine Ctr.intro (a0 := a0) (plainFor_of_name pn1) hO X.ew ?_
  intro p e s m below meth c T0 V0 S0 hby hml hret hnm hsf
  rw [ef2]
  refine s_iconst S0 (hb hby dTB_0) (v := (1 : Int32)) rfl (pc' := 1) rfl ?_
  refine g_newarr (aty := .byte) S0 (w19 hw) (hb hby dTB_1) (by decide) (cap := 1) (by decide) (by decide) (Nat.le_of_ble_eq_true rfl) (Nat.le_of_ble_eq_true rfl) ?_
  intro T7 h7 b7 kc7 S7 E7 fr7 lt7 na7 sf7 A7
  have V7 : Arv Z h7 b7 kc7 .byte (1 : Int32) [(.int (0 : Int32))] (.int (0 : Int32)) := A7 1
  show Go p e below _ (T7.setTop (mkF m 3 #[.val (.int ch)] [(.ref b7)]))
  refine s_dup S7 (hb hby dTB_3) rfl (pc' := 4) rfl ?_
  refine s_iconst S7 (hb hby dTB_4) (v := (0 : Int32)) rfl (pc' := 5) rfl ?_
  refine s_iloadN S7 (hb hby dTB_5) rfl (pc' := 6) rfl ?_
  refine s_i2b S7 (hb hby dTB_6) (z := (ch.toInt8.toInt32)) rfl (pc' := 7) rfl ?_
  show Go p e below _ (T7.setTop (mkF m 7 #[.val (.int ch)] [(.int (ch.toInt8.toInt32)), (.int (0 : Int32)), (.ref b7), (.ref b7)]))
  refine g_bastore S7 V7 ⟨by decide, by decide⟩ 0 rfl (Nat.le_of_ble_eq_true rfl) na7 sf7 (hb hby dTB_7) ?_
  intro T8 h8 S8 K8 V8 sg8
  have V8 : Arv Z h8 b7 kc7 .byte (1 : Int32) [(.int (StrChars.lo8 (StrChars.lo8 ch)))] (.int (0 : Int32)) := V8
  rw [lo8_lo8] at V8
  show Go p e below _ (T8.setTop (mkF m 8 #[.val (.int ch)] [(.ref b7)]))
  have X9 : Ext h h8 := ext_keep1 E7 K8 fr7
  show Go p e below _ (T8.setTop (mkF m 8 #[.val (.int ch)] [(.ref b7)]))
  exact g_aret S8 (hb hby dTB_8) hret rfl rfl rfl ⟨_, _, rfl, X9, V8⟩
theorem dBB_0 : decode jdk_42_method_151_code 0 = .ok (.aload_n 0, 1) := by decide +kernel
theorem dBB_1 : decode jdk_42_method_151_code 1 = .ok (.invokespecial 1, 3) := by decide +kernel
theorem dBB_4 : decode jdk_42_method_151_code 4 = .ok (.aload_n 0, 1) := by decide +kernel
theorem dBB_5 : decode jdk_42_method_151_code 5 = .ok (.aload_n 1, 1) := by decide +kernel
theorem dBB_6 : decode jdk_42_method_151_code 6 = .ok (.putfield 9, 3) := by decide +kernel
theorem dBB_9 : decode jdk_42_method_151_code 9 = .ok (.aload_n 0, 1) := by decide +kernel
theorem dBB_10 : decode jdk_42_method_151_code 10 = .ok (.iload_n 2, 1) := by decide +kernel
theorem dBB_11 : decode jdk_42_method_151_code 11 = .ok (.putfield 15, 3) := by decide +kernel
theorem dBB_14 : decode jdk_42_method_151_code 14 = .ok (.return_, 1) := by decide +kernel
set_option maxRecDepth 65536 in
set_option maxHeartbeats 40000000 in
theorem rmBB {l : Launch} {Z : State} {a0 : Array Value} {n0 : Nat} (X : Ctx Z a0) {x t : Addr} {v0 c0 : Value} (na : n0 ≤ x) {h : Heap} (hO : Old Z n0 h) (E : Exa Z h x ST) (Fv : Fld Z h x ST "value" "[B" v0) (Fc : Fld Z h x ST "coder" "B" c0) :
    Ctr l Z EL1 n0 (⟨"java/lang/String", "<init>", "([BB)V"⟩ : MethodName) jdk_42_method_151_code 3 none ({ frames := 1, cells := 0, slots := 0, locals := 13 } : Room) #[(.ref x), (.ref t), (.int (0 : Int32))] h [x] (fun v h' => v = none ∧ Keep h h' [x] ∧ Exa Z h' x ST ∧ Fld Z h' x ST "value" "[B" (.ref t) ∧ Fld Z h' x ST "coder" "B" (.int 0)) := by
  have hw := X.hw
  obtain ⟨z1, hz1, hz2⟩ := X.2.2.1
  refine Ctr.intro (a0 := a0) (plainFor_of_name pn0) hO X.ew ?_
  intro p e s m below meth c T0 V0 S0 hby hml hret hnm hsf
  rw [ef3]
  refine s_aloadN S0 (hb hby dBB_0) rfl rfl (pc' := 1) rfl ?_
  refine g_initO S0 (w15 hw) (w16 hw) (w17 hw) (by rw [hml]; rfl) (hb hby dBB_1) (Nat.le_of_ble_eq_true rfl) (Nat.le_of_ble_eq_true rfl) ?_
  intro T10 ST10
  show Go p e below _ (T10.setTop (mkF m 4 #[.val (.ref x), .val (.ref t), .val (.int (0 : Int32))] []))
  refine s_aloadN ST10 (hb hby dBB_4) rfl rfl (pc' := 5) rfl ?_
  refine s_aloadN ST10 (hb hby dBB_5) rfl rfl (pc' := 6) rfl ?_
  show Go p e below _ (T10.setTop (mkF m 6 #[.val (.ref x), .val (.ref t), .val (.int (0 : Int32))] [(.ref t), (.ref x)]))
  refine g_putF ST10 (w24 hw) Via.refl Fv E (Or.inr ⟨(w20 hw), rfl, hnm⟩) (w5 hw) (ty := .array .byte) (by decide) rfl rfl na (hsf x List.mem_cons_self) (hb hby dBB_6) ?_
  intro T92 h92 S92 K92 W92 E2 Fv2 sf92
  have Fc2 := Fc.other W92 (Or.inr (slot_ne (Or.inr (w21 hw)) (Or.inr (w20 hw)) (by decide) (t := .byte) (t' := .array .byte) (by decide) (by decide)))
  show Go p e below _ (T92.setTop (mkF m 9 #[.val (.ref x), .val (.ref t), .val (.int (0 : Int32))] []))
  refine s_aloadN S92 (hb hby dBB_9) rfl rfl (pc' := 10) rfl ?_
  refine s_iloadN S92 (hb hby dBB_10) rfl (pc' := 11) rfl ?_
  show Go p e below _ (T92.setTop (mkF m 11 #[.val (.ref x), .val (.ref t), .val (.int (0 : Int32))] [(.int (0 : Int32)), (.ref x)]))
  refine g_putF S92 (w25 hw) Via.refl Fc2 E2 (Or.inr ⟨(w21 hw), rfl, hnm⟩) (w5 hw) (ty := .byte) (v' := .int 0) (by decide) rfl rfl na sf92 (hb hby dBB_11) ?_
  intro T94 h94 S94 K94 W94 E4 Fc4 sf94
  have Fv4 := Fv2.other W94 (Or.inr (slot_ne (Or.inr (w20 hw)) (Or.inr (w21 hw)) (by decide) (t := .array .byte) (t' := .byte) (by decide) (by decide)))
  show Go p e below _ (T94.setTop (mkF m 14 #[.val (.ref x), .val (.ref t), .val (.int (0 : Int32))] []))
  exact g_ret S94 (hb hby dBB_14) hret ⟨rfl, K92.trans K94 (fun y hy => Or.inl hy), E4, Fv4, Fc4⟩
theorem dVO_0 : decode jdk_42_method_139_code 0 = .ok (.getstatic 38, 3) := by decide +kernel
theorem dVO_3 : decode jdk_42_method_139_code 3 = .ok (.ifCond .eq 23, 3) := by decide +kernel
theorem dVO_6 : decode jdk_42_method_139_code 6 = .ok (.iload_n 0, 1) := by decide +kernel
theorem dVO_7 : decode jdk_42_method_139_code 7 = .ok (.invokestatic 1015, 3) := by decide +kernel
theorem dVO_10 : decode jdk_42_method_139_code 10 = .ok (.ifCond .eq 16, 3) := by decide +kernel
theorem dVO_13 : decode jdk_42_method_139_code 13 = .ok (.new 10, 3) := by decide +kernel
theorem dVO_16 : decode jdk_42_method_139_code 16 = .ok (.dup, 1) := by decide +kernel
theorem dVO_17 : decode jdk_42_method_139_code 17 = .ok (.iload_n 0, 1) := by decide +kernel
theorem dVO_18 : decode jdk_42_method_139_code 18 = .ok (.invokestatic 1018, 3) := by decide +kernel
theorem dVO_21 : decode jdk_42_method_139_code 21 = .ok (.iconst 0, 1) := by decide +kernel
theorem dVO_22 : decode jdk_42_method_139_code 22 = .ok (.invokespecial 209, 3) := by decide +kernel
theorem dVO_25 : decode jdk_42_method_139_code 25 = .ok (.areturn, 1) := by decide +kernel
set_option maxRecDepth 65536 in
set_option maxHeartbeats 40000000 in
theorem rmVO {l : Launch} {Z : State} {a0 : Array Value} {n0 : Nat} (X : Ctx Z a0) {ch : Int32} {h : Heap} (hO : Old Z n0 h) (r : ¬ ch < 0 ∧ ¬ (255 : Int32) < ch) :
    Ctr l Z EL1 n0 (⟨"java/lang/String", "valueOf", "(C)Ljava/lang/String;"⟩ : MethodName) jdk_42_method_139_code 1 (some (.object "java/lang/String")) ({ frames := 2, cells := 2, slots := 5, locals := 30 } : Room) #[(.int ch)] h [] (fun v h' => ∃ a, v = some (.ref a) ∧ StrF Z h' a [ch] ∧ Ext h h') := by
  have hw := X.hw
  obtain ⟨z1, hz1, hz2⟩ := X.2.2.1
  refine Ctr.intro (a0 := a0) (plainFor_of_name pn0) hO X.ew ?_
  intro p e s m below meth c T0 V0 S0 hby hml hret hnm hsf
  rw [ef2]
  refine g_getS S0 (w26 hw) Via.refl (hz1.ext S0.old.2) (hb hby dVO_0) ?_
  intro T11 ST11
  show Go p e below _ (T11.setTop (mkF m 3 #[.val (.int ch)] [(.int z1)]))
  show Go p e below _ (T11.setTop (mkF m 3 #[.val (.int ch)] [(.int z1)]))
  refine s_ifN ST11 (hb hby dVO_3) ((if0 _ _).trans (feq hz2).1) (pc' := 6) rfl ?_
  refine s_iloadN ST11 (hb hby dVO_6) rfl (pc' := 7) rfl ?_
  show Go p e below _ (T11.setTop (mkF m 7 #[.val (.int ch)] [(.int ch)]))
  refine g_static ST11 (rmCE X ST11.old r) (fun _ q => nomatch q) (w117 hw) (w118 hw) (w86 hw) (w119 hw) (by decide) (hb hby dVO_7) (by rw [hml]; rfl) [(.int ch)] (lenOf pd1 rfl) rfl rfl (Nat.le_of_ble_eq_true rfl) (Nat.le_of_ble_eq_true rfl) (Nat.le_of_ble_eq_true rfl) (Nat.le_of_ble_eq_true rfl) ?_
  intro v12 T12 V12 h12 S12 C12 q12
  obtain ⟨rfl, rfl⟩ := q12
  show Go p e below _ (T12.setTop (mkF m 10 #[.val (.int ch)] [(.int (1 : Int32))]))
  refine s_ifN S12 (hb hby dVO_10) (by decide) (pc' := 13) rfl ?_
  refine g_new S12 (w108 hw) (w5 hw) (w6 hw) (hb hby dVO_13) (Nat.le_of_ble_eq_true rfl) (Nat.le_of_ble_eq_true rfl) ?_
  intro T13 h13 b13 S13 E13 fr13 lt13 na13 sf13 A13 D13
  have F14 : Fld Z h13 b13 "java/lang/String" "value" "[B" .null := D13 (Or.inr (w20 hw)) (ty := (.array .byte)) (by decide)
  have F15 : Fld Z h13 b13 "java/lang/String" "coder" "B" (.int (0 : Int32)) := D13 (Or.inr (w21 hw)) (ty := .byte) (by decide)
  show Go p e below _ (T13.setTop (mkF m 16 #[.val (.int ch)] [(.ref b13)]))
  refine s_dup S13 (hb hby dVO_16) rfl (pc' := 17) rfl ?_
  refine s_iloadN S13 (hb hby dVO_17) rfl (pc' := 18) rfl ?_
  show Go p e below _ (T13.setTop (mkF m 18 #[.val (.int ch)] [(.int ch), (.ref b13), (.ref b13)]))
  refine g_static S13 (rmTB X ch S13.old) (fun _ q => nomatch q) (w120 hw) (w121 hw) (w86 hw) (w122 hw) (by decide) (hb hby dVO_18) (by rw [hml]; rfl) [(.int ch)] (lenOf pd2 rfl) rfl rfl (Nat.le_of_ble_eq_true rfl) (Nat.le_of_ble_eq_true rfl) (Nat.le_of_ble_eq_true rfl) (Nat.le_of_ble_eq_true rfl) ?_
  intro v16 T16 V16 h16 S16 C16 q16
  obtain ⟨t1, kt1, rfl, Et1, Vt1⟩ := q16
  have sf17 := C16.safe lt13 sf13
  show Go p e below _ (T16.setTop (mkF m 21 #[.val (.int ch)] [(.ref t1), (.ref b13), (.ref b13)]))
  refine s_iconst S16 (hb hby dVO_21) (v := (0 : Int32)) rfl (pc' := 22) rfl ?_
  have A18 := A13.ext Et1
  have F19 := F14.ext Et1
  have F20 := F15.ext Et1
  have ne1 : t1 ≠ b13 := fun q => by obtain ⟨c1, A1, -⟩ := Vt1; exact ne_arr A18 (w5 hw) A1 q.symm
  show Go p e below _ (T16.setTop (mkF m 22 #[.val (.int ch)] [(.int (0 : Int32)), (.ref t1), (.ref b13), (.ref b13)]))
  refine g_special S16 (rmBB X na13 S16.old A18 F19 F20) (sf1 A18.lt sf17) rfl (w123 hw) (w124 hw) (w6 hw) (w125 hw) (by decide) (hb hby dVO_22) (by rw [hml]; rfl) b13 [(.ref t1), (.int (0 : Int32))] (lenOf pd3 rfl) rfl rfl (Nat.le_of_ble_eq_true rfl) (Nat.le_of_ble_eq_true rfl) (Nat.le_of_ble_eq_true rfl) (Nat.le_of_ble_eq_true rfl) ?_
  intro v21 T21 V21 h21 S21 C21 q21
  obtain ⟨rfl, K9, Ex9, Fv9, Fc9⟩ := q21
  have sf22 := C21.safe (Nat.lt_of_lt_of_le lt13 Et1.1) sf17
  have Vt9 := Vt1.keep K9 (ninS ne1 nin0)
  show Go p e below _ (T21.setTop (mkF m 25 #[.val (.int ch)] [(.ref b13)]))
  have X23 : Ext h12 h16 := ext_trans E13 Et1
  have X24 : Ext h12 h21 := ext_keep1 X23 K9 fr13
  show Go p e below _ (T21.setTop (mkF m 25 #[.val (.int ch)] [(.ref b13)]))
  exact g_aret S21 (hb hby dVO_25) hret rfl rfl rfl ⟨_, rfl, ⟨t1, kt1, 0, _, _, Ex9, Fv9, Fc9, Vt9, StrChars.Road.codOf (cs := [ch]) rfl (faS r.2 fa0), up255 (faS r fa0), Nat.le_of_ble_eq_true rfl⟩, X24⟩
theorem dRN_0 : decode jdk_31_method_11_code 0 = .ok (.aload_n 0, 1) := by decide +kernel
theorem dRN_1 : decode jdk_31_method_11_code 1 = .ok (.ifnonnull 12, 3) := by decide +kernel
theorem dRN_13 : decode jdk_31_method_11_code 13 = .ok (.aload_n 0, 1) := by decide +kernel
theorem dRN_14 : decode jdk_31_method_11_code 14 = .ok (.areturn, 1) := by decide +kernel
set_option maxRecDepth 65536 in
set_option maxHeartbeats 40000000 in
theorem rmRN {l : Launch} {Z : State} {a0 : Array Value} {n0 : Nat} (X : Ctx Z a0) (a b : Addr) {h : Heap} (hO : Old Z n0 h)  :
    Ctr l Z EL1 n0 (⟨"java/util/Objects", "requireNonNull", "(Ljava/lang/Object;Ljava/lang/String;)Ljava/lang/Object;"⟩ : MethodName) jdk_31_method_11_code 2 (some (.object "java/lang/Object")) ({ frames := 0, cells := 0, slots := 0, locals := 0 } : Room) #[(.ref a), (.ref b)] h [] (fun v h' => v = some (.ref a) ∧ h' = h) := by
  have hw := X.hw
  obtain ⟨z1, hz1, hz2⟩ := X.2.2.1
  refine Ctr.intro (a0 := a0) (plainFor_of_name pn2) hO X.ew ?_
  intro p e s m below meth c T0 V0 S0 hby hml hret hnm hsf
  rw [ef1]
  refine s_aloadN S0 (hb hby dRN_0) rfl rfl (pc' := 1) rfl ?_
  refine s_nonnullY S0 (hb hby dRN_1) (by decide) (pcT := 13) (by decide) ?_
  refine s_aloadN S0 (hb hby dRN_13) rfl rfl (pc' := 14) rfl ?_
  exact g_aret S0 (hb hby dRN_14) hret rfl rfl rfl ⟨rfl, rfl⟩
theorem dS_0 : decode method_2_code 0 = .ok (.iload_n 0, 1) := by decide +kernel
theorem dS_1 : decode method_2_code 1 = .ok (.iconst 3, 1) := by decide +kernel
theorem dS_2 : decode method_2_code 2 = .ok (.iand, 1) := by decide +kernel
theorem dS_3 : decode method_2_code 3 = .ok (.istore_n 1, 1) := by decide +kernel
theorem dS_4 : decode method_2_code 4 = .ok (.iload_n 0, 1) := by decide +kernel
theorem dS_5 : decode method_2_code 5 = .ok (.iconst 2, 1) := by decide +kernel
theorem dS_6 : decode method_2_code 6 = .ok (.iushr, 1) := by decide +kernel
theorem dS_7 : decode method_2_code 7 = .ok (.sipush 255, 3) := by decide +kernel
theorem dS_10 : decode method_2_code 10 = .ok (.iand, 1) := by decide +kernel
theorem dS_11 : decode method_2_code 11 = .ok (.i2c, 1) := by decide +kernel
theorem dS_12 : decode method_2_code 12 = .ok (.istore_n 2, 1) := by decide +kernel
theorem dS_13 : decode method_2_code 13 = .ok (.iload_n 0, 1) := by decide +kernel
theorem dS_14 : decode method_2_code 14 = .ok (.bipush 10, 2) := by decide +kernel
theorem dS_16 : decode method_2_code 16 = .ok (.iushr, 1) := by decide +kernel
theorem dS_17 : decode method_2_code 17 = .ok (.sipush 255, 3) := by decide +kernel
theorem dS_20 : decode method_2_code 20 = .ok (.iand, 1) := by decide +kernel
theorem dS_21 : decode method_2_code 21 = .ok (.i2c, 1) := by decide +kernel
theorem dS_22 : decode method_2_code 22 = .ok (.istore_n 3, 1) := by decide +kernel
theorem dS_23 : decode method_2_code 23 = .ok (.iload_n 0, 1) := by decide +kernel
theorem dS_24 : decode method_2_code 24 = .ok (.bipush 18, 2) := by decide +kernel
theorem dS_26 : decode method_2_code 26 = .ok (.iushr, 1) := by decide +kernel
theorem dS_27 : decode method_2_code 27 = .ok (.sipush 255, 3) := by decide +kernel
theorem dS_30 : decode method_2_code 30 = .ok (.iand, 1) := by decide +kernel
theorem dS_31 : decode method_2_code 31 = .ok (.i2c, 1) := by decide +kernel
theorem dS_32 : decode method_2_code 32 = .ok (.istore 4, 2) := by decide +kernel
theorem dS_34 : decode method_2_code 34 = .ok (.iload_n 1, 1) := by decide +kernel
theorem dS_35 : decode method_2_code 35 = .ok (.ifCond .ne 14, 3) := by decide +kernel
theorem dS_38 : decode method_2_code 38 = .ok (.new 7, 3) := by decide +kernel
theorem dS_41 : decode method_2_code 41 = .ok (.dup, 1) := by decide +kernel
theorem dS_42 : decode method_2_code 42 = .ok (.iconst 0, 1) := by decide +kernel
theorem dS_43 : decode method_2_code 43 = .ok (.newarray .char, 2) := by decide +kernel
theorem dS_45 : decode method_2_code 45 = .ok (.invokespecial 9, 3) := by decide +kernel
theorem dS_48 : decode method_2_code 48 = .ok (.areturn, 1) := by decide +kernel
theorem dS_49 : decode method_2_code 49 = .ok (.iload_n 1, 1) := by decide +kernel
theorem dS_50 : decode method_2_code 50 = .ok (.iconst 1, 1) := by decide +kernel
theorem dS_51 : decode method_2_code 51 = .ok (.if_icmp .ne 8, 3) := by decide +kernel
theorem dS_54 : decode method_2_code 54 = .ok (.iload_n 2, 1) := by decide +kernel
theorem dS_55 : decode method_2_code 55 = .ok (.invokestatic 12, 3) := by decide +kernel
theorem dS_58 : decode method_2_code 58 = .ok (.areturn, 1) := by decide +kernel
theorem dS_59 : decode method_2_code 59 = .ok (.iload_n 1, 1) := by decide +kernel
theorem dS_60 : decode method_2_code 60 = .ok (.iconst 2, 1) := by decide +kernel
theorem dS_61 : decode method_2_code 61 = .ok (.if_icmp .ne 22, 3) := by decide +kernel
theorem dS_64 : decode method_2_code 64 = .ok (.new 7, 3) := by decide +kernel
theorem dS_67 : decode method_2_code 67 = .ok (.dup, 1) := by decide +kernel
theorem dS_68 : decode method_2_code 68 = .ok (.iconst 2, 1) := by decide +kernel
theorem dS_69 : decode method_2_code 69 = .ok (.newarray .char, 2) := by decide +kernel
theorem dS_71 : decode method_2_code 71 = .ok (.dup, 1) := by decide +kernel
theorem dS_72 : decode method_2_code 72 = .ok (.iconst 0, 1) := by decide +kernel
theorem dS_73 : decode method_2_code 73 = .ok (.iload_n 2, 1) := by decide +kernel
theorem dS_74 : decode method_2_code 74 = .ok (.castore, 1) := by decide +kernel
theorem dS_75 : decode method_2_code 75 = .ok (.dup, 1) := by decide +kernel
theorem dS_76 : decode method_2_code 76 = .ok (.iconst 1, 1) := by decide +kernel
theorem dS_77 : decode method_2_code 77 = .ok (.iload_n 3, 1) := by decide +kernel
theorem dS_78 : decode method_2_code 78 = .ok (.castore, 1) := by decide +kernel
theorem dS_79 : decode method_2_code 79 = .ok (.invokespecial 9, 3) := by decide +kernel
theorem dS_82 : decode method_2_code 82 = .ok (.areturn, 1) := by decide +kernel
theorem dS_83 : decode method_2_code 83 = .ok (.new 7, 3) := by decide +kernel
theorem dS_86 : decode method_2_code 86 = .ok (.dup, 1) := by decide +kernel
theorem dS_87 : decode method_2_code 87 = .ok (.iconst 3, 1) := by decide +kernel
theorem dS_88 : decode method_2_code 88 = .ok (.newarray .char, 2) := by decide +kernel
theorem dS_90 : decode method_2_code 90 = .ok (.dup, 1) := by decide +kernel
theorem dS_91 : decode method_2_code 91 = .ok (.iconst 0, 1) := by decide +kernel
theorem dS_92 : decode method_2_code 92 = .ok (.iload_n 2, 1) := by decide +kernel
theorem dS_93 : decode method_2_code 93 = .ok (.castore, 1) := by decide +kernel
theorem dS_94 : decode method_2_code 94 = .ok (.dup, 1) := by decide +kernel
theorem dS_95 : decode method_2_code 95 = .ok (.iconst 1, 1) := by decide +kernel
theorem dS_96 : decode method_2_code 96 = .ok (.iload_n 3, 1) := by decide +kernel
theorem dS_97 : decode method_2_code 97 = .ok (.castore, 1) := by decide +kernel
theorem dS_98 : decode method_2_code 98 = .ok (.dup, 1) := by decide +kernel
theorem dS_99 : decode method_2_code 99 = .ok (.iconst 2, 1) := by decide +kernel
theorem dS_100 : decode method_2_code 100 = .ok (.iload 4, 2) := by decide +kernel
theorem dS_102 : decode method_2_code 102 = .ok (.castore, 1) := by decide +kernel
theorem dS_103 : decode method_2_code 103 = .ok (.invokespecial 9, 3) := by decide +kernel
theorem dS_106 : decode method_2_code 106 = .ok (.areturn, 1) := by decide +kernel
set_option maxRecDepth 65536 in
set_option maxHeartbeats 40000000 in
theorem rmS {l : Launch} {Z : State} {a0 : Array Value} {n0 : Nat} (X : Ctx Z a0) (x : Int32) {h : Heap} (hO : Old Z n0 h)  :
    Ctr l Z EL1 n0 (⟨"com/example/wachter/wachter/decision/AccessEqualsPinLaw", "str", "(I)Ljava/lang/String;"⟩ : MethodName) method_2_code 5 (some (.object "java/lang/String")) ({ frames := 4, cells := 6, slots := 12, locals := 66 } : Room) #[(.int x)] h [] (fun v h' => ∃ a cs, v = some (.ref a) ∧ StrF Z h' a cs ∧ (∀ c ∈ cs, ¬ (255 : Int32) < c) ∧ cs.length ≤ 3 ∧ Ext h h') := by
  have hw := X.hw
  obtain ⟨z1, hz1, hz2⟩ := X.2.2.1
  refine Ctr.intro (a0 := a0) (plainFor_of_name pn3) hO X.ew ?_
  intro p e s m below meth c T0 V0 S0 hby hml hret hnm hsf
  rw [ef4]
  refine s_iloadN S0 (hb hby dS_0) rfl (pc' := 1) rfl ?_
  refine s_iconst S0 (hb hby dS_1) (v := (3 : Int32)) rfl (pc' := 2) rfl ?_
  refine s_iand S0 (hb hby dS_2) (z := (x &&& (3 : Int32))) rfl (pc' := 3) rfl ?_
  generalize eln25 : (x &&& (3 : Int32)) = ln25
  refine s_istoreN S0 (hb hby dS_3) (L' := #[.val (.int x), .val (.int ln25), .unset, .unset, .unset]) rfl (pc' := 4) rfl ?_
  refine s_iloadN S0 (hb hby dS_4) rfl (pc' := 5) rfl ?_
  refine s_iconst S0 (hb hby dS_5) (v := (2 : Int32)) rfl (pc' := 6) rfl ?_
  refine s_iushr S0 (hb hby dS_6) (z := ((x.toUInt32 >>> ((2 : Int32) &&& 31).toUInt32).toInt32)) rfl (pc' := 7) rfl ?_
  refine s_sipush S0 (hb hby dS_7) (v := (255 : Int32)) rfl (pc' := 10) rfl ?_
  refine s_iand S0 (hb hby dS_10) (z := (((x.toUInt32 >>> ((2 : Int32) &&& 31).toUInt32).toInt32) &&& (255 : Int32))) rfl (pc' := 11) rfl ?_
  refine s_i2c S0 (hb hby dS_11) (z := ((((x.toUInt32 >>> ((2 : Int32) &&& 31).toUInt32).toInt32) &&& (255 : Int32)).toUInt32.toUInt16.toUInt32.toInt32)) rfl (pc' := 12) rfl ?_
  generalize ec26 : ((((x.toUInt32 >>> ((2 : Int32) &&& 31).toUInt32).toInt32) &&& (255 : Int32)).toUInt32.toUInt16.toUInt32.toInt32) = c26
  refine s_istoreN S0 (hb hby dS_12) (L' := #[.val (.int x), .val (.int ln25), .val (.int c26), .unset, .unset]) rfl (pc' := 13) rfl ?_
  have rc26 : ¬ c26 < 0 ∧ ¬ (255 : Int32) < c26 := by rw [← ec26]; exact i2c255 _
  refine s_iloadN S0 (hb hby dS_13) rfl (pc' := 14) rfl ?_
  refine s_bipush S0 (hb hby dS_14) (v := (10 : Int32)) rfl (pc' := 16) rfl ?_
  refine s_iushr S0 (hb hby dS_16) (z := ((x.toUInt32 >>> ((10 : Int32) &&& 31).toUInt32).toInt32)) rfl (pc' := 17) rfl ?_
  refine s_sipush S0 (hb hby dS_17) (v := (255 : Int32)) rfl (pc' := 20) rfl ?_
  refine s_iand S0 (hb hby dS_20) (z := (((x.toUInt32 >>> ((10 : Int32) &&& 31).toUInt32).toInt32) &&& (255 : Int32))) rfl (pc' := 21) rfl ?_
  refine s_i2c S0 (hb hby dS_21) (z := ((((x.toUInt32 >>> ((10 : Int32) &&& 31).toUInt32).toInt32) &&& (255 : Int32)).toUInt32.toUInt16.toUInt32.toInt32)) rfl (pc' := 22) rfl ?_
  generalize ec27 : ((((x.toUInt32 >>> ((10 : Int32) &&& 31).toUInt32).toInt32) &&& (255 : Int32)).toUInt32.toUInt16.toUInt32.toInt32) = c27
  refine s_istoreN S0 (hb hby dS_22) (L' := #[.val (.int x), .val (.int ln25), .val (.int c26), .val (.int c27), .unset]) rfl (pc' := 23) rfl ?_
  have rc27 : ¬ c27 < 0 ∧ ¬ (255 : Int32) < c27 := by rw [← ec27]; exact i2c255 _
  refine s_iloadN S0 (hb hby dS_23) rfl (pc' := 24) rfl ?_
  refine s_bipush S0 (hb hby dS_24) (v := (18 : Int32)) rfl (pc' := 26) rfl ?_
  refine s_iushr S0 (hb hby dS_26) (z := ((x.toUInt32 >>> ((18 : Int32) &&& 31).toUInt32).toInt32)) rfl (pc' := 27) rfl ?_
  refine s_sipush S0 (hb hby dS_27) (v := (255 : Int32)) rfl (pc' := 30) rfl ?_
  refine s_iand S0 (hb hby dS_30) (z := (((x.toUInt32 >>> ((18 : Int32) &&& 31).toUInt32).toInt32) &&& (255 : Int32))) rfl (pc' := 31) rfl ?_
  refine s_i2c S0 (hb hby dS_31) (z := ((((x.toUInt32 >>> ((18 : Int32) &&& 31).toUInt32).toInt32) &&& (255 : Int32)).toUInt32.toUInt16.toUInt32.toInt32)) rfl (pc' := 32) rfl ?_
  generalize ec28 : ((((x.toUInt32 >>> ((18 : Int32) &&& 31).toUInt32).toInt32) &&& (255 : Int32)).toUInt32.toUInt16.toUInt32.toInt32) = c28
  refine s_istore S0 (hb hby dS_32) (L' := #[.val (.int x), .val (.int ln25), .val (.int c26), .val (.int c27), .val (.int c28)]) rfl (pc' := 34) rfl ?_
  have rc28 : ¬ c28 < 0 ∧ ¬ (255 : Int32) < c28 := by rw [← ec28]; exact i2c255 _
  refine s_iloadN S0 (hb hby dS_34) rfl (pc' := 35) rfl ?_
  refine g_if S0 (hb hby dS_35) (by decide) (pcT := 49) (by decide) (fun q => ?_) (fun q => ?_)
  · have hc35_29 : ¬ ln25 = (0 : Int32) := icT_ne q
    show Go p e below _ (T0.setTop (mkF m 49 #[.val (.int x), .val (.int ln25), .val (.int c26), .val (.int c27), .val (.int c28)] []))
    refine s_iloadN S0 (hb hby dS_49) rfl (pc' := 50) rfl ?_
    refine s_iconst S0 (hb hby dS_50) (v := (1 : Int32)) rfl (pc' := 51) rfl ?_
    refine g_icmp S0 (hb hby dS_51) (by decide) (pcT := 59) (by decide) (fun q => ?_) (fun q => ?_)
    · have hc51_30 : ¬ ln25 = (1 : Int32) := icT_ne q
      show Go p e below _ (T0.setTop (mkF m 59 #[.val (.int x), .val (.int ln25), .val (.int c26), .val (.int c27), .val (.int c28)] []))
      refine s_iloadN S0 (hb hby dS_59) rfl (pc' := 60) rfl ?_
      refine s_iconst S0 (hb hby dS_60) (v := (2 : Int32)) rfl (pc' := 61) rfl ?_
      refine g_icmp S0 (hb hby dS_61) (by decide) (pcT := 83) (by decide) (fun q => ?_) (fun q => ?_)
      · have hc61_31 : ¬ ln25 = (2 : Int32) := icT_ne q
        show Go p e below _ (T0.setTop (mkF m 83 #[.val (.int x), .val (.int ln25), .val (.int c26), .val (.int c27), .val (.int c28)] []))
        refine g_new S0 (w4 hw) (w5 hw) (w6 hw) (hb hby dS_83) (Nat.le_of_ble_eq_true rfl) (Nat.le_of_ble_eq_true rfl) ?_
        intro T32 h32 b32 S32 E32 fr32 lt32 na32 sf32 A32 D32
        have F33 : Fld Z h32 b32 "java/lang/String" "value" "[B" .null := D32 (Or.inr (w20 hw)) (ty := (.array .byte)) (by decide)
        have F34 : Fld Z h32 b32 "java/lang/String" "coder" "B" (.int (0 : Int32)) := D32 (Or.inr (w21 hw)) (ty := .byte) (by decide)
        show Go p e below _ (T32.setTop (mkF m 86 #[.val (.int x), .val (.int ln25), .val (.int c26), .val (.int c27), .val (.int c28)] [(.ref b32)]))
        refine s_dup S32 (hb hby dS_86) rfl (pc' := 87) rfl ?_
        refine s_iconst S32 (hb hby dS_87) (v := (3 : Int32)) rfl (pc' := 88) rfl ?_
        refine g_newarr (aty := .char) S32 (w7 hw) (hb hby dS_88) (by decide) (cap := 3) (by decide) (by decide) (Nat.le_of_ble_eq_true rfl) (Nat.le_of_ble_eq_true rfl) ?_
        intro T35 h35 b35 kc35 S35 E35 fr35 lt35 na35 sf35 A35
        have sf36 := sf32.ext E35 S32.chv
        have V35 : Arv Z h35 b35 kc35 .char (3 : Int32) [(.int (0 : Int32)), (.int (0 : Int32)), (.int (0 : Int32))] (.int (0 : Int32)) := A35 3
        show Go p e below _ (T35.setTop (mkF m 90 #[.val (.int x), .val (.int ln25), .val (.int c26), .val (.int c27), .val (.int c28)] [(.ref b35), (.ref b32), (.ref b32)]))
        refine s_dup S35 (hb hby dS_90) rfl (pc' := 91) rfl ?_
        refine s_iconst S35 (hb hby dS_91) (v := (0 : Int32)) rfl (pc' := 92) rfl ?_
        refine s_iloadN S35 (hb hby dS_92) rfl (pc' := 93) rfl ?_
        refine g_castore S35 V35 ⟨by decide, by decide⟩ 0 rfl (Nat.le_of_ble_eq_true rfl) na35 (hb hby dS_93) ?_
        intro T37 h37 S37 K37 V37
        have sf38 := sf36.keep K37 (sfS (Safe.arv S35.warm.alike V35 (by decide)) sf0) S35.chv
        rw [narC8 rc26] at V37
        have V37 : Arv Z h37 b35 kc35 .char (3 : Int32) [(.int c26), (.int (0 : Int32)), (.int (0 : Int32))] (.int (0 : Int32)) := V37
        show Go p e below _ (T37.setTop (mkF m 94 #[.val (.int x), .val (.int ln25), .val (.int c26), .val (.int c27), .val (.int c28)] [(.ref b35), (.ref b32), (.ref b32)]))
        refine s_dup S37 (hb hby dS_94) rfl (pc' := 95) rfl ?_
        refine s_iconst S37 (hb hby dS_95) (v := (1 : Int32)) rfl (pc' := 96) rfl ?_
        refine s_iloadN S37 (hb hby dS_96) rfl (pc' := 97) rfl ?_
        refine g_castore S37 V37 ⟨by decide, by decide⟩ 1 rfl (Nat.le_of_ble_eq_true rfl) na35 (hb hby dS_97) ?_
        intro T39 h39 S39 K39 V39
        have sf40 := sf38.keep K39 (sfS (Safe.arv S37.warm.alike V37 (by decide)) sf0) S37.chv
        rw [narC8 rc27] at V39
        have V39 : Arv Z h39 b35 kc35 .char (3 : Int32) [(.int c26), (.int c27), (.int (0 : Int32))] (.int (0 : Int32)) := V39
        show Go p e below _ (T39.setTop (mkF m 98 #[.val (.int x), .val (.int ln25), .val (.int c26), .val (.int c27), .val (.int c28)] [(.ref b35), (.ref b32), (.ref b32)]))
        refine s_dup S39 (hb hby dS_98) rfl (pc' := 99) rfl ?_
        refine s_iconst S39 (hb hby dS_99) (v := (2 : Int32)) rfl (pc' := 100) rfl ?_
        refine s_iload S39 (hb hby dS_100) rfl (pc' := 102) rfl ?_
        refine g_castore S39 V39 ⟨by decide, by decide⟩ 2 rfl (Nat.le_of_ble_eq_true rfl) na35 (hb hby dS_102) ?_
        intro T41 h41 S41 K41 V41
        have sf42 := sf40.keep K41 (sfS (Safe.arv S39.warm.alike V39 (by decide)) sf0) S39.chv
        rw [narC8 rc28] at V41
        have V41 : Arv Z h41 b35 kc35 .char (3 : Int32) [(.int c26), (.int c27), (.int c28)] (.int (0 : Int32)) := V41
        show Go p e below _ (T41.setTop (mkF m 103 #[.val (.int x), .val (.int ln25), .val (.int c26), .val (.int c27), .val (.int c28)] [(.ref b35), (.ref b32), (.ref b32)]))
        show Go p e below _ (T41.setTop (mkF m 103 #[.val (.int x), .val (.int ln25), .val (.int c26), .val (.int c27), .val (.int c28)] [(.ref b35), (.ref b32), (.ref b32)]))
        have X44 : Ext h32 h37 := ext_keep1 E35 K37 fr35
        have X45 : Ext h32 h39 := ext_keep1 X44 K39 fr35
        have X46 : Ext h32 h41 := ext_keep1 X45 K41 fr35
        have A47 := A32.ext X46
        have F48 := F33.ext X46
        have F49 := F34.ext X46
        refine g_newStr S41 X (cs := [c26, c27, c28]) (Nat.le_of_ble_eq_true rfl) (Nat.le_of_ble_eq_true rfl) rfl na32 sf42 A47 F48 F49 V41 (faS rc26 (faS rc27 (faS rc28 fa0))) (w8 hw) (hb hby dS_103) (by rw [hml]; rfl) (Nat.le_of_ble_eq_true rfl) (Nat.le_of_ble_eq_true rfl) (Nat.le_of_ble_eq_true rfl) (Nat.le_of_ble_eq_true rfl) ?_
        intro T43 h43 S43 K43 F43
        show Go p e below _ (T43.setTop (mkF m 106 #[.val (.int x), .val (.int ln25), .val (.int c26), .val (.int c27), .val (.int c28)] [(.ref b32)]))
        show Go p e below _ (T43.setTop (mkF m 106 #[.val (.int x), .val (.int ln25), .val (.int c26), .val (.int c27), .val (.int c28)] [(.ref b32)]))
        have X50 : Ext h h35 := ext_trans E32 E35
        have X51 : Ext h h37 := ext_keep1 X50 K37 (Nat.le_trans E32.1 fr35)
        have X52 : Ext h h39 := ext_keep1 X51 K39 (Nat.le_trans E32.1 fr35)
        have X53 : Ext h h41 := ext_keep1 X52 K41 (Nat.le_trans E32.1 fr35)
        have X54 : Ext h h43 := ext_keep1 X53 K43 fr32
        exact g_aret S43 (hb hby dS_106) hret rfl rfl rfl ⟨_, [c26, c27, c28], rfl, F43, (faS rc26.2 (faS rc27.2 (faS rc28.2 fa0))), (Nat.le_of_ble_eq_true rfl), X54⟩
      · have hc61_31 : ln25 = (2 : Int32) := icF_ne q
        show Go p e below _ (T0.setTop (mkF m 64 #[.val (.int x), .val (.int ln25), .val (.int c26), .val (.int c27), .val (.int c28)] []))
        refine g_new S0 (w4 hw) (w5 hw) (w6 hw) (hb hby dS_64) (Nat.le_of_ble_eq_true rfl) (Nat.le_of_ble_eq_true rfl) ?_
        intro T55 h55 b55 S55 E55 fr55 lt55 na55 sf55 A55 D55
        have F56 : Fld Z h55 b55 "java/lang/String" "value" "[B" .null := D55 (Or.inr (w20 hw)) (ty := (.array .byte)) (by decide)
        have F57 : Fld Z h55 b55 "java/lang/String" "coder" "B" (.int (0 : Int32)) := D55 (Or.inr (w21 hw)) (ty := .byte) (by decide)
        show Go p e below _ (T55.setTop (mkF m 67 #[.val (.int x), .val (.int ln25), .val (.int c26), .val (.int c27), .val (.int c28)] [(.ref b55)]))
        refine s_dup S55 (hb hby dS_67) rfl (pc' := 68) rfl ?_
        refine s_iconst S55 (hb hby dS_68) (v := (2 : Int32)) rfl (pc' := 69) rfl ?_
        refine g_newarr (aty := .char) S55 (w7 hw) (hb hby dS_69) (by decide) (cap := 2) (by decide) (by decide) (Nat.le_of_ble_eq_true rfl) (Nat.le_of_ble_eq_true rfl) ?_
        intro T58 h58 b58 kc58 S58 E58 fr58 lt58 na58 sf58 A58
        have sf59 := sf55.ext E58 S55.chv
        have V58 : Arv Z h58 b58 kc58 .char (2 : Int32) [(.int (0 : Int32)), (.int (0 : Int32))] (.int (0 : Int32)) := A58 2
        show Go p e below _ (T58.setTop (mkF m 71 #[.val (.int x), .val (.int ln25), .val (.int c26), .val (.int c27), .val (.int c28)] [(.ref b58), (.ref b55), (.ref b55)]))
        refine s_dup S58 (hb hby dS_71) rfl (pc' := 72) rfl ?_
        refine s_iconst S58 (hb hby dS_72) (v := (0 : Int32)) rfl (pc' := 73) rfl ?_
        refine s_iloadN S58 (hb hby dS_73) rfl (pc' := 74) rfl ?_
        refine g_castore S58 V58 ⟨by decide, by decide⟩ 0 rfl (Nat.le_of_ble_eq_true rfl) na58 (hb hby dS_74) ?_
        intro T60 h60 S60 K60 V60
        have sf61 := sf59.keep K60 (sfS (Safe.arv S58.warm.alike V58 (by decide)) sf0) S58.chv
        rw [narC8 rc26] at V60
        have V60 : Arv Z h60 b58 kc58 .char (2 : Int32) [(.int c26), (.int (0 : Int32))] (.int (0 : Int32)) := V60
        show Go p e below _ (T60.setTop (mkF m 75 #[.val (.int x), .val (.int ln25), .val (.int c26), .val (.int c27), .val (.int c28)] [(.ref b58), (.ref b55), (.ref b55)]))
        refine s_dup S60 (hb hby dS_75) rfl (pc' := 76) rfl ?_
        refine s_iconst S60 (hb hby dS_76) (v := (1 : Int32)) rfl (pc' := 77) rfl ?_
        refine s_iloadN S60 (hb hby dS_77) rfl (pc' := 78) rfl ?_
        refine g_castore S60 V60 ⟨by decide, by decide⟩ 1 rfl (Nat.le_of_ble_eq_true rfl) na58 (hb hby dS_78) ?_
        intro T62 h62 S62 K62 V62
        have sf63 := sf61.keep K62 (sfS (Safe.arv S60.warm.alike V60 (by decide)) sf0) S60.chv
        rw [narC8 rc27] at V62
        have V62 : Arv Z h62 b58 kc58 .char (2 : Int32) [(.int c26), (.int c27)] (.int (0 : Int32)) := V62
        show Go p e below _ (T62.setTop (mkF m 79 #[.val (.int x), .val (.int ln25), .val (.int c26), .val (.int c27), .val (.int c28)] [(.ref b58), (.ref b55), (.ref b55)]))
        show Go p e below _ (T62.setTop (mkF m 79 #[.val (.int x), .val (.int ln25), .val (.int c26), .val (.int c27), .val (.int c28)] [(.ref b58), (.ref b55), (.ref b55)]))
        have X65 : Ext h55 h60 := ext_keep1 E58 K60 fr58
        have X66 : Ext h55 h62 := ext_keep1 X65 K62 fr58
        have A67 := A55.ext X66
        have F68 := F56.ext X66
        have F69 := F57.ext X66
        refine g_newStr S62 X (cs := [c26, c27]) (Nat.le_of_ble_eq_true rfl) (Nat.le_of_ble_eq_true rfl) rfl na55 sf63 A67 F68 F69 V62 (faS rc26 (faS rc27 fa0)) (w8 hw) (hb hby dS_79) (by rw [hml]; rfl) (Nat.le_of_ble_eq_true rfl) (Nat.le_of_ble_eq_true rfl) (Nat.le_of_ble_eq_true rfl) (Nat.le_of_ble_eq_true rfl) ?_
        intro T64 h64 S64 K64 F64
        show Go p e below _ (T64.setTop (mkF m 82 #[.val (.int x), .val (.int ln25), .val (.int c26), .val (.int c27), .val (.int c28)] [(.ref b55)]))
        show Go p e below _ (T64.setTop (mkF m 82 #[.val (.int x), .val (.int ln25), .val (.int c26), .val (.int c27), .val (.int c28)] [(.ref b55)]))
        have X70 : Ext h h58 := ext_trans E55 E58
        have X71 : Ext h h60 := ext_keep1 X70 K60 (Nat.le_trans E55.1 fr58)
        have X72 : Ext h h62 := ext_keep1 X71 K62 (Nat.le_trans E55.1 fr58)
        have X73 : Ext h h64 := ext_keep1 X72 K64 fr55
        exact g_aret S64 (hb hby dS_82) hret rfl rfl rfl ⟨_, [c26, c27], rfl, F64, (faS rc26.2 (faS rc27.2 fa0)), (Nat.le_of_ble_eq_true rfl), X73⟩
    · have hc51_30 : ln25 = (1 : Int32) := icF_ne q
      show Go p e below _ (T0.setTop (mkF m 54 #[.val (.int x), .val (.int ln25), .val (.int c26), .val (.int c27), .val (.int c28)] []))
      refine s_iloadN S0 (hb hby dS_54) rfl (pc' := 55) rfl ?_
      show Go p e below _ (T0.setTop (mkF m 55 #[.val (.int x), .val (.int ln25), .val (.int c26), .val (.int c27), .val (.int c28)] [(.int c26)]))
      refine g_static S0 (rmVO X S0.old rc26) (fun _ q => nomatch q) (w114 hw) (w115 hw) (w6 hw) (w116 hw) (by decide) (hb hby dS_55) (by rw [hml]; rfl) [(.int c26)] (lenOf pd4 rfl) rfl rfl (Nat.le_of_ble_eq_true rfl) (Nat.le_of_ble_eq_true rfl) (Nat.le_of_ble_eq_true rfl) (Nat.le_of_ble_eq_true rfl) ?_
      intro v74 T74 V74 h74 S74 C74 q74
      obtain ⟨a1, rfl, F1, E1⟩ := q74
      show Go p e below _ (T74.setTop (mkF m 58 #[.val (.int x), .val (.int ln25), .val (.int c26), .val (.int c27), .val (.int c28)] [(.ref a1)]))
      show Go p e below _ (T74.setTop (mkF m 58 #[.val (.int x), .val (.int ln25), .val (.int c26), .val (.int c27), .val (.int c28)] [(.ref a1)]))
      exact g_aret S74 (hb hby dS_58) hret rfl rfl rfl ⟨_, [c26], rfl, F1, (faS rc26.2 fa0), (Nat.le_of_ble_eq_true rfl), E1⟩
  · have hc35_29 : ln25 = (0 : Int32) := icF_ne q
    show Go p e below _ (T0.setTop (mkF m 38 #[.val (.int x), .val (.int ln25), .val (.int c26), .val (.int c27), .val (.int c28)] []))
    refine g_new S0 (w4 hw) (w5 hw) (w6 hw) (hb hby dS_38) (Nat.le_of_ble_eq_true rfl) (Nat.le_of_ble_eq_true rfl) ?_
    intro T75 h75 b75 S75 E75 fr75 lt75 na75 sf75 A75 D75
    have F76 : Fld Z h75 b75 "java/lang/String" "value" "[B" .null := D75 (Or.inr (w20 hw)) (ty := (.array .byte)) (by decide)
    have F77 : Fld Z h75 b75 "java/lang/String" "coder" "B" (.int (0 : Int32)) := D75 (Or.inr (w21 hw)) (ty := .byte) (by decide)
    show Go p e below _ (T75.setTop (mkF m 41 #[.val (.int x), .val (.int ln25), .val (.int c26), .val (.int c27), .val (.int c28)] [(.ref b75)]))
    refine s_dup S75 (hb hby dS_41) rfl (pc' := 42) rfl ?_
    refine s_iconst S75 (hb hby dS_42) (v := (0 : Int32)) rfl (pc' := 43) rfl ?_
    refine g_newarr (aty := .char) S75 (w7 hw) (hb hby dS_43) (by decide) (cap := 0) (by decide) (by decide) (Nat.le_of_ble_eq_true rfl) (Nat.le_of_ble_eq_true rfl) ?_
    intro T78 h78 b78 kc78 S78 E78 fr78 lt78 na78 sf78 A78
    have sf79 := sf75.ext E78 S75.chv
    have V78 : Arv Z h78 b78 kc78 .char (0 : Int32) [] (.int (0 : Int32)) := A78 0
    show Go p e below _ (T78.setTop (mkF m 45 #[.val (.int x), .val (.int ln25), .val (.int c26), .val (.int c27), .val (.int c28)] [(.ref b78), (.ref b75), (.ref b75)]))
    show Go p e below _ (T78.setTop (mkF m 45 #[.val (.int x), .val (.int ln25), .val (.int c26), .val (.int c27), .val (.int c28)] [(.ref b78), (.ref b75), (.ref b75)]))
    have A81 := A75.ext E78
    have F82 := F76.ext E78
    have F83 := F77.ext E78
    refine g_special S78 (rmN1 X na75 S78.old A81 F82 F83 V78) (sf1 (A81).lt sf79) rfl (w8 hw) (w9 hw) (w6 hw) (w10 hw) (by decide) (hb hby dS_45) (by rw [hml]; rfl) b75 [.ref b78] (lenOf pd5 rfl) rfl rfl (Nat.le_of_ble_eq_true rfl) (Nat.le_of_ble_eq_true rfl) (Nat.le_of_ble_eq_true rfl) (Nat.le_of_ble_eq_true rfl) ?_
    intro v80 T80 V80 h80 S80 C80 q80
    obtain ⟨rfl, K80, F80⟩ := q80
    show Go p e below _ (T80.setTop (mkF m 48 #[.val (.int x), .val (.int ln25), .val (.int c26), .val (.int c27), .val (.int c28)] [(.ref b75)]))
    show Go p e below _ (T80.setTop (mkF m 48 #[.val (.int x), .val (.int ln25), .val (.int c26), .val (.int c27), .val (.int c28)] [(.ref b75)]))
    have X84 : Ext h h78 := ext_trans E75 E78
    have X85 : Ext h h80 := ext_keep1 X84 K80 fr75
    exact g_aret S80 (hb hby dS_48) hret rfl rfl rfl ⟨_, [], rfl, F80, fa0, (Nat.le_of_ble_eq_true rfl), X85⟩
theorem dP_0 : decode method_3_code 0 = .ok (.iload_n 1, 1) := by decide +kernel
theorem dP_1 : decode method_3_code 1 = .ok (.iconst 1, 1) := by decide +kernel
theorem dP_2 : decode method_3_code 2 = .ok (.iand, 1) := by decide +kernel
theorem dP_3 : decode method_3_code 3 = .ok (.ifCond .ne 8, 3) := by decide +kernel
theorem dP_6 : decode method_3_code 6 = .ok (.iload_n 0, 1) := by decide +kernel
theorem dP_7 : decode method_3_code 7 = .ok (.invokestatic 16, 3) := by decide +kernel
theorem dP_10 : decode method_3_code 10 = .ok (.areturn, 1) := by decide +kernel
theorem dP_11 : decode method_3_code 11 = .ok (.iload_n 1, 1) := by decide +kernel
theorem dP_12 : decode method_3_code 12 = .ok (.iconst 3, 1) := by decide +kernel
theorem dP_13 : decode method_3_code 13 = .ok (.iushr, 1) := by decide +kernel
theorem dP_14 : decode method_3_code 14 = .ok (.invokestatic 16, 3) := by decide +kernel
theorem dP_17 : decode method_3_code 17 = .ok (.areturn, 1) := by decide +kernel
set_option maxRecDepth 65536 in
set_option maxHeartbeats 40000000 in
theorem rmP {l : Launch} {Z : State} {a0 : Array Value} {n0 : Nat} (X : Ctx Z a0) (x d : Int32) {h : Heap} (hO : Old Z n0 h)  :
    Ctr l Z EL1 n0 (⟨"com/example/wachter/wachter/decision/AccessEqualsPinLaw", "pick", "(II)Ljava/lang/String;"⟩ : MethodName) method_3_code 2 (some (.object "java/lang/String")) ({ frames := 5, cells := 6, slots := 12, locals := 82 } : Room) #[(.int x), (.int d)] h [] (fun v h' => ∃ a cs, v = some (.ref a) ∧ StrF Z h' a cs ∧ (∀ c ∈ cs, ¬ (255 : Int32) < c) ∧ cs.length ≤ 3 ∧ Ext h h') := by
  have hw := X.hw
  obtain ⟨z1, hz1, hz2⟩ := X.2.2.1
  refine Ctr.intro (a0 := a0) (plainFor_of_name pn3) hO X.ew ?_
  intro p e s m below meth c T0 V0 S0 hby hml hret hnm hsf
  rw [ef5]
  refine s_iloadN S0 (hb hby dP_0) rfl (pc' := 1) rfl ?_
  refine s_iconst S0 (hb hby dP_1) (v := (1 : Int32)) rfl (pc' := 2) rfl ?_
  refine s_iand S0 (hb hby dP_2) (z := (d &&& (1 : Int32))) rfl (pc' := 3) rfl ?_
  refine g_if S0 (hb hby dP_3) (by decide) (pcT := 11) (by decide) (fun q => ?_) (fun q => ?_)
  · have hc3_86 : ¬ (d &&& (1 : Int32)) = (0 : Int32) := icT_ne q
    show Go p e below _ (T0.setTop (mkF m 11 #[.val (.int x), .val (.int d)] []))
    refine s_iloadN S0 (hb hby dP_11) rfl (pc' := 12) rfl ?_
    refine s_iconst S0 (hb hby dP_12) (v := (3 : Int32)) rfl (pc' := 13) rfl ?_
    refine s_iushr S0 (hb hby dP_13) (z := ((d.toUInt32 >>> ((3 : Int32) &&& 31).toUInt32).toInt32)) rfl (pc' := 14) rfl ?_
    show Go p e below _ (T0.setTop (mkF m 14 #[.val (.int x), .val (.int d)] [(.int ((d.toUInt32 >>> ((3 : Int32) &&& 31).toUInt32).toInt32))]))
    refine g_static S0 (rmS X ((d.toUInt32 >>> ((3 : Int32) &&& 31).toUInt32).toInt32) S0.old) (fun _ q => nomatch q) (w0 hw) (w1 hw) (w2 hw) (w3 hw) (by decide) (hb hby dP_14) (by rw [hml]; rfl) [(.int ((d.toUInt32 >>> ((3 : Int32) &&& 31).toUInt32).toInt32))] (lenOf pd6 rfl) rfl rfl (Nat.le_of_ble_eq_true rfl) (Nat.le_of_ble_eq_true rfl) (Nat.le_of_ble_eq_true rfl) (Nat.le_of_ble_eq_true rfl) ?_
    intro v88 T88 V88 h88 S88 C88 q88
    obtain ⟨a87, csa87, rfl, Fa87, la87, na87, Ea87⟩ := q88
    show Go p e below _ (T88.setTop (mkF m 17 #[.val (.int x), .val (.int d)] [(.ref a87)]))
    show Go p e below _ (T88.setTop (mkF m 17 #[.val (.int x), .val (.int d)] [(.ref a87)]))
    exact g_aret S88 (hb hby dP_17) hret rfl rfl rfl ⟨_, _, rfl, Fa87, la87, na87, Ea87⟩
  · have hc3_86 : (d &&& (1 : Int32)) = (0 : Int32) := icF_ne q
    show Go p e below _ (T0.setTop (mkF m 6 #[.val (.int x), .val (.int d)] []))
    refine s_iloadN S0 (hb hby dP_6) rfl (pc' := 7) rfl ?_
    show Go p e below _ (T0.setTop (mkF m 7 #[.val (.int x), .val (.int d)] [(.int x)]))
    refine g_static S0 (rmS X x S0.old) (fun _ q => nomatch q) (w0 hw) (w1 hw) (w2 hw) (w3 hw) (by decide) (hb hby dP_7) (by rw [hml]; rfl) [(.int x)] (lenOf pd6 rfl) rfl rfl (Nat.le_of_ble_eq_true rfl) (Nat.le_of_ble_eq_true rfl) (Nat.le_of_ble_eq_true rfl) (Nat.le_of_ble_eq_true rfl) ?_
    intro v90 T90 V90 h90 S90 C90 q90
    obtain ⟨a89, csa89, rfl, Fa89, la89, na89, Ea89⟩ := q90
    show Go p e below _ (T90.setTop (mkF m 10 #[.val (.int x), .val (.int d)] [(.ref a89)]))
    show Go p e below _ (T90.setTop (mkF m 10 #[.val (.int x), .val (.int d)] [(.ref a89)]))
    exact g_aret S90 (hb hby dP_10) hret rfl rfl rfl ⟨_, _, rfl, Fa89, la89, na89, Ea89⟩
theorem dAC_0 : decode prog_1_method_1_code 0 = .ok (.aload_n 0, 1) := by decide +kernel
theorem dAC_1 : decode prog_1_method_1_code 1 = .ok (.invokespecial 1, 3) := by decide +kernel
theorem dAC_4 : decode prog_1_method_1_code 4 = .ok (.aload_n 0, 1) := by decide +kernel
theorem dAC_5 : decode prog_1_method_1_code 5 = .ok (.aload_n 1, 1) := by decide +kernel
theorem dAC_6 : decode prog_1_method_1_code 6 = .ok (.ldc 7, 2) := by decide +kernel
theorem dAC_8 : decode prog_1_method_1_code 8 = .ok (.invokestatic 9, 3) := by decide +kernel
theorem dAC_11 : decode prog_1_method_1_code 11 = .ok (.checkcast 15, 3) := by decide +kernel
theorem dAC_14 : decode prog_1_method_1_code 14 = .ok (.putfield 17, 3) := by decide +kernel
theorem dAC_17 : decode prog_1_method_1_code 17 = .ok (.aload_n 0, 1) := by decide +kernel
theorem dAC_18 : decode prog_1_method_1_code 18 = .ok (.aload_n 2, 1) := by decide +kernel
theorem dAC_19 : decode prog_1_method_1_code 19 = .ok (.ldc 22, 2) := by decide +kernel
theorem dAC_21 : decode prog_1_method_1_code 21 = .ok (.invokestatic 9, 3) := by decide +kernel
theorem dAC_24 : decode prog_1_method_1_code 24 = .ok (.checkcast 15, 3) := by decide +kernel
theorem dAC_27 : decode prog_1_method_1_code 27 = .ok (.putfield 24, 3) := by decide +kernel
theorem dAC_30 : decode prog_1_method_1_code 30 = .ok (.aload_n 0, 1) := by decide +kernel
theorem dAC_31 : decode prog_1_method_1_code 31 = .ok (.aload_n 3, 1) := by decide +kernel
theorem dAC_32 : decode prog_1_method_1_code 32 = .ok (.ldc 26, 2) := by decide +kernel
theorem dAC_34 : decode prog_1_method_1_code 34 = .ok (.invokestatic 9, 3) := by decide +kernel
theorem dAC_37 : decode prog_1_method_1_code 37 = .ok (.checkcast 15, 3) := by decide +kernel
theorem dAC_40 : decode prog_1_method_1_code 40 = .ok (.putfield 28, 3) := by decide +kernel
theorem dAC_43 : decode prog_1_method_1_code 43 = .ok (.return_, 1) := by decide +kernel
set_option maxRecDepth 65536 in
set_option maxHeartbeats 40000000 in
theorem rmAC {l : Launch} {Z : State} {a0 : Array Value} {n0 : Nat} (X : Ctx Z a0) {x sk so sb : Addr} {ck co cb : List Int32} {k0 o0 b0 : Value} (na : n0 ≤ x) {h : Heap} (hO : Old Z n0 h) (Ex : Exa Z h x "com/example/wachter/wachter/decision/Access") (Fk : Fld Z h x "com/example/wachter/wachter/decision/Access" "kind" "Ljava/lang/String;" k0) (Fo : Fld Z h x "com/example/wachter/wachter/decision/Access" "operation" "Ljava/lang/String;" o0) (Fb : Fld Z h x "com/example/wachter/wachter/decision/Access" "object" "Ljava/lang/String;" b0) (Gk : StrF Z h sk ck) (Go_ : StrF Z h so co) (Gb : StrF Z h sb cb) :
    Ctr l Z EL1 n0 (⟨"com/example/wachter/wachter/decision/Access", "<init>", "(Ljava/lang/String;Ljava/lang/String;Ljava/lang/String;)V"⟩ : MethodName) prog_1_method_1_code 4 none ({ frames := 1, cells := 6, slots := 88, locals := 17 } : Room) #[(.ref x), (.ref sk), (.ref so), (.ref sb)] h [] (fun v h' => v = none ∧ Keep h h' [x] ∧ Exa Z h' x "com/example/wachter/wachter/decision/Access" ∧ Fld Z h' x "com/example/wachter/wachter/decision/Access" "kind" "Ljava/lang/String;" (.ref sk) ∧ Fld Z h' x "com/example/wachter/wachter/decision/Access" "operation" "Ljava/lang/String;" (.ref so) ∧ Fld Z h' x "com/example/wachter/wachter/decision/Access" "object" "Ljava/lang/String;" (.ref sb)) := by
  have hw := X.hw
  obtain ⟨z1, hz1, hz2⟩ := X.2.2.1
  refine Ctr.intro (a0 := a0) (plainFor_of_name pn4) hO X.ew ?_
  intro p e s m below meth c T0 V0 S0 hby hml hret hnm hsf
  rw [ef6]
  refine s_aloadN S0 (hb hby dAC_0) rfl rfl (pc' := 1) rfl ?_
  refine g_initO S0 (w46 hw) (w16 hw) (w17 hw) (by rw [hml]; rfl) (hb hby dAC_1) (Nat.le_of_ble_eq_true rfl) (Nat.le_of_ble_eq_true rfl) ?_
  intro T91 ST91
  show Go p e below _ (T91.setTop (mkF m 4 #[.val (.ref x), .val (.ref sk), .val (.ref so), .val (.ref sb)] []))
  refine s_aloadN ST91 (hb hby dAC_4) rfl rfl (pc' := 5) rfl ?_
  refine s_aloadN ST91 (hb hby dAC_5) rfl rfl (pc' := 6) rfl ?_
  show Go p e below _ (T91.setTop (mkF m 6 #[.val (.ref x), .val (.ref sk), .val (.ref so), .val (.ref sb)] [(.ref sk), (.ref x)]))
  refine g_ldcO ST91 (hw _ (List.mem_of_getElem? (i := 47) rfl)) (sAtoms hw) (hb hby dAC_6) (b := 16) (by decide +kernel) (by decide) (Nat.le_of_ble_eq_true rfl) (Nat.le_of_ble_eq_true rfl) ?_
  intro b92 T92 V92 h92 S92 E92 C92
  show Go p e below _ (T92.setTop (mkF m 8 #[.val (.ref x), .val (.ref sk), .val (.ref so), .val (.ref sb)] [(.ref b92), (.ref sk), (.ref x)]))
  show Go p e below _ (T92.setTop (mkF m 8 #[.val (.ref x), .val (.ref sk), .val (.ref so), .val (.ref sb)] [(.ref b92), (.ref sk), (.ref x)]))
  refine g_static S92 (rmRN X sk b92 S92.old) (fun _ q => nomatch q) (w48 hw) (w49 hw) (w50 hw) (w51 hw) (by decide) (hb hby dAC_8) (by rw [hml]; rfl) [(.ref sk), (.ref b92)] (lenOf pd7 rfl) rfl rfl (Nat.le_of_ble_eq_true rfl) (Nat.le_of_ble_eq_true rfl) (Nat.le_of_ble_eq_true rfl) (Nat.le_of_ble_eq_true rfl) ?_
  intro v93 T93 V93 h93 S93 C93 q93
  obtain ⟨rfl, rfl⟩ := q93
  show Go p e below _ (T93.setTop (mkF m 11 #[.val (.ref x), .val (.ref sk), .val (.ref so), .val (.ref sb)] [(.ref sk), (.ref x)]))
  show Go p e below _ (T93.setTop (mkF m 11 #[.val (.ref x), .val (.ref sk), .val (.ref so), .val (.ref sb)] [(.ref sk), (.ref x)]))
  have Gk95 := Gk.ext E92
  refine g_cast S93 (w52 hw) (Ins.self Gk95.exa) (hb hby dAC_11) ?_
  intro T94 ST94
  show Go p e below _ (T94.setTop (mkF m 14 #[.val (.ref x), .val (.ref sk), .val (.ref so), .val (.ref sb)] [(.ref sk), (.ref x)]))
  show Go p e below _ (T94.setTop (mkF m 14 #[.val (.ref x), .val (.ref sk), .val (.ref so), .val (.ref sb)] [(.ref sk), (.ref x)]))
  have Fk97 := Fk.ext E92
  have Ex98 := Ex.ext E92
  have Fo99 := Fo.ext E92
  have Fb100 := Fb.ext E92
  refine g_putF ST94 (w53 hw) Via.refl Fk97 Ex98 (Or.inr ⟨(w54 hw), rfl, hnm⟩) (w41 hw) (ty := (.object "java/lang/String")) (v' := (.ref sk)) (by decide) rfl rfl na (Safe.exa ST94.warm.alike Ex98 (by decide) (by decide)) (hb hby dAC_14) ?_
  intro T96 h96 S96 K96 W96 A96 F96 sg96
  have F101 := Fo99.other W96 (Or.inr (slot_ne (Or.inr (w57 hw)) (Or.inr (w54 hw)) (by decide) (t := (.object "java/lang/String")) (t' := (.object "java/lang/String")) (by decide) (by decide)))
  have F102 := Fb100.other W96 (Or.inr (slot_ne (Or.inr (w60 hw)) (Or.inr (w54 hw)) (by decide) (t := (.object "java/lang/String")) (t' := (.object "java/lang/String")) (by decide) (by decide)))
  show Go p e below _ (T96.setTop (mkF m 17 #[.val (.ref x), .val (.ref sk), .val (.ref so), .val (.ref sb)] []))
  refine s_aloadN S96 (hb hby dAC_17) rfl rfl (pc' := 18) rfl ?_
  refine s_aloadN S96 (hb hby dAC_18) rfl rfl (pc' := 19) rfl ?_
  show Go p e below _ (T96.setTop (mkF m 19 #[.val (.ref x), .val (.ref sk), .val (.ref so), .val (.ref sb)] [(.ref so), (.ref x)]))
  refine g_ldcO S96 (hw _ (List.mem_of_getElem? (i := 55) rfl)) (sAtoms hw) (hb hby dAC_19) (b := 36) (by decide +kernel) (by decide) (Nat.le_of_ble_eq_true rfl) (Nat.le_of_ble_eq_true rfl) ?_
  intro b103 T103 V103 h103 S103 E103 C103
  show Go p e below _ (T103.setTop (mkF m 21 #[.val (.ref x), .val (.ref sk), .val (.ref so), .val (.ref sb)] [(.ref b103), (.ref so), (.ref x)]))
  show Go p e below _ (T103.setTop (mkF m 21 #[.val (.ref x), .val (.ref sk), .val (.ref so), .val (.ref sb)] [(.ref b103), (.ref so), (.ref x)]))
  refine g_static S103 (rmRN X so b103 S103.old) (fun _ q => nomatch q) (w48 hw) (w49 hw) (w50 hw) (w51 hw) (by decide) (hb hby dAC_21) (by rw [hml]; rfl) [(.ref so), (.ref b103)] (lenOf pd7 rfl) rfl rfl (Nat.le_of_ble_eq_true rfl) (Nat.le_of_ble_eq_true rfl) (Nat.le_of_ble_eq_true rfl) (Nat.le_of_ble_eq_true rfl) ?_
  intro v104 T104 V104 h104 S104 C104 q104
  obtain ⟨rfl, rfl⟩ := q104
  show Go p e below _ (T104.setTop (mkF m 24 #[.val (.ref x), .val (.ref sk), .val (.ref so), .val (.ref sb)] [(.ref so), (.ref x)]))
  show Go p e below _ (T104.setTop (mkF m 24 #[.val (.ref x), .val (.ref sk), .val (.ref so), .val (.ref sb)] [(.ref so), (.ref x)]))
  have F106 := Go_.ext E92
  have F107 := F106.keep K96 Ex98 (by decide) (w41 hw)
  have F108 := F107.ext E103
  refine g_cast S104 (w52 hw) (Ins.self F108.exa) (hb hby dAC_24) ?_
  intro T105 ST105
  show Go p e below _ (T105.setTop (mkF m 27 #[.val (.ref x), .val (.ref sk), .val (.ref so), .val (.ref sb)] [(.ref so), (.ref x)]))
  show Go p e below _ (T105.setTop (mkF m 27 #[.val (.ref x), .val (.ref sk), .val (.ref so), .val (.ref sb)] [(.ref so), (.ref x)]))
  have F110 := F101.ext E103
  have A111 := A96.ext E103
  have F112 := F96.ext E103
  have F113 := F102.ext E103
  refine g_putF ST105 (w56 hw) Via.refl F110 A111 (Or.inr ⟨(w57 hw), rfl, hnm⟩) (w41 hw) (ty := (.object "java/lang/String")) (v' := (.ref so)) (by decide) rfl rfl na (Safe.exa ST105.warm.alike A111 (by decide) (by decide)) (hb hby dAC_27) ?_
  intro T109 h109 S109 K109 W109 A109 F109 sg109
  have F114 := F112.other W109 (Or.inr (slot_ne (Or.inr (w54 hw)) (Or.inr (w57 hw)) (by decide) (t := (.object "java/lang/String")) (t' := (.object "java/lang/String")) (by decide) (by decide)))
  have F115 := F113.other W109 (Or.inr (slot_ne (Or.inr (w60 hw)) (Or.inr (w57 hw)) (by decide) (t := (.object "java/lang/String")) (t' := (.object "java/lang/String")) (by decide) (by decide)))
  show Go p e below _ (T109.setTop (mkF m 30 #[.val (.ref x), .val (.ref sk), .val (.ref so), .val (.ref sb)] []))
  refine s_aloadN S109 (hb hby dAC_30) rfl rfl (pc' := 31) rfl ?_
  refine s_aloadN S109 (hb hby dAC_31) rfl rfl (pc' := 32) rfl ?_
  show Go p e below _ (T109.setTop (mkF m 32 #[.val (.ref x), .val (.ref sk), .val (.ref so), .val (.ref sb)] [(.ref sb), (.ref x)]))
  refine g_ldcO S109 (hw _ (List.mem_of_getElem? (i := 58) rfl)) (sAtoms hw) (hb hby dAC_32) (b := 24) (by decide +kernel) (by decide) (Nat.le_of_ble_eq_true rfl) (Nat.le_of_ble_eq_true rfl) ?_
  intro b116 T116 V116 h116 S116 E116 C116
  show Go p e below _ (T116.setTop (mkF m 34 #[.val (.ref x), .val (.ref sk), .val (.ref so), .val (.ref sb)] [(.ref b116), (.ref sb), (.ref x)]))
  show Go p e below _ (T116.setTop (mkF m 34 #[.val (.ref x), .val (.ref sk), .val (.ref so), .val (.ref sb)] [(.ref b116), (.ref sb), (.ref x)]))
  refine g_static S116 (rmRN X sb b116 S116.old) (fun _ q => nomatch q) (w48 hw) (w49 hw) (w50 hw) (w51 hw) (by decide) (hb hby dAC_34) (by rw [hml]; rfl) [(.ref sb), (.ref b116)] (lenOf pd7 rfl) rfl rfl (Nat.le_of_ble_eq_true rfl) (Nat.le_of_ble_eq_true rfl) (Nat.le_of_ble_eq_true rfl) (Nat.le_of_ble_eq_true rfl) ?_
  intro v117 T117 V117 h117 S117 C117 q117
  obtain ⟨rfl, rfl⟩ := q117
  show Go p e below _ (T117.setTop (mkF m 37 #[.val (.ref x), .val (.ref sk), .val (.ref so), .val (.ref sb)] [(.ref sb), (.ref x)]))
  show Go p e below _ (T117.setTop (mkF m 37 #[.val (.ref x), .val (.ref sk), .val (.ref so), .val (.ref sb)] [(.ref sb), (.ref x)]))
  have F119 := Gb.ext E92
  have F120 := F119.keep K96 Ex98 (by decide) (w41 hw)
  have F121 := F120.ext E103
  have F122 := F121.keep K109 A111 (by decide) (w41 hw)
  have F123 := F122.ext E116
  refine g_cast S117 (w52 hw) (Ins.self F123.exa) (hb hby dAC_37) ?_
  intro T118 ST118
  show Go p e below _ (T118.setTop (mkF m 40 #[.val (.ref x), .val (.ref sk), .val (.ref so), .val (.ref sb)] [(.ref sb), (.ref x)]))
  show Go p e below _ (T118.setTop (mkF m 40 #[.val (.ref x), .val (.ref sk), .val (.ref so), .val (.ref sb)] [(.ref sb), (.ref x)]))
  have F125 := F115.ext E116
  have A126 := A109.ext E116
  have F127 := F114.ext E116
  have F128 := F109.ext E116
  refine g_putF ST118 (w59 hw) Via.refl F125 A126 (Or.inr ⟨(w60 hw), rfl, hnm⟩) (w41 hw) (ty := (.object "java/lang/String")) (v' := (.ref sb)) (by decide) rfl rfl na (Safe.exa ST118.warm.alike A126 (by decide) (by decide)) (hb hby dAC_40) ?_
  intro T124 h124 S124 K124 W124 A124 F124 sg124
  have F129 := F127.other W124 (Or.inr (slot_ne (Or.inr (w54 hw)) (Or.inr (w60 hw)) (by decide) (t := (.object "java/lang/String")) (t' := (.object "java/lang/String")) (by decide) (by decide)))
  have F130 := F128.other W124 (Or.inr (slot_ne (Or.inr (w57 hw)) (Or.inr (w60 hw)) (by decide) (t := (.object "java/lang/String")) (t' := (.object "java/lang/String")) (by decide) (by decide)))
  show Go p e below _ (T124.setTop (mkF m 43 #[.val (.ref x), .val (.ref sk), .val (.ref so), .val (.ref sb)] []))
  show Go p e below _ (T124.setTop (mkF m 43 #[.val (.ref x), .val (.ref sk), .val (.ref so), .val (.ref sb)] []))
  have KA131 : Keep h h124 [x] := (((((((Keep.refl h [x]).ext E92).trans K96 (fun y hy => Or.inl hy)).ext E103).trans K109 (fun y hy => Or.inl hy)).ext E116).trans K124 (fun y hy => Or.inl hy))
  exact g_ret S124 (hb hby dAC_43) hret ⟨rfl, KA131, A124, F129, F130, F124⟩
theorem dSM_0 : decode method_4_code 0 = .ok (.aload_n 0, 1) := by decide +kernel
theorem dSM_1 : decode method_4_code 1 = .ok (.invokevirtual 22, 3) := by decide +kernel
theorem dSM_4 : decode method_4_code 4 = .ok (.istore_n 2, 1) := by decide +kernel
theorem dSM_5 : decode method_4_code 5 = .ok (.iload_n 2, 1) := by decide +kernel
theorem dSM_6 : decode method_4_code 6 = .ok (.aload_n 1, 1) := by decide +kernel
theorem dSM_7 : decode method_4_code 7 = .ok (.invokevirtual 22, 3) := by decide +kernel
theorem dSM_10 : decode method_4_code 10 = .ok (.if_icmp .eq 5, 3) := by decide +kernel
theorem dSM_13 : decode method_4_code 13 = .ok (.iconst 0, 1) := by decide +kernel
theorem dSM_14 : decode method_4_code 14 = .ok (.ireturn, 1) := by decide +kernel
theorem dSM_15 : decode method_4_code 15 = .ok (.iload_n 2, 1) := by decide +kernel
theorem dSM_16 : decode method_4_code 16 = .ok (.iconst 1, 1) := by decide +kernel
theorem dSM_17 : decode method_4_code 17 = .ok (.if_icmp .lt 18, 3) := by decide +kernel
theorem dSM_20 : decode method_4_code 20 = .ok (.aload_n 0, 1) := by decide +kernel
theorem dSM_21 : decode method_4_code 21 = .ok (.iconst 0, 1) := by decide +kernel
theorem dSM_22 : decode method_4_code 22 = .ok (.invokevirtual 26, 3) := by decide +kernel
theorem dSM_25 : decode method_4_code 25 = .ok (.aload_n 1, 1) := by decide +kernel
theorem dSM_26 : decode method_4_code 26 = .ok (.iconst 0, 1) := by decide +kernel
theorem dSM_27 : decode method_4_code 27 = .ok (.invokevirtual 26, 3) := by decide +kernel
theorem dSM_30 : decode method_4_code 30 = .ok (.if_icmp .eq 5, 3) := by decide +kernel
theorem dSM_33 : decode method_4_code 33 = .ok (.iconst 0, 1) := by decide +kernel
theorem dSM_34 : decode method_4_code 34 = .ok (.ireturn, 1) := by decide +kernel
theorem dSM_35 : decode method_4_code 35 = .ok (.iload_n 2, 1) := by decide +kernel
theorem dSM_36 : decode method_4_code 36 = .ok (.iconst 2, 1) := by decide +kernel
theorem dSM_37 : decode method_4_code 37 = .ok (.if_icmp .lt 18, 3) := by decide +kernel
theorem dSM_40 : decode method_4_code 40 = .ok (.aload_n 0, 1) := by decide +kernel
theorem dSM_41 : decode method_4_code 41 = .ok (.iconst 1, 1) := by decide +kernel
theorem dSM_42 : decode method_4_code 42 = .ok (.invokevirtual 26, 3) := by decide +kernel
theorem dSM_45 : decode method_4_code 45 = .ok (.aload_n 1, 1) := by decide +kernel
theorem dSM_46 : decode method_4_code 46 = .ok (.iconst 1, 1) := by decide +kernel
theorem dSM_47 : decode method_4_code 47 = .ok (.invokevirtual 26, 3) := by decide +kernel
theorem dSM_50 : decode method_4_code 50 = .ok (.if_icmp .eq 5, 3) := by decide +kernel
theorem dSM_53 : decode method_4_code 53 = .ok (.iconst 0, 1) := by decide +kernel
theorem dSM_54 : decode method_4_code 54 = .ok (.ireturn, 1) := by decide +kernel
theorem dSM_55 : decode method_4_code 55 = .ok (.iload_n 2, 1) := by decide +kernel
theorem dSM_56 : decode method_4_code 56 = .ok (.iconst 3, 1) := by decide +kernel
theorem dSM_57 : decode method_4_code 57 = .ok (.if_icmp .lt 18, 3) := by decide +kernel
theorem dSM_60 : decode method_4_code 60 = .ok (.aload_n 0, 1) := by decide +kernel
theorem dSM_61 : decode method_4_code 61 = .ok (.iconst 2, 1) := by decide +kernel
theorem dSM_62 : decode method_4_code 62 = .ok (.invokevirtual 26, 3) := by decide +kernel
theorem dSM_65 : decode method_4_code 65 = .ok (.aload_n 1, 1) := by decide +kernel
theorem dSM_66 : decode method_4_code 66 = .ok (.iconst 2, 1) := by decide +kernel
theorem dSM_67 : decode method_4_code 67 = .ok (.invokevirtual 26, 3) := by decide +kernel
theorem dSM_70 : decode method_4_code 70 = .ok (.if_icmp .eq 5, 3) := by decide +kernel
theorem dSM_73 : decode method_4_code 73 = .ok (.iconst 0, 1) := by decide +kernel
theorem dSM_74 : decode method_4_code 74 = .ok (.ireturn, 1) := by decide +kernel
theorem dSM_75 : decode method_4_code 75 = .ok (.iconst 1, 1) := by decide +kernel
theorem dSM_76 : decode method_4_code 76 = .ok (.ireturn, 1) := by decide +kernel
set_option maxRecDepth 65536 in
set_option maxHeartbeats 40000000 in
theorem rmSM {l : Launch} {Z : State} {a0 : Array Value} {n0 : Nat} (X : Ctx Z a0) {a b : Addr} {cs ds : List Int32} {h : Heap} (hO : Old Z n0 h) (FA : StrF Z h a cs) (FB : StrF Z h b ds) (lA : ∀ c ∈ cs, ¬ (255 : Int32) < c) (lB : ∀ c ∈ ds, ¬ (255 : Int32) < c) (nA : cs.length ≤ 3) (nB : ds.length ≤ 3) :
    Ctr l Z EL1 n0 (⟨"com/example/wachter/wachter/decision/AccessEqualsPinLaw", "same", "(Ljava/lang/String;Ljava/lang/String;)Z"⟩ : MethodName) method_4_code 3 (some .boolean) ({ frames := 4, cells := 0, slots := 0, locals := 55 } : Room) #[(.ref a), (.ref b)] h [] (fun v h' => ∃ r : Int32, v = some (.int r) ∧ ((r = 1 ∧ cs = ds) ∨ (r = 0 ∧ ¬ cs = ds)) ∧ h' = h) := by
  have hw := X.hw
  obtain ⟨z1, hz1, hz2⟩ := X.2.2.1
  refine Ctr.intro (a0 := a0) (plainFor_of_name pn3) hO X.ew ?_
  intro p e s m below meth c T0 V0 S0 hby hml hret hnm hsf
  rw [ef7]
  rcases own_len3 nA with rfl | ⟨a0_, rfl⟩ | ⟨a0_, a1_, rfl⟩ | ⟨a0_, a1_, a2_, rfl⟩ <;> rcases own_len3 nB with rfl | ⟨b0_, rfl⟩ | ⟨b0_, b1_, rfl⟩ | ⟨b0_, b1_, b2_, rfl⟩
  · skip
    show Go p e below _ (T0.setTop (mkF m 0 #[.val (.ref a), .val (.ref b), .unset] []))
    refine s_aloadN S0 (hb hby dSM_0) rfl rfl (pc' := 1) rfl ?_
    show Go p e below _ (T0.setTop (mkF m 1 #[.val (.ref a), .val (.ref b), .unset] [(.ref a)]))
    refine g_strLen S0 X FA (w64 hw) (hb hby dSM_1) (by rw [hml]; rfl) (Nat.le_of_ble_eq_true rfl) (Nat.le_of_ble_eq_true rfl) (Nat.le_of_ble_eq_true rfl) (Nat.le_of_ble_eq_true rfl) ?_
    intro T132 S132
    show Go p e below _ (T132.setTop (mkF m 4 #[.val (.ref a), .val (.ref b), .unset] [(.int (0 : Int32))]))
    refine s_istoreN S132 (hb hby dSM_4) (L' := #[.val (.ref a), .val (.ref b), .val (.int (0 : Int32))]) rfl (pc' := 5) rfl ?_
    refine s_iloadN S132 (hb hby dSM_5) rfl (pc' := 6) rfl ?_
    refine s_aloadN S132 (hb hby dSM_6) rfl rfl (pc' := 7) rfl ?_
    show Go p e below _ (T132.setTop (mkF m 7 #[.val (.ref a), .val (.ref b), .val (.int (0 : Int32))] [(.ref b), (.int (0 : Int32))]))
    refine g_strLen S132 X FB (w64 hw) (hb hby dSM_7) (by rw [hml]; rfl) (Nat.le_of_ble_eq_true rfl) (Nat.le_of_ble_eq_true rfl) (Nat.le_of_ble_eq_true rfl) (Nat.le_of_ble_eq_true rfl) ?_
    intro T133 S133
    show Go p e below _ (T133.setTop (mkF m 10 #[.val (.ref a), .val (.ref b), .val (.int (0 : Int32))] [(.int (0 : Int32)), (.int (0 : Int32))]))
    refine s_icmpY S133 (hb hby dSM_10) (by decide) (by decide) (pcT := 15) (by decide) ?_
    refine s_iloadN S133 (hb hby dSM_15) rfl (pc' := 16) rfl ?_
    refine s_iconst S133 (hb hby dSM_16) (v := (1 : Int32)) rfl (pc' := 17) rfl ?_
    refine s_icmpY S133 (hb hby dSM_17) (by decide) (by decide) (pcT := 35) (by decide) ?_
    refine s_iloadN S133 (hb hby dSM_35) rfl (pc' := 36) rfl ?_
    refine s_iconst S133 (hb hby dSM_36) (v := (2 : Int32)) rfl (pc' := 37) rfl ?_
    refine s_icmpY S133 (hb hby dSM_37) (by decide) (by decide) (pcT := 55) (by decide) ?_
    refine s_iloadN S133 (hb hby dSM_55) rfl (pc' := 56) rfl ?_
    refine s_iconst S133 (hb hby dSM_56) (v := (3 : Int32)) rfl (pc' := 57) rfl ?_
    refine s_icmpY S133 (hb hby dSM_57) (by decide) (by decide) (pcT := 75) (by decide) ?_
    refine s_iconst S133 (hb hby dSM_75) (v := (1 : Int32)) rfl (pc' := 76) rfl ?_
    show Go p e below _ (T133.setTop (mkF m 76 #[.val (.ref a), .val (.ref b), .val (.int (0 : Int32))] [(.int (1 : Int32))]))
    exact g_iretN S133 (hb hby dSM_76) hret (by simp) ⟨_, rfl, Or.inl ⟨rfl, by simp⟩, rfl⟩
  · skip
    show Go p e below _ (T0.setTop (mkF m 0 #[.val (.ref a), .val (.ref b), .unset] []))
    refine s_aloadN S0 (hb hby dSM_0) rfl rfl (pc' := 1) rfl ?_
    show Go p e below _ (T0.setTop (mkF m 1 #[.val (.ref a), .val (.ref b), .unset] [(.ref a)]))
    refine g_strLen S0 X FA (w64 hw) (hb hby dSM_1) (by rw [hml]; rfl) (Nat.le_of_ble_eq_true rfl) (Nat.le_of_ble_eq_true rfl) (Nat.le_of_ble_eq_true rfl) (Nat.le_of_ble_eq_true rfl) ?_
    intro T134 S134
    show Go p e below _ (T134.setTop (mkF m 4 #[.val (.ref a), .val (.ref b), .unset] [(.int (0 : Int32))]))
    refine s_istoreN S134 (hb hby dSM_4) (L' := #[.val (.ref a), .val (.ref b), .val (.int (0 : Int32))]) rfl (pc' := 5) rfl ?_
    refine s_iloadN S134 (hb hby dSM_5) rfl (pc' := 6) rfl ?_
    refine s_aloadN S134 (hb hby dSM_6) rfl rfl (pc' := 7) rfl ?_
    show Go p e below _ (T134.setTop (mkF m 7 #[.val (.ref a), .val (.ref b), .val (.int (0 : Int32))] [(.ref b), (.int (0 : Int32))]))
    refine g_strLen S134 X FB (w64 hw) (hb hby dSM_7) (by rw [hml]; rfl) (Nat.le_of_ble_eq_true rfl) (Nat.le_of_ble_eq_true rfl) (Nat.le_of_ble_eq_true rfl) (Nat.le_of_ble_eq_true rfl) ?_
    intro T135 S135
    show Go p e below _ (T135.setTop (mkF m 10 #[.val (.ref a), .val (.ref b), .val (.int (0 : Int32))] [(.int (1 : Int32)), (.int (0 : Int32))]))
    refine s_icmpN S135 (hb hby dSM_10) (by decide) (pc' := 13) rfl ?_
    refine s_iconst S135 (hb hby dSM_13) (v := (0 : Int32)) rfl (pc' := 14) rfl ?_
    show Go p e below _ (T135.setTop (mkF m 14 #[.val (.ref a), .val (.ref b), .val (.int (0 : Int32))] [(.int (0 : Int32))]))
    exact g_iretN S135 (hb hby dSM_14) hret (by simp) ⟨_, rfl, Or.inr ⟨rfl, by simp⟩, rfl⟩
  · skip
    show Go p e below _ (T0.setTop (mkF m 0 #[.val (.ref a), .val (.ref b), .unset] []))
    refine s_aloadN S0 (hb hby dSM_0) rfl rfl (pc' := 1) rfl ?_
    show Go p e below _ (T0.setTop (mkF m 1 #[.val (.ref a), .val (.ref b), .unset] [(.ref a)]))
    refine g_strLen S0 X FA (w64 hw) (hb hby dSM_1) (by rw [hml]; rfl) (Nat.le_of_ble_eq_true rfl) (Nat.le_of_ble_eq_true rfl) (Nat.le_of_ble_eq_true rfl) (Nat.le_of_ble_eq_true rfl) ?_
    intro T136 S136
    show Go p e below _ (T136.setTop (mkF m 4 #[.val (.ref a), .val (.ref b), .unset] [(.int (0 : Int32))]))
    refine s_istoreN S136 (hb hby dSM_4) (L' := #[.val (.ref a), .val (.ref b), .val (.int (0 : Int32))]) rfl (pc' := 5) rfl ?_
    refine s_iloadN S136 (hb hby dSM_5) rfl (pc' := 6) rfl ?_
    refine s_aloadN S136 (hb hby dSM_6) rfl rfl (pc' := 7) rfl ?_
    show Go p e below _ (T136.setTop (mkF m 7 #[.val (.ref a), .val (.ref b), .val (.int (0 : Int32))] [(.ref b), (.int (0 : Int32))]))
    refine g_strLen S136 X FB (w64 hw) (hb hby dSM_7) (by rw [hml]; rfl) (Nat.le_of_ble_eq_true rfl) (Nat.le_of_ble_eq_true rfl) (Nat.le_of_ble_eq_true rfl) (Nat.le_of_ble_eq_true rfl) ?_
    intro T137 S137
    show Go p e below _ (T137.setTop (mkF m 10 #[.val (.ref a), .val (.ref b), .val (.int (0 : Int32))] [(.int (2 : Int32)), (.int (0 : Int32))]))
    refine s_icmpN S137 (hb hby dSM_10) (by decide) (pc' := 13) rfl ?_
    refine s_iconst S137 (hb hby dSM_13) (v := (0 : Int32)) rfl (pc' := 14) rfl ?_
    show Go p e below _ (T137.setTop (mkF m 14 #[.val (.ref a), .val (.ref b), .val (.int (0 : Int32))] [(.int (0 : Int32))]))
    exact g_iretN S137 (hb hby dSM_14) hret (by simp) ⟨_, rfl, Or.inr ⟨rfl, by simp⟩, rfl⟩
  · skip
    show Go p e below _ (T0.setTop (mkF m 0 #[.val (.ref a), .val (.ref b), .unset] []))
    refine s_aloadN S0 (hb hby dSM_0) rfl rfl (pc' := 1) rfl ?_
    show Go p e below _ (T0.setTop (mkF m 1 #[.val (.ref a), .val (.ref b), .unset] [(.ref a)]))
    refine g_strLen S0 X FA (w64 hw) (hb hby dSM_1) (by rw [hml]; rfl) (Nat.le_of_ble_eq_true rfl) (Nat.le_of_ble_eq_true rfl) (Nat.le_of_ble_eq_true rfl) (Nat.le_of_ble_eq_true rfl) ?_
    intro T138 S138
    show Go p e below _ (T138.setTop (mkF m 4 #[.val (.ref a), .val (.ref b), .unset] [(.int (0 : Int32))]))
    refine s_istoreN S138 (hb hby dSM_4) (L' := #[.val (.ref a), .val (.ref b), .val (.int (0 : Int32))]) rfl (pc' := 5) rfl ?_
    refine s_iloadN S138 (hb hby dSM_5) rfl (pc' := 6) rfl ?_
    refine s_aloadN S138 (hb hby dSM_6) rfl rfl (pc' := 7) rfl ?_
    show Go p e below _ (T138.setTop (mkF m 7 #[.val (.ref a), .val (.ref b), .val (.int (0 : Int32))] [(.ref b), (.int (0 : Int32))]))
    refine g_strLen S138 X FB (w64 hw) (hb hby dSM_7) (by rw [hml]; rfl) (Nat.le_of_ble_eq_true rfl) (Nat.le_of_ble_eq_true rfl) (Nat.le_of_ble_eq_true rfl) (Nat.le_of_ble_eq_true rfl) ?_
    intro T139 S139
    show Go p e below _ (T139.setTop (mkF m 10 #[.val (.ref a), .val (.ref b), .val (.int (0 : Int32))] [(.int (3 : Int32)), (.int (0 : Int32))]))
    refine s_icmpN S139 (hb hby dSM_10) (by decide) (pc' := 13) rfl ?_
    refine s_iconst S139 (hb hby dSM_13) (v := (0 : Int32)) rfl (pc' := 14) rfl ?_
    show Go p e below _ (T139.setTop (mkF m 14 #[.val (.ref a), .val (.ref b), .val (.int (0 : Int32))] [(.int (0 : Int32))]))
    exact g_iretN S139 (hb hby dSM_14) hret (by simp) ⟨_, rfl, Or.inr ⟨rfl, by simp⟩, rfl⟩
  · skip
    show Go p e below _ (T0.setTop (mkF m 0 #[.val (.ref a), .val (.ref b), .unset] []))
    refine s_aloadN S0 (hb hby dSM_0) rfl rfl (pc' := 1) rfl ?_
    show Go p e below _ (T0.setTop (mkF m 1 #[.val (.ref a), .val (.ref b), .unset] [(.ref a)]))
    refine g_strLen S0 X FA (w64 hw) (hb hby dSM_1) (by rw [hml]; rfl) (Nat.le_of_ble_eq_true rfl) (Nat.le_of_ble_eq_true rfl) (Nat.le_of_ble_eq_true rfl) (Nat.le_of_ble_eq_true rfl) ?_
    intro T140 S140
    show Go p e below _ (T140.setTop (mkF m 4 #[.val (.ref a), .val (.ref b), .unset] [(.int (1 : Int32))]))
    refine s_istoreN S140 (hb hby dSM_4) (L' := #[.val (.ref a), .val (.ref b), .val (.int (1 : Int32))]) rfl (pc' := 5) rfl ?_
    refine s_iloadN S140 (hb hby dSM_5) rfl (pc' := 6) rfl ?_
    refine s_aloadN S140 (hb hby dSM_6) rfl rfl (pc' := 7) rfl ?_
    show Go p e below _ (T140.setTop (mkF m 7 #[.val (.ref a), .val (.ref b), .val (.int (1 : Int32))] [(.ref b), (.int (1 : Int32))]))
    refine g_strLen S140 X FB (w64 hw) (hb hby dSM_7) (by rw [hml]; rfl) (Nat.le_of_ble_eq_true rfl) (Nat.le_of_ble_eq_true rfl) (Nat.le_of_ble_eq_true rfl) (Nat.le_of_ble_eq_true rfl) ?_
    intro T141 S141
    show Go p e below _ (T141.setTop (mkF m 10 #[.val (.ref a), .val (.ref b), .val (.int (1 : Int32))] [(.int (0 : Int32)), (.int (1 : Int32))]))
    refine s_icmpN S141 (hb hby dSM_10) (by decide) (pc' := 13) rfl ?_
    refine s_iconst S141 (hb hby dSM_13) (v := (0 : Int32)) rfl (pc' := 14) rfl ?_
    show Go p e below _ (T141.setTop (mkF m 14 #[.val (.ref a), .val (.ref b), .val (.int (1 : Int32))] [(.int (0 : Int32))]))
    exact g_iretN S141 (hb hby dSM_14) hret (by simp) ⟨_, rfl, Or.inr ⟨rfl, by simp⟩, rfl⟩
  · skip
    show Go p e below _ (T0.setTop (mkF m 0 #[.val (.ref a), .val (.ref b), .unset] []))
    refine s_aloadN S0 (hb hby dSM_0) rfl rfl (pc' := 1) rfl ?_
    show Go p e below _ (T0.setTop (mkF m 1 #[.val (.ref a), .val (.ref b), .unset] [(.ref a)]))
    refine g_strLen S0 X FA (w64 hw) (hb hby dSM_1) (by rw [hml]; rfl) (Nat.le_of_ble_eq_true rfl) (Nat.le_of_ble_eq_true rfl) (Nat.le_of_ble_eq_true rfl) (Nat.le_of_ble_eq_true rfl) ?_
    intro T142 S142
    show Go p e below _ (T142.setTop (mkF m 4 #[.val (.ref a), .val (.ref b), .unset] [(.int (1 : Int32))]))
    refine s_istoreN S142 (hb hby dSM_4) (L' := #[.val (.ref a), .val (.ref b), .val (.int (1 : Int32))]) rfl (pc' := 5) rfl ?_
    refine s_iloadN S142 (hb hby dSM_5) rfl (pc' := 6) rfl ?_
    refine s_aloadN S142 (hb hby dSM_6) rfl rfl (pc' := 7) rfl ?_
    show Go p e below _ (T142.setTop (mkF m 7 #[.val (.ref a), .val (.ref b), .val (.int (1 : Int32))] [(.ref b), (.int (1 : Int32))]))
    refine g_strLen S142 X FB (w64 hw) (hb hby dSM_7) (by rw [hml]; rfl) (Nat.le_of_ble_eq_true rfl) (Nat.le_of_ble_eq_true rfl) (Nat.le_of_ble_eq_true rfl) (Nat.le_of_ble_eq_true rfl) ?_
    intro T143 S143
    show Go p e below _ (T143.setTop (mkF m 10 #[.val (.ref a), .val (.ref b), .val (.int (1 : Int32))] [(.int (1 : Int32)), (.int (1 : Int32))]))
    refine s_icmpY S143 (hb hby dSM_10) (by decide) (by decide) (pcT := 15) (by decide) ?_
    refine s_iloadN S143 (hb hby dSM_15) rfl (pc' := 16) rfl ?_
    refine s_iconst S143 (hb hby dSM_16) (v := (1 : Int32)) rfl (pc' := 17) rfl ?_
    refine s_icmpN S143 (hb hby dSM_17) (by decide) (pc' := 20) rfl ?_
    refine s_aloadN S143 (hb hby dSM_20) rfl rfl (pc' := 21) rfl ?_
    refine s_iconst S143 (hb hby dSM_21) (v := (0 : Int32)) rfl (pc' := 22) rfl ?_
    show Go p e below _ (T143.setTop (mkF m 22 #[.val (.ref a), .val (.ref b), .val (.int (1 : Int32))] [(.int (0 : Int32)), (.ref a)]))
    refine g_strChar S143 X (i := 0) FA lA (Nat.le_of_ble_eq_true rfl) rfl (w74 hw) (hb hby dSM_22) (by rw [hml]; rfl) (Nat.le_of_ble_eq_true rfl) (Nat.le_of_ble_eq_true rfl) (Nat.le_of_ble_eq_true rfl) (Nat.le_of_ble_eq_true rfl) ?_
    intro T144 S144
    show Go p e below _ (T144.setTop (mkF m 25 #[.val (.ref a), .val (.ref b), .val (.int (1 : Int32))] [(.int a0_)]))
    refine s_aloadN S144 (hb hby dSM_25) rfl rfl (pc' := 26) rfl ?_
    refine s_iconst S144 (hb hby dSM_26) (v := (0 : Int32)) rfl (pc' := 27) rfl ?_
    show Go p e below _ (T144.setTop (mkF m 27 #[.val (.ref a), .val (.ref b), .val (.int (1 : Int32))] [(.int (0 : Int32)), (.ref b), (.int a0_)]))
    refine g_strChar S144 X (i := 0) FB lB (Nat.le_of_ble_eq_true rfl) rfl (w74 hw) (hb hby dSM_27) (by rw [hml]; rfl) (Nat.le_of_ble_eq_true rfl) (Nat.le_of_ble_eq_true rfl) (Nat.le_of_ble_eq_true rfl) (Nat.le_of_ble_eq_true rfl) ?_
    intro T145 S145
    show Go p e below _ (T145.setTop (mkF m 30 #[.val (.ref a), .val (.ref b), .val (.int (1 : Int32))] [(.int b0_), (.int a0_)]))
    refine g_icmp S145 (hb hby dSM_30) (by decide) (pcT := 35) (by decide) (fun q => ?_) (fun q => ?_)
    · have hc30_146 : a0_ = b0_ := icT_eq q
      show Go p e below _ (T145.setTop (mkF m 35 #[.val (.ref a), .val (.ref b), .val (.int (1 : Int32))] []))
      refine s_iloadN S145 (hb hby dSM_35) rfl (pc' := 36) rfl ?_
      refine s_iconst S145 (hb hby dSM_36) (v := (2 : Int32)) rfl (pc' := 37) rfl ?_
      refine s_icmpY S145 (hb hby dSM_37) (by decide) (by decide) (pcT := 55) (by decide) ?_
      refine s_iloadN S145 (hb hby dSM_55) rfl (pc' := 56) rfl ?_
      refine s_iconst S145 (hb hby dSM_56) (v := (3 : Int32)) rfl (pc' := 57) rfl ?_
      refine s_icmpY S145 (hb hby dSM_57) (by decide) (by decide) (pcT := 75) (by decide) ?_
      refine s_iconst S145 (hb hby dSM_75) (v := (1 : Int32)) rfl (pc' := 76) rfl ?_
      show Go p e below _ (T145.setTop (mkF m 76 #[.val (.ref a), .val (.ref b), .val (.int (1 : Int32))] [(.int (1 : Int32))]))
      exact g_iretN S145 (hb hby dSM_76) hret (by simp) ⟨_, rfl, Or.inl ⟨rfl, by simp [hc30_146]⟩, rfl⟩
    · have hc30_146 : ¬ a0_ = b0_ := icF_eq q
      show Go p e below _ (T145.setTop (mkF m 33 #[.val (.ref a), .val (.ref b), .val (.int (1 : Int32))] []))
      refine s_iconst S145 (hb hby dSM_33) (v := (0 : Int32)) rfl (pc' := 34) rfl ?_
      show Go p e below _ (T145.setTop (mkF m 34 #[.val (.ref a), .val (.ref b), .val (.int (1 : Int32))] [(.int (0 : Int32))]))
      exact g_iretN S145 (hb hby dSM_34) hret (by simp) ⟨_, rfl, Or.inr ⟨rfl, by simp [hc30_146]⟩, rfl⟩
  · skip
    show Go p e below _ (T0.setTop (mkF m 0 #[.val (.ref a), .val (.ref b), .unset] []))
    refine s_aloadN S0 (hb hby dSM_0) rfl rfl (pc' := 1) rfl ?_
    show Go p e below _ (T0.setTop (mkF m 1 #[.val (.ref a), .val (.ref b), .unset] [(.ref a)]))
    refine g_strLen S0 X FA (w64 hw) (hb hby dSM_1) (by rw [hml]; rfl) (Nat.le_of_ble_eq_true rfl) (Nat.le_of_ble_eq_true rfl) (Nat.le_of_ble_eq_true rfl) (Nat.le_of_ble_eq_true rfl) ?_
    intro T147 S147
    show Go p e below _ (T147.setTop (mkF m 4 #[.val (.ref a), .val (.ref b), .unset] [(.int (1 : Int32))]))
    refine s_istoreN S147 (hb hby dSM_4) (L' := #[.val (.ref a), .val (.ref b), .val (.int (1 : Int32))]) rfl (pc' := 5) rfl ?_
    refine s_iloadN S147 (hb hby dSM_5) rfl (pc' := 6) rfl ?_
    refine s_aloadN S147 (hb hby dSM_6) rfl rfl (pc' := 7) rfl ?_
    show Go p e below _ (T147.setTop (mkF m 7 #[.val (.ref a), .val (.ref b), .val (.int (1 : Int32))] [(.ref b), (.int (1 : Int32))]))
    refine g_strLen S147 X FB (w64 hw) (hb hby dSM_7) (by rw [hml]; rfl) (Nat.le_of_ble_eq_true rfl) (Nat.le_of_ble_eq_true rfl) (Nat.le_of_ble_eq_true rfl) (Nat.le_of_ble_eq_true rfl) ?_
    intro T148 S148
    show Go p e below _ (T148.setTop (mkF m 10 #[.val (.ref a), .val (.ref b), .val (.int (1 : Int32))] [(.int (2 : Int32)), (.int (1 : Int32))]))
    refine s_icmpN S148 (hb hby dSM_10) (by decide) (pc' := 13) rfl ?_
    refine s_iconst S148 (hb hby dSM_13) (v := (0 : Int32)) rfl (pc' := 14) rfl ?_
    show Go p e below _ (T148.setTop (mkF m 14 #[.val (.ref a), .val (.ref b), .val (.int (1 : Int32))] [(.int (0 : Int32))]))
    exact g_iretN S148 (hb hby dSM_14) hret (by simp) ⟨_, rfl, Or.inr ⟨rfl, by simp⟩, rfl⟩
  · skip
    show Go p e below _ (T0.setTop (mkF m 0 #[.val (.ref a), .val (.ref b), .unset] []))
    refine s_aloadN S0 (hb hby dSM_0) rfl rfl (pc' := 1) rfl ?_
    show Go p e below _ (T0.setTop (mkF m 1 #[.val (.ref a), .val (.ref b), .unset] [(.ref a)]))
    refine g_strLen S0 X FA (w64 hw) (hb hby dSM_1) (by rw [hml]; rfl) (Nat.le_of_ble_eq_true rfl) (Nat.le_of_ble_eq_true rfl) (Nat.le_of_ble_eq_true rfl) (Nat.le_of_ble_eq_true rfl) ?_
    intro T149 S149
    show Go p e below _ (T149.setTop (mkF m 4 #[.val (.ref a), .val (.ref b), .unset] [(.int (1 : Int32))]))
    refine s_istoreN S149 (hb hby dSM_4) (L' := #[.val (.ref a), .val (.ref b), .val (.int (1 : Int32))]) rfl (pc' := 5) rfl ?_
    refine s_iloadN S149 (hb hby dSM_5) rfl (pc' := 6) rfl ?_
    refine s_aloadN S149 (hb hby dSM_6) rfl rfl (pc' := 7) rfl ?_
    show Go p e below _ (T149.setTop (mkF m 7 #[.val (.ref a), .val (.ref b), .val (.int (1 : Int32))] [(.ref b), (.int (1 : Int32))]))
    refine g_strLen S149 X FB (w64 hw) (hb hby dSM_7) (by rw [hml]; rfl) (Nat.le_of_ble_eq_true rfl) (Nat.le_of_ble_eq_true rfl) (Nat.le_of_ble_eq_true rfl) (Nat.le_of_ble_eq_true rfl) ?_
    intro T150 S150
    show Go p e below _ (T150.setTop (mkF m 10 #[.val (.ref a), .val (.ref b), .val (.int (1 : Int32))] [(.int (3 : Int32)), (.int (1 : Int32))]))
    refine s_icmpN S150 (hb hby dSM_10) (by decide) (pc' := 13) rfl ?_
    refine s_iconst S150 (hb hby dSM_13) (v := (0 : Int32)) rfl (pc' := 14) rfl ?_
    show Go p e below _ (T150.setTop (mkF m 14 #[.val (.ref a), .val (.ref b), .val (.int (1 : Int32))] [(.int (0 : Int32))]))
    exact g_iretN S150 (hb hby dSM_14) hret (by simp) ⟨_, rfl, Or.inr ⟨rfl, by simp⟩, rfl⟩
  · skip
    show Go p e below _ (T0.setTop (mkF m 0 #[.val (.ref a), .val (.ref b), .unset] []))
    refine s_aloadN S0 (hb hby dSM_0) rfl rfl (pc' := 1) rfl ?_
    show Go p e below _ (T0.setTop (mkF m 1 #[.val (.ref a), .val (.ref b), .unset] [(.ref a)]))
    refine g_strLen S0 X FA (w64 hw) (hb hby dSM_1) (by rw [hml]; rfl) (Nat.le_of_ble_eq_true rfl) (Nat.le_of_ble_eq_true rfl) (Nat.le_of_ble_eq_true rfl) (Nat.le_of_ble_eq_true rfl) ?_
    intro T151 S151
    show Go p e below _ (T151.setTop (mkF m 4 #[.val (.ref a), .val (.ref b), .unset] [(.int (2 : Int32))]))
    refine s_istoreN S151 (hb hby dSM_4) (L' := #[.val (.ref a), .val (.ref b), .val (.int (2 : Int32))]) rfl (pc' := 5) rfl ?_
    refine s_iloadN S151 (hb hby dSM_5) rfl (pc' := 6) rfl ?_
    refine s_aloadN S151 (hb hby dSM_6) rfl rfl (pc' := 7) rfl ?_
    show Go p e below _ (T151.setTop (mkF m 7 #[.val (.ref a), .val (.ref b), .val (.int (2 : Int32))] [(.ref b), (.int (2 : Int32))]))
    refine g_strLen S151 X FB (w64 hw) (hb hby dSM_7) (by rw [hml]; rfl) (Nat.le_of_ble_eq_true rfl) (Nat.le_of_ble_eq_true rfl) (Nat.le_of_ble_eq_true rfl) (Nat.le_of_ble_eq_true rfl) ?_
    intro T152 S152
    show Go p e below _ (T152.setTop (mkF m 10 #[.val (.ref a), .val (.ref b), .val (.int (2 : Int32))] [(.int (0 : Int32)), (.int (2 : Int32))]))
    refine s_icmpN S152 (hb hby dSM_10) (by decide) (pc' := 13) rfl ?_
    refine s_iconst S152 (hb hby dSM_13) (v := (0 : Int32)) rfl (pc' := 14) rfl ?_
    show Go p e below _ (T152.setTop (mkF m 14 #[.val (.ref a), .val (.ref b), .val (.int (2 : Int32))] [(.int (0 : Int32))]))
    exact g_iretN S152 (hb hby dSM_14) hret (by simp) ⟨_, rfl, Or.inr ⟨rfl, by simp⟩, rfl⟩
  · skip
    show Go p e below _ (T0.setTop (mkF m 0 #[.val (.ref a), .val (.ref b), .unset] []))
    refine s_aloadN S0 (hb hby dSM_0) rfl rfl (pc' := 1) rfl ?_
    show Go p e below _ (T0.setTop (mkF m 1 #[.val (.ref a), .val (.ref b), .unset] [(.ref a)]))
    refine g_strLen S0 X FA (w64 hw) (hb hby dSM_1) (by rw [hml]; rfl) (Nat.le_of_ble_eq_true rfl) (Nat.le_of_ble_eq_true rfl) (Nat.le_of_ble_eq_true rfl) (Nat.le_of_ble_eq_true rfl) ?_
    intro T153 S153
    show Go p e below _ (T153.setTop (mkF m 4 #[.val (.ref a), .val (.ref b), .unset] [(.int (2 : Int32))]))
    refine s_istoreN S153 (hb hby dSM_4) (L' := #[.val (.ref a), .val (.ref b), .val (.int (2 : Int32))]) rfl (pc' := 5) rfl ?_
    refine s_iloadN S153 (hb hby dSM_5) rfl (pc' := 6) rfl ?_
    refine s_aloadN S153 (hb hby dSM_6) rfl rfl (pc' := 7) rfl ?_
    show Go p e below _ (T153.setTop (mkF m 7 #[.val (.ref a), .val (.ref b), .val (.int (2 : Int32))] [(.ref b), (.int (2 : Int32))]))
    refine g_strLen S153 X FB (w64 hw) (hb hby dSM_7) (by rw [hml]; rfl) (Nat.le_of_ble_eq_true rfl) (Nat.le_of_ble_eq_true rfl) (Nat.le_of_ble_eq_true rfl) (Nat.le_of_ble_eq_true rfl) ?_
    intro T154 S154
    show Go p e below _ (T154.setTop (mkF m 10 #[.val (.ref a), .val (.ref b), .val (.int (2 : Int32))] [(.int (1 : Int32)), (.int (2 : Int32))]))
    refine s_icmpN S154 (hb hby dSM_10) (by decide) (pc' := 13) rfl ?_
    refine s_iconst S154 (hb hby dSM_13) (v := (0 : Int32)) rfl (pc' := 14) rfl ?_
    show Go p e below _ (T154.setTop (mkF m 14 #[.val (.ref a), .val (.ref b), .val (.int (2 : Int32))] [(.int (0 : Int32))]))
    exact g_iretN S154 (hb hby dSM_14) hret (by simp) ⟨_, rfl, Or.inr ⟨rfl, by simp⟩, rfl⟩
  · skip
    show Go p e below _ (T0.setTop (mkF m 0 #[.val (.ref a), .val (.ref b), .unset] []))
    refine s_aloadN S0 (hb hby dSM_0) rfl rfl (pc' := 1) rfl ?_
    show Go p e below _ (T0.setTop (mkF m 1 #[.val (.ref a), .val (.ref b), .unset] [(.ref a)]))
    refine g_strLen S0 X FA (w64 hw) (hb hby dSM_1) (by rw [hml]; rfl) (Nat.le_of_ble_eq_true rfl) (Nat.le_of_ble_eq_true rfl) (Nat.le_of_ble_eq_true rfl) (Nat.le_of_ble_eq_true rfl) ?_
    intro T155 S155
    show Go p e below _ (T155.setTop (mkF m 4 #[.val (.ref a), .val (.ref b), .unset] [(.int (2 : Int32))]))
    refine s_istoreN S155 (hb hby dSM_4) (L' := #[.val (.ref a), .val (.ref b), .val (.int (2 : Int32))]) rfl (pc' := 5) rfl ?_
    refine s_iloadN S155 (hb hby dSM_5) rfl (pc' := 6) rfl ?_
    refine s_aloadN S155 (hb hby dSM_6) rfl rfl (pc' := 7) rfl ?_
    show Go p e below _ (T155.setTop (mkF m 7 #[.val (.ref a), .val (.ref b), .val (.int (2 : Int32))] [(.ref b), (.int (2 : Int32))]))
    refine g_strLen S155 X FB (w64 hw) (hb hby dSM_7) (by rw [hml]; rfl) (Nat.le_of_ble_eq_true rfl) (Nat.le_of_ble_eq_true rfl) (Nat.le_of_ble_eq_true rfl) (Nat.le_of_ble_eq_true rfl) ?_
    intro T156 S156
    show Go p e below _ (T156.setTop (mkF m 10 #[.val (.ref a), .val (.ref b), .val (.int (2 : Int32))] [(.int (2 : Int32)), (.int (2 : Int32))]))
    refine s_icmpY S156 (hb hby dSM_10) (by decide) (by decide) (pcT := 15) (by decide) ?_
    refine s_iloadN S156 (hb hby dSM_15) rfl (pc' := 16) rfl ?_
    refine s_iconst S156 (hb hby dSM_16) (v := (1 : Int32)) rfl (pc' := 17) rfl ?_
    refine s_icmpN S156 (hb hby dSM_17) (by decide) (pc' := 20) rfl ?_
    refine s_aloadN S156 (hb hby dSM_20) rfl rfl (pc' := 21) rfl ?_
    refine s_iconst S156 (hb hby dSM_21) (v := (0 : Int32)) rfl (pc' := 22) rfl ?_
    show Go p e below _ (T156.setTop (mkF m 22 #[.val (.ref a), .val (.ref b), .val (.int (2 : Int32))] [(.int (0 : Int32)), (.ref a)]))
    refine g_strChar S156 X (i := 0) FA lA (Nat.le_of_ble_eq_true rfl) rfl (w74 hw) (hb hby dSM_22) (by rw [hml]; rfl) (Nat.le_of_ble_eq_true rfl) (Nat.le_of_ble_eq_true rfl) (Nat.le_of_ble_eq_true rfl) (Nat.le_of_ble_eq_true rfl) ?_
    intro T157 S157
    show Go p e below _ (T157.setTop (mkF m 25 #[.val (.ref a), .val (.ref b), .val (.int (2 : Int32))] [(.int a0_)]))
    refine s_aloadN S157 (hb hby dSM_25) rfl rfl (pc' := 26) rfl ?_
    refine s_iconst S157 (hb hby dSM_26) (v := (0 : Int32)) rfl (pc' := 27) rfl ?_
    show Go p e below _ (T157.setTop (mkF m 27 #[.val (.ref a), .val (.ref b), .val (.int (2 : Int32))] [(.int (0 : Int32)), (.ref b), (.int a0_)]))
    refine g_strChar S157 X (i := 0) FB lB (Nat.le_of_ble_eq_true rfl) rfl (w74 hw) (hb hby dSM_27) (by rw [hml]; rfl) (Nat.le_of_ble_eq_true rfl) (Nat.le_of_ble_eq_true rfl) (Nat.le_of_ble_eq_true rfl) (Nat.le_of_ble_eq_true rfl) ?_
    intro T158 S158
    show Go p e below _ (T158.setTop (mkF m 30 #[.val (.ref a), .val (.ref b), .val (.int (2 : Int32))] [(.int b0_), (.int a0_)]))
    refine g_icmp S158 (hb hby dSM_30) (by decide) (pcT := 35) (by decide) (fun q => ?_) (fun q => ?_)
    · have hc30_159 : a0_ = b0_ := icT_eq q
      show Go p e below _ (T158.setTop (mkF m 35 #[.val (.ref a), .val (.ref b), .val (.int (2 : Int32))] []))
      refine s_iloadN S158 (hb hby dSM_35) rfl (pc' := 36) rfl ?_
      refine s_iconst S158 (hb hby dSM_36) (v := (2 : Int32)) rfl (pc' := 37) rfl ?_
      refine s_icmpN S158 (hb hby dSM_37) (by decide) (pc' := 40) rfl ?_
      refine s_aloadN S158 (hb hby dSM_40) rfl rfl (pc' := 41) rfl ?_
      refine s_iconst S158 (hb hby dSM_41) (v := (1 : Int32)) rfl (pc' := 42) rfl ?_
      show Go p e below _ (T158.setTop (mkF m 42 #[.val (.ref a), .val (.ref b), .val (.int (2 : Int32))] [(.int (1 : Int32)), (.ref a)]))
      refine g_strChar S158 X (i := 1) FA lA (Nat.le_of_ble_eq_true rfl) rfl (w74 hw) (hb hby dSM_42) (by rw [hml]; rfl) (Nat.le_of_ble_eq_true rfl) (Nat.le_of_ble_eq_true rfl) (Nat.le_of_ble_eq_true rfl) (Nat.le_of_ble_eq_true rfl) ?_
      intro T160 S160
      show Go p e below _ (T160.setTop (mkF m 45 #[.val (.ref a), .val (.ref b), .val (.int (2 : Int32))] [(.int a1_)]))
      refine s_aloadN S160 (hb hby dSM_45) rfl rfl (pc' := 46) rfl ?_
      refine s_iconst S160 (hb hby dSM_46) (v := (1 : Int32)) rfl (pc' := 47) rfl ?_
      show Go p e below _ (T160.setTop (mkF m 47 #[.val (.ref a), .val (.ref b), .val (.int (2 : Int32))] [(.int (1 : Int32)), (.ref b), (.int a1_)]))
      refine g_strChar S160 X (i := 1) FB lB (Nat.le_of_ble_eq_true rfl) rfl (w74 hw) (hb hby dSM_47) (by rw [hml]; rfl) (Nat.le_of_ble_eq_true rfl) (Nat.le_of_ble_eq_true rfl) (Nat.le_of_ble_eq_true rfl) (Nat.le_of_ble_eq_true rfl) ?_
      intro T161 S161
      show Go p e below _ (T161.setTop (mkF m 50 #[.val (.ref a), .val (.ref b), .val (.int (2 : Int32))] [(.int b1_), (.int a1_)]))
      refine g_icmp S161 (hb hby dSM_50) (by decide) (pcT := 55) (by decide) (fun q => ?_) (fun q => ?_)
      · have hc50_162 : a1_ = b1_ := icT_eq q
        show Go p e below _ (T161.setTop (mkF m 55 #[.val (.ref a), .val (.ref b), .val (.int (2 : Int32))] []))
        refine s_iloadN S161 (hb hby dSM_55) rfl (pc' := 56) rfl ?_
        refine s_iconst S161 (hb hby dSM_56) (v := (3 : Int32)) rfl (pc' := 57) rfl ?_
        refine s_icmpY S161 (hb hby dSM_57) (by decide) (by decide) (pcT := 75) (by decide) ?_
        refine s_iconst S161 (hb hby dSM_75) (v := (1 : Int32)) rfl (pc' := 76) rfl ?_
        show Go p e below _ (T161.setTop (mkF m 76 #[.val (.ref a), .val (.ref b), .val (.int (2 : Int32))] [(.int (1 : Int32))]))
        exact g_iretN S161 (hb hby dSM_76) hret (by simp) ⟨_, rfl, Or.inl ⟨rfl, by simp [hc30_159, hc50_162]⟩, rfl⟩
      · have hc50_162 : ¬ a1_ = b1_ := icF_eq q
        show Go p e below _ (T161.setTop (mkF m 53 #[.val (.ref a), .val (.ref b), .val (.int (2 : Int32))] []))
        refine s_iconst S161 (hb hby dSM_53) (v := (0 : Int32)) rfl (pc' := 54) rfl ?_
        show Go p e below _ (T161.setTop (mkF m 54 #[.val (.ref a), .val (.ref b), .val (.int (2 : Int32))] [(.int (0 : Int32))]))
        exact g_iretN S161 (hb hby dSM_54) hret (by simp) ⟨_, rfl, Or.inr ⟨rfl, by simp [hc30_159, hc50_162]⟩, rfl⟩
    · have hc30_159 : ¬ a0_ = b0_ := icF_eq q
      show Go p e below _ (T158.setTop (mkF m 33 #[.val (.ref a), .val (.ref b), .val (.int (2 : Int32))] []))
      refine s_iconst S158 (hb hby dSM_33) (v := (0 : Int32)) rfl (pc' := 34) rfl ?_
      show Go p e below _ (T158.setTop (mkF m 34 #[.val (.ref a), .val (.ref b), .val (.int (2 : Int32))] [(.int (0 : Int32))]))
      exact g_iretN S158 (hb hby dSM_34) hret (by simp) ⟨_, rfl, Or.inr ⟨rfl, by simp [hc30_159]⟩, rfl⟩
  · skip
    show Go p e below _ (T0.setTop (mkF m 0 #[.val (.ref a), .val (.ref b), .unset] []))
    refine s_aloadN S0 (hb hby dSM_0) rfl rfl (pc' := 1) rfl ?_
    show Go p e below _ (T0.setTop (mkF m 1 #[.val (.ref a), .val (.ref b), .unset] [(.ref a)]))
    refine g_strLen S0 X FA (w64 hw) (hb hby dSM_1) (by rw [hml]; rfl) (Nat.le_of_ble_eq_true rfl) (Nat.le_of_ble_eq_true rfl) (Nat.le_of_ble_eq_true rfl) (Nat.le_of_ble_eq_true rfl) ?_
    intro T163 S163
    show Go p e below _ (T163.setTop (mkF m 4 #[.val (.ref a), .val (.ref b), .unset] [(.int (2 : Int32))]))
    refine s_istoreN S163 (hb hby dSM_4) (L' := #[.val (.ref a), .val (.ref b), .val (.int (2 : Int32))]) rfl (pc' := 5) rfl ?_
    refine s_iloadN S163 (hb hby dSM_5) rfl (pc' := 6) rfl ?_
    refine s_aloadN S163 (hb hby dSM_6) rfl rfl (pc' := 7) rfl ?_
    show Go p e below _ (T163.setTop (mkF m 7 #[.val (.ref a), .val (.ref b), .val (.int (2 : Int32))] [(.ref b), (.int (2 : Int32))]))
    refine g_strLen S163 X FB (w64 hw) (hb hby dSM_7) (by rw [hml]; rfl) (Nat.le_of_ble_eq_true rfl) (Nat.le_of_ble_eq_true rfl) (Nat.le_of_ble_eq_true rfl) (Nat.le_of_ble_eq_true rfl) ?_
    intro T164 S164
    show Go p e below _ (T164.setTop (mkF m 10 #[.val (.ref a), .val (.ref b), .val (.int (2 : Int32))] [(.int (3 : Int32)), (.int (2 : Int32))]))
    refine s_icmpN S164 (hb hby dSM_10) (by decide) (pc' := 13) rfl ?_
    refine s_iconst S164 (hb hby dSM_13) (v := (0 : Int32)) rfl (pc' := 14) rfl ?_
    show Go p e below _ (T164.setTop (mkF m 14 #[.val (.ref a), .val (.ref b), .val (.int (2 : Int32))] [(.int (0 : Int32))]))
    exact g_iretN S164 (hb hby dSM_14) hret (by simp) ⟨_, rfl, Or.inr ⟨rfl, by simp⟩, rfl⟩
  · skip
    show Go p e below _ (T0.setTop (mkF m 0 #[.val (.ref a), .val (.ref b), .unset] []))
    refine s_aloadN S0 (hb hby dSM_0) rfl rfl (pc' := 1) rfl ?_
    show Go p e below _ (T0.setTop (mkF m 1 #[.val (.ref a), .val (.ref b), .unset] [(.ref a)]))
    refine g_strLen S0 X FA (w64 hw) (hb hby dSM_1) (by rw [hml]; rfl) (Nat.le_of_ble_eq_true rfl) (Nat.le_of_ble_eq_true rfl) (Nat.le_of_ble_eq_true rfl) (Nat.le_of_ble_eq_true rfl) ?_
    intro T165 S165
    show Go p e below _ (T165.setTop (mkF m 4 #[.val (.ref a), .val (.ref b), .unset] [(.int (3 : Int32))]))
    refine s_istoreN S165 (hb hby dSM_4) (L' := #[.val (.ref a), .val (.ref b), .val (.int (3 : Int32))]) rfl (pc' := 5) rfl ?_
    refine s_iloadN S165 (hb hby dSM_5) rfl (pc' := 6) rfl ?_
    refine s_aloadN S165 (hb hby dSM_6) rfl rfl (pc' := 7) rfl ?_
    show Go p e below _ (T165.setTop (mkF m 7 #[.val (.ref a), .val (.ref b), .val (.int (3 : Int32))] [(.ref b), (.int (3 : Int32))]))
    refine g_strLen S165 X FB (w64 hw) (hb hby dSM_7) (by rw [hml]; rfl) (Nat.le_of_ble_eq_true rfl) (Nat.le_of_ble_eq_true rfl) (Nat.le_of_ble_eq_true rfl) (Nat.le_of_ble_eq_true rfl) ?_
    intro T166 S166
    show Go p e below _ (T166.setTop (mkF m 10 #[.val (.ref a), .val (.ref b), .val (.int (3 : Int32))] [(.int (0 : Int32)), (.int (3 : Int32))]))
    refine s_icmpN S166 (hb hby dSM_10) (by decide) (pc' := 13) rfl ?_
    refine s_iconst S166 (hb hby dSM_13) (v := (0 : Int32)) rfl (pc' := 14) rfl ?_
    show Go p e below _ (T166.setTop (mkF m 14 #[.val (.ref a), .val (.ref b), .val (.int (3 : Int32))] [(.int (0 : Int32))]))
    exact g_iretN S166 (hb hby dSM_14) hret (by simp) ⟨_, rfl, Or.inr ⟨rfl, by simp⟩, rfl⟩
  · skip
    show Go p e below _ (T0.setTop (mkF m 0 #[.val (.ref a), .val (.ref b), .unset] []))
    refine s_aloadN S0 (hb hby dSM_0) rfl rfl (pc' := 1) rfl ?_
    show Go p e below _ (T0.setTop (mkF m 1 #[.val (.ref a), .val (.ref b), .unset] [(.ref a)]))
    refine g_strLen S0 X FA (w64 hw) (hb hby dSM_1) (by rw [hml]; rfl) (Nat.le_of_ble_eq_true rfl) (Nat.le_of_ble_eq_true rfl) (Nat.le_of_ble_eq_true rfl) (Nat.le_of_ble_eq_true rfl) ?_
    intro T167 S167
    show Go p e below _ (T167.setTop (mkF m 4 #[.val (.ref a), .val (.ref b), .unset] [(.int (3 : Int32))]))
    refine s_istoreN S167 (hb hby dSM_4) (L' := #[.val (.ref a), .val (.ref b), .val (.int (3 : Int32))]) rfl (pc' := 5) rfl ?_
    refine s_iloadN S167 (hb hby dSM_5) rfl (pc' := 6) rfl ?_
    refine s_aloadN S167 (hb hby dSM_6) rfl rfl (pc' := 7) rfl ?_
    show Go p e below _ (T167.setTop (mkF m 7 #[.val (.ref a), .val (.ref b), .val (.int (3 : Int32))] [(.ref b), (.int (3 : Int32))]))
    refine g_strLen S167 X FB (w64 hw) (hb hby dSM_7) (by rw [hml]; rfl) (Nat.le_of_ble_eq_true rfl) (Nat.le_of_ble_eq_true rfl) (Nat.le_of_ble_eq_true rfl) (Nat.le_of_ble_eq_true rfl) ?_
    intro T168 S168
    show Go p e below _ (T168.setTop (mkF m 10 #[.val (.ref a), .val (.ref b), .val (.int (3 : Int32))] [(.int (1 : Int32)), (.int (3 : Int32))]))
    refine s_icmpN S168 (hb hby dSM_10) (by decide) (pc' := 13) rfl ?_
    refine s_iconst S168 (hb hby dSM_13) (v := (0 : Int32)) rfl (pc' := 14) rfl ?_
    show Go p e below _ (T168.setTop (mkF m 14 #[.val (.ref a), .val (.ref b), .val (.int (3 : Int32))] [(.int (0 : Int32))]))
    exact g_iretN S168 (hb hby dSM_14) hret (by simp) ⟨_, rfl, Or.inr ⟨rfl, by simp⟩, rfl⟩
  · skip
    show Go p e below _ (T0.setTop (mkF m 0 #[.val (.ref a), .val (.ref b), .unset] []))
    refine s_aloadN S0 (hb hby dSM_0) rfl rfl (pc' := 1) rfl ?_
    show Go p e below _ (T0.setTop (mkF m 1 #[.val (.ref a), .val (.ref b), .unset] [(.ref a)]))
    refine g_strLen S0 X FA (w64 hw) (hb hby dSM_1) (by rw [hml]; rfl) (Nat.le_of_ble_eq_true rfl) (Nat.le_of_ble_eq_true rfl) (Nat.le_of_ble_eq_true rfl) (Nat.le_of_ble_eq_true rfl) ?_
    intro T169 S169
    show Go p e below _ (T169.setTop (mkF m 4 #[.val (.ref a), .val (.ref b), .unset] [(.int (3 : Int32))]))
    refine s_istoreN S169 (hb hby dSM_4) (L' := #[.val (.ref a), .val (.ref b), .val (.int (3 : Int32))]) rfl (pc' := 5) rfl ?_
    refine s_iloadN S169 (hb hby dSM_5) rfl (pc' := 6) rfl ?_
    refine s_aloadN S169 (hb hby dSM_6) rfl rfl (pc' := 7) rfl ?_
    show Go p e below _ (T169.setTop (mkF m 7 #[.val (.ref a), .val (.ref b), .val (.int (3 : Int32))] [(.ref b), (.int (3 : Int32))]))
    refine g_strLen S169 X FB (w64 hw) (hb hby dSM_7) (by rw [hml]; rfl) (Nat.le_of_ble_eq_true rfl) (Nat.le_of_ble_eq_true rfl) (Nat.le_of_ble_eq_true rfl) (Nat.le_of_ble_eq_true rfl) ?_
    intro T170 S170
    show Go p e below _ (T170.setTop (mkF m 10 #[.val (.ref a), .val (.ref b), .val (.int (3 : Int32))] [(.int (2 : Int32)), (.int (3 : Int32))]))
    refine s_icmpN S170 (hb hby dSM_10) (by decide) (pc' := 13) rfl ?_
    refine s_iconst S170 (hb hby dSM_13) (v := (0 : Int32)) rfl (pc' := 14) rfl ?_
    show Go p e below _ (T170.setTop (mkF m 14 #[.val (.ref a), .val (.ref b), .val (.int (3 : Int32))] [(.int (0 : Int32))]))
    exact g_iretN S170 (hb hby dSM_14) hret (by simp) ⟨_, rfl, Or.inr ⟨rfl, by simp⟩, rfl⟩
  · skip
    show Go p e below _ (T0.setTop (mkF m 0 #[.val (.ref a), .val (.ref b), .unset] []))
    refine s_aloadN S0 (hb hby dSM_0) rfl rfl (pc' := 1) rfl ?_
    show Go p e below _ (T0.setTop (mkF m 1 #[.val (.ref a), .val (.ref b), .unset] [(.ref a)]))
    refine g_strLen S0 X FA (w64 hw) (hb hby dSM_1) (by rw [hml]; rfl) (Nat.le_of_ble_eq_true rfl) (Nat.le_of_ble_eq_true rfl) (Nat.le_of_ble_eq_true rfl) (Nat.le_of_ble_eq_true rfl) ?_
    intro T171 S171
    show Go p e below _ (T171.setTop (mkF m 4 #[.val (.ref a), .val (.ref b), .unset] [(.int (3 : Int32))]))
    refine s_istoreN S171 (hb hby dSM_4) (L' := #[.val (.ref a), .val (.ref b), .val (.int (3 : Int32))]) rfl (pc' := 5) rfl ?_
    refine s_iloadN S171 (hb hby dSM_5) rfl (pc' := 6) rfl ?_
    refine s_aloadN S171 (hb hby dSM_6) rfl rfl (pc' := 7) rfl ?_
    show Go p e below _ (T171.setTop (mkF m 7 #[.val (.ref a), .val (.ref b), .val (.int (3 : Int32))] [(.ref b), (.int (3 : Int32))]))
    refine g_strLen S171 X FB (w64 hw) (hb hby dSM_7) (by rw [hml]; rfl) (Nat.le_of_ble_eq_true rfl) (Nat.le_of_ble_eq_true rfl) (Nat.le_of_ble_eq_true rfl) (Nat.le_of_ble_eq_true rfl) ?_
    intro T172 S172
    show Go p e below _ (T172.setTop (mkF m 10 #[.val (.ref a), .val (.ref b), .val (.int (3 : Int32))] [(.int (3 : Int32)), (.int (3 : Int32))]))
    refine s_icmpY S172 (hb hby dSM_10) (by decide) (by decide) (pcT := 15) (by decide) ?_
    refine s_iloadN S172 (hb hby dSM_15) rfl (pc' := 16) rfl ?_
    refine s_iconst S172 (hb hby dSM_16) (v := (1 : Int32)) rfl (pc' := 17) rfl ?_
    refine s_icmpN S172 (hb hby dSM_17) (by decide) (pc' := 20) rfl ?_
    refine s_aloadN S172 (hb hby dSM_20) rfl rfl (pc' := 21) rfl ?_
    refine s_iconst S172 (hb hby dSM_21) (v := (0 : Int32)) rfl (pc' := 22) rfl ?_
    show Go p e below _ (T172.setTop (mkF m 22 #[.val (.ref a), .val (.ref b), .val (.int (3 : Int32))] [(.int (0 : Int32)), (.ref a)]))
    refine g_strChar S172 X (i := 0) FA lA (Nat.le_of_ble_eq_true rfl) rfl (w74 hw) (hb hby dSM_22) (by rw [hml]; rfl) (Nat.le_of_ble_eq_true rfl) (Nat.le_of_ble_eq_true rfl) (Nat.le_of_ble_eq_true rfl) (Nat.le_of_ble_eq_true rfl) ?_
    intro T173 S173
    show Go p e below _ (T173.setTop (mkF m 25 #[.val (.ref a), .val (.ref b), .val (.int (3 : Int32))] [(.int a0_)]))
    refine s_aloadN S173 (hb hby dSM_25) rfl rfl (pc' := 26) rfl ?_
    refine s_iconst S173 (hb hby dSM_26) (v := (0 : Int32)) rfl (pc' := 27) rfl ?_
    show Go p e below _ (T173.setTop (mkF m 27 #[.val (.ref a), .val (.ref b), .val (.int (3 : Int32))] [(.int (0 : Int32)), (.ref b), (.int a0_)]))
    refine g_strChar S173 X (i := 0) FB lB (Nat.le_of_ble_eq_true rfl) rfl (w74 hw) (hb hby dSM_27) (by rw [hml]; rfl) (Nat.le_of_ble_eq_true rfl) (Nat.le_of_ble_eq_true rfl) (Nat.le_of_ble_eq_true rfl) (Nat.le_of_ble_eq_true rfl) ?_
    intro T174 S174
    show Go p e below _ (T174.setTop (mkF m 30 #[.val (.ref a), .val (.ref b), .val (.int (3 : Int32))] [(.int b0_), (.int a0_)]))
    refine g_icmp S174 (hb hby dSM_30) (by decide) (pcT := 35) (by decide) (fun q => ?_) (fun q => ?_)
    · have hc30_175 : a0_ = b0_ := icT_eq q
      show Go p e below _ (T174.setTop (mkF m 35 #[.val (.ref a), .val (.ref b), .val (.int (3 : Int32))] []))
      refine s_iloadN S174 (hb hby dSM_35) rfl (pc' := 36) rfl ?_
      refine s_iconst S174 (hb hby dSM_36) (v := (2 : Int32)) rfl (pc' := 37) rfl ?_
      refine s_icmpN S174 (hb hby dSM_37) (by decide) (pc' := 40) rfl ?_
      refine s_aloadN S174 (hb hby dSM_40) rfl rfl (pc' := 41) rfl ?_
      refine s_iconst S174 (hb hby dSM_41) (v := (1 : Int32)) rfl (pc' := 42) rfl ?_
      show Go p e below _ (T174.setTop (mkF m 42 #[.val (.ref a), .val (.ref b), .val (.int (3 : Int32))] [(.int (1 : Int32)), (.ref a)]))
      refine g_strChar S174 X (i := 1) FA lA (Nat.le_of_ble_eq_true rfl) rfl (w74 hw) (hb hby dSM_42) (by rw [hml]; rfl) (Nat.le_of_ble_eq_true rfl) (Nat.le_of_ble_eq_true rfl) (Nat.le_of_ble_eq_true rfl) (Nat.le_of_ble_eq_true rfl) ?_
      intro T176 S176
      show Go p e below _ (T176.setTop (mkF m 45 #[.val (.ref a), .val (.ref b), .val (.int (3 : Int32))] [(.int a1_)]))
      refine s_aloadN S176 (hb hby dSM_45) rfl rfl (pc' := 46) rfl ?_
      refine s_iconst S176 (hb hby dSM_46) (v := (1 : Int32)) rfl (pc' := 47) rfl ?_
      show Go p e below _ (T176.setTop (mkF m 47 #[.val (.ref a), .val (.ref b), .val (.int (3 : Int32))] [(.int (1 : Int32)), (.ref b), (.int a1_)]))
      refine g_strChar S176 X (i := 1) FB lB (Nat.le_of_ble_eq_true rfl) rfl (w74 hw) (hb hby dSM_47) (by rw [hml]; rfl) (Nat.le_of_ble_eq_true rfl) (Nat.le_of_ble_eq_true rfl) (Nat.le_of_ble_eq_true rfl) (Nat.le_of_ble_eq_true rfl) ?_
      intro T177 S177
      show Go p e below _ (T177.setTop (mkF m 50 #[.val (.ref a), .val (.ref b), .val (.int (3 : Int32))] [(.int b1_), (.int a1_)]))
      refine g_icmp S177 (hb hby dSM_50) (by decide) (pcT := 55) (by decide) (fun q => ?_) (fun q => ?_)
      · have hc50_178 : a1_ = b1_ := icT_eq q
        show Go p e below _ (T177.setTop (mkF m 55 #[.val (.ref a), .val (.ref b), .val (.int (3 : Int32))] []))
        refine s_iloadN S177 (hb hby dSM_55) rfl (pc' := 56) rfl ?_
        refine s_iconst S177 (hb hby dSM_56) (v := (3 : Int32)) rfl (pc' := 57) rfl ?_
        refine s_icmpN S177 (hb hby dSM_57) (by decide) (pc' := 60) rfl ?_
        refine s_aloadN S177 (hb hby dSM_60) rfl rfl (pc' := 61) rfl ?_
        refine s_iconst S177 (hb hby dSM_61) (v := (2 : Int32)) rfl (pc' := 62) rfl ?_
        show Go p e below _ (T177.setTop (mkF m 62 #[.val (.ref a), .val (.ref b), .val (.int (3 : Int32))] [(.int (2 : Int32)), (.ref a)]))
        refine g_strChar S177 X (i := 2) FA lA (Nat.le_of_ble_eq_true rfl) rfl (w74 hw) (hb hby dSM_62) (by rw [hml]; rfl) (Nat.le_of_ble_eq_true rfl) (Nat.le_of_ble_eq_true rfl) (Nat.le_of_ble_eq_true rfl) (Nat.le_of_ble_eq_true rfl) ?_
        intro T179 S179
        show Go p e below _ (T179.setTop (mkF m 65 #[.val (.ref a), .val (.ref b), .val (.int (3 : Int32))] [(.int a2_)]))
        refine s_aloadN S179 (hb hby dSM_65) rfl rfl (pc' := 66) rfl ?_
        refine s_iconst S179 (hb hby dSM_66) (v := (2 : Int32)) rfl (pc' := 67) rfl ?_
        show Go p e below _ (T179.setTop (mkF m 67 #[.val (.ref a), .val (.ref b), .val (.int (3 : Int32))] [(.int (2 : Int32)), (.ref b), (.int a2_)]))
        refine g_strChar S179 X (i := 2) FB lB (Nat.le_of_ble_eq_true rfl) rfl (w74 hw) (hb hby dSM_67) (by rw [hml]; rfl) (Nat.le_of_ble_eq_true rfl) (Nat.le_of_ble_eq_true rfl) (Nat.le_of_ble_eq_true rfl) (Nat.le_of_ble_eq_true rfl) ?_
        intro T180 S180
        show Go p e below _ (T180.setTop (mkF m 70 #[.val (.ref a), .val (.ref b), .val (.int (3 : Int32))] [(.int b2_), (.int a2_)]))
        refine g_icmp S180 (hb hby dSM_70) (by decide) (pcT := 75) (by decide) (fun q => ?_) (fun q => ?_)
        · have hc70_181 : a2_ = b2_ := icT_eq q
          show Go p e below _ (T180.setTop (mkF m 75 #[.val (.ref a), .val (.ref b), .val (.int (3 : Int32))] []))
          refine s_iconst S180 (hb hby dSM_75) (v := (1 : Int32)) rfl (pc' := 76) rfl ?_
          show Go p e below _ (T180.setTop (mkF m 76 #[.val (.ref a), .val (.ref b), .val (.int (3 : Int32))] [(.int (1 : Int32))]))
          exact g_iretN S180 (hb hby dSM_76) hret (by simp) ⟨_, rfl, Or.inl ⟨rfl, by simp [hc30_175, hc50_178, hc70_181]⟩, rfl⟩
        · have hc70_181 : ¬ a2_ = b2_ := icF_eq q
          show Go p e below _ (T180.setTop (mkF m 73 #[.val (.ref a), .val (.ref b), .val (.int (3 : Int32))] []))
          refine s_iconst S180 (hb hby dSM_73) (v := (0 : Int32)) rfl (pc' := 74) rfl ?_
          show Go p e below _ (T180.setTop (mkF m 74 #[.val (.ref a), .val (.ref b), .val (.int (3 : Int32))] [(.int (0 : Int32))]))
          exact g_iretN S180 (hb hby dSM_74) hret (by simp) ⟨_, rfl, Or.inr ⟨rfl, by simp [hc30_175, hc50_178, hc70_181]⟩, rfl⟩
      · have hc50_178 : ¬ a1_ = b1_ := icF_eq q
        show Go p e below _ (T177.setTop (mkF m 53 #[.val (.ref a), .val (.ref b), .val (.int (3 : Int32))] []))
        refine s_iconst S177 (hb hby dSM_53) (v := (0 : Int32)) rfl (pc' := 54) rfl ?_
        show Go p e below _ (T177.setTop (mkF m 54 #[.val (.ref a), .val (.ref b), .val (.int (3 : Int32))] [(.int (0 : Int32))]))
        exact g_iretN S177 (hb hby dSM_54) hret (by simp) ⟨_, rfl, Or.inr ⟨rfl, by simp [hc30_175, hc50_178]⟩, rfl⟩
    · have hc30_175 : ¬ a0_ = b0_ := icF_eq q
      show Go p e below _ (T174.setTop (mkF m 33 #[.val (.ref a), .val (.ref b), .val (.int (3 : Int32))] []))
      refine s_iconst S174 (hb hby dSM_33) (v := (0 : Int32)) rfl (pc' := 34) rfl ?_
      show Go p e below _ (T174.setTop (mkF m 34 #[.val (.ref a), .val (.ref b), .val (.int (3 : Int32))] [(.int (0 : Int32))]))
      exact g_iretN S174 (hb hby dSM_34) hret (by simp) ⟨_, rfl, Or.inr ⟨rfl, by simp [hc30_175]⟩, rfl⟩
theorem dEQ_0 : decode prog_1_method_5_code 0 = .ok (.aload_n 1, 1) := by decide +kernel
theorem dEQ_1 : decode prog_1_method_5_code 1 = .ok (.instanceof 18, 3) := by decide +kernel
theorem dEQ_4 : decode prog_1_method_5_code 4 = .ok (.ifCond .eq 11, 3) := by decide +kernel
theorem dEQ_7 : decode prog_1_method_5_code 7 = .ok (.aload_n 1, 1) := by decide +kernel
theorem dEQ_8 : decode prog_1_method_5_code 8 = .ok (.checkcast 18, 3) := by decide +kernel
theorem dEQ_11 : decode prog_1_method_5_code 11 = .ok (.astore_n 2, 1) := by decide +kernel
theorem dEQ_12 : decode prog_1_method_5_code 12 = .ok (.goto 5, 3) := by decide +kernel
theorem dEQ_17 : decode prog_1_method_5_code 17 = .ok (.aload_n 0, 1) := by decide +kernel
theorem dEQ_18 : decode prog_1_method_5_code 18 = .ok (.getfield 17, 3) := by decide +kernel
theorem dEQ_21 : decode prog_1_method_5_code 21 = .ok (.aload_n 2, 1) := by decide +kernel
theorem dEQ_22 : decode prog_1_method_5_code 22 = .ok (.getfield 17, 3) := by decide +kernel
theorem dEQ_25 : decode prog_1_method_5_code 25 = .ok (.invokevirtual 30, 3) := by decide +kernel
theorem dEQ_28 : decode prog_1_method_5_code 28 = .ok (.ifCond .eq 35, 3) := by decide +kernel
theorem dEQ_31 : decode prog_1_method_5_code 31 = .ok (.aload_n 0, 1) := by decide +kernel
theorem dEQ_32 : decode prog_1_method_5_code 32 = .ok (.getfield 24, 3) := by decide +kernel
theorem dEQ_35 : decode prog_1_method_5_code 35 = .ok (.aload_n 2, 1) := by decide +kernel
theorem dEQ_36 : decode prog_1_method_5_code 36 = .ok (.getfield 24, 3) := by decide +kernel
theorem dEQ_39 : decode prog_1_method_5_code 39 = .ok (.invokevirtual 30, 3) := by decide +kernel
theorem dEQ_42 : decode prog_1_method_5_code 42 = .ok (.ifCond .eq 21, 3) := by decide +kernel
theorem dEQ_45 : decode prog_1_method_5_code 45 = .ok (.aload_n 0, 1) := by decide +kernel
theorem dEQ_46 : decode prog_1_method_5_code 46 = .ok (.getfield 28, 3) := by decide +kernel
theorem dEQ_49 : decode prog_1_method_5_code 49 = .ok (.aload_n 2, 1) := by decide +kernel
theorem dEQ_50 : decode prog_1_method_5_code 50 = .ok (.getfield 28, 3) := by decide +kernel
theorem dEQ_53 : decode prog_1_method_5_code 53 = .ok (.invokevirtual 30, 3) := by decide +kernel
theorem dEQ_56 : decode prog_1_method_5_code 56 = .ok (.ifCond .eq 7, 3) := by decide +kernel
theorem dEQ_59 : decode prog_1_method_5_code 59 = .ok (.iconst 1, 1) := by decide +kernel
theorem dEQ_60 : decode prog_1_method_5_code 60 = .ok (.goto 4, 3) := by decide +kernel
theorem dEQ_63 : decode prog_1_method_5_code 63 = .ok (.iconst 0, 1) := by decide +kernel
theorem dEQ_64 : decode prog_1_method_5_code 64 = .ok (.ireturn, 1) := by decide +kernel
set_option maxRecDepth 65536 in
set_option maxHeartbeats 40000000 in
theorem rmEQ {l : Launch} {Z : State} {a0 : Array Value} {n0 : Nat} (X : Ctx Z a0) {x sk so sb : Addr} {ck co cb : List Int32} {y tk to tb : Addr} {dk do_ db : List Int32} {h : Heap} (hO : Old Z n0 h) (Ex : Exa Z h x "com/example/wachter/wachter/decision/Access") (Fk : Fld Z h x "com/example/wachter/wachter/decision/Access" "kind" "Ljava/lang/String;" (.ref sk)) (Fo : Fld Z h x "com/example/wachter/wachter/decision/Access" "operation" "Ljava/lang/String;" (.ref so)) (Fb : Fld Z h x "com/example/wachter/wachter/decision/Access" "object" "Ljava/lang/String;" (.ref sb)) (Gk : StrF Z h sk ck) (Go_ : StrF Z h so co) (Gb : StrF Z h sb cb) (Ey : Exa Z h y "com/example/wachter/wachter/decision/Access") (Hk : Fld Z h y "com/example/wachter/wachter/decision/Access" "kind" "Ljava/lang/String;" (.ref tk)) (Ho : Fld Z h y "com/example/wachter/wachter/decision/Access" "operation" "Ljava/lang/String;" (.ref to)) (Hb : Fld Z h y "com/example/wachter/wachter/decision/Access" "object" "Ljava/lang/String;" (.ref tb)) (Jk : StrF Z h tk dk) (Jo : StrF Z h to do_) (Jb : StrF Z h tb db) :
    Ctr l Z EL1 n0 (⟨"com/example/wachter/wachter/decision/Access", "equals", "(Ljava/lang/Object;)Z"⟩ : MethodName) prog_1_method_5_code 3 (some .boolean) ({ frames := 2, cells := 0, slots := 0, locals := 29 } : Room) #[(.ref x), (.ref y)] h [] (fun v h' => ∃ r : Int32, v = some (.int r) ∧ ((r = 1 ∧ ck = dk ∧ co = do_ ∧ cb = db) ∨ (r = 0 ∧ ¬ (ck = dk ∧ co = do_ ∧ cb = db))) ∧ h' = h) := by
  have hw := X.hw
  obtain ⟨z1, hz1, hz2⟩ := X.2.2.1
  refine Ctr.intro (a0 := a0) (plainFor_of_name pn4) hO X.ew ?_
  intro p e s m below meth c T0 V0 S0 hby hml hret hnm hsf
  rw [ef7]
  refine s_aloadN S0 (hb hby dEQ_0) rfl rfl (pc' := 1) rfl ?_
  show Go p e below _ (T0.setTop (mkF m 1 #[.val (.ref x), .val (.ref y), .unset] [(.ref y)]))
  refine g_inst S0 (w101 hw) (Ins.self Ey) (hb hby dEQ_1) ?_
  intro T182 ST182
  show Go p e below _ (T182.setTop (mkF m 4 #[.val (.ref x), .val (.ref y), .unset] [(.int (1 : Int32))]))
  refine s_ifN ST182 (hb hby dEQ_4) (by decide) (pc' := 7) rfl ?_
  refine s_aloadN ST182 (hb hby dEQ_7) rfl rfl (pc' := 8) rfl ?_
  show Go p e below _ (T182.setTop (mkF m 8 #[.val (.ref x), .val (.ref y), .unset] [(.ref y)]))
  refine g_cast ST182 (w101 hw) (Ins.self Ey) (hb hby dEQ_8) ?_
  intro T183 ST183
  show Go p e below _ (T183.setTop (mkF m 11 #[.val (.ref x), .val (.ref y), .unset] [(.ref y)]))
  refine s_astoreN ST183 (hb hby dEQ_11) rfl (L' := #[.val (.ref x), .val (.ref y), .val (.ref y)]) rfl (pc' := 12) rfl ?_
  refine s_goto ST183 (hb hby dEQ_12) (by decide) (pcT := 17) (by decide) ?_
  refine s_aloadN ST183 (hb hby dEQ_17) rfl rfl (pc' := 18) rfl ?_
  refine g_getF ST183 (w53 hw) Via.refl Fk (hb hby dEQ_18) ?_
  intro T184 ST184
  show Go p e below _ (T184.setTop (mkF m 21 #[.val (.ref x), .val (.ref y), .val (.ref y)] [(.ref sk)]))
  refine s_aloadN ST184 (hb hby dEQ_21) rfl rfl (pc' := 22) rfl ?_
  refine g_getF ST184 (w53 hw) Via.refl Hk (hb hby dEQ_22) ?_
  intro T185 ST185
  show Go p e below _ (T185.setTop (mkF m 25 #[.val (.ref x), .val (.ref y), .val (.ref y)] [(.ref tk), (.ref sk)]))
  show Go p e below _ (T185.setTop (mkF m 25 #[.val (.ref x), .val (.ref y), .val (.ref y)] [(.ref tk), (.ref sk)]))
  refine g_strEq ST185 X Gk Jk (w103 hw) (hb hby dEQ_25) (by rw [hml]; rfl) (Nat.le_of_ble_eq_true rfl) (Nat.le_of_ble_eq_true rfl) (Nat.le_of_ble_eq_true rfl) (Nat.le_of_ble_eq_true rfl) ?_
  intro T186 r186 S186 hr186
  rcases hr186 with ⟨rfl, hr186⟩ | ⟨rfl, hr186⟩
  · skip
    show Go p e below _ (T186.setTop (mkF m 28 #[.val (.ref x), .val (.ref y), .val (.ref y)] [(.int (1 : Int32))]))
    refine s_ifN S186 (hb hby dEQ_28) (by decide) (pc' := 31) rfl ?_
    refine s_aloadN S186 (hb hby dEQ_31) rfl rfl (pc' := 32) rfl ?_
    refine g_getF S186 (w56 hw) Via.refl Fo (hb hby dEQ_32) ?_
    intro T187 ST187
    show Go p e below _ (T187.setTop (mkF m 35 #[.val (.ref x), .val (.ref y), .val (.ref y)] [(.ref so)]))
    refine s_aloadN ST187 (hb hby dEQ_35) rfl rfl (pc' := 36) rfl ?_
    refine g_getF ST187 (w56 hw) Via.refl Ho (hb hby dEQ_36) ?_
    intro T188 ST188
    show Go p e below _ (T188.setTop (mkF m 39 #[.val (.ref x), .val (.ref y), .val (.ref y)] [(.ref to), (.ref so)]))
    show Go p e below _ (T188.setTop (mkF m 39 #[.val (.ref x), .val (.ref y), .val (.ref y)] [(.ref to), (.ref so)]))
    refine g_strEq ST188 X Go_ Jo (w103 hw) (hb hby dEQ_39) (by rw [hml]; rfl) (Nat.le_of_ble_eq_true rfl) (Nat.le_of_ble_eq_true rfl) (Nat.le_of_ble_eq_true rfl) (Nat.le_of_ble_eq_true rfl) ?_
    intro T189 r189 S189 hr189
    rcases hr189 with ⟨rfl, hr189⟩ | ⟨rfl, hr189⟩
    · skip
      show Go p e below _ (T189.setTop (mkF m 42 #[.val (.ref x), .val (.ref y), .val (.ref y)] [(.int (1 : Int32))]))
      refine s_ifN S189 (hb hby dEQ_42) (by decide) (pc' := 45) rfl ?_
      refine s_aloadN S189 (hb hby dEQ_45) rfl rfl (pc' := 46) rfl ?_
      refine g_getF S189 (w59 hw) Via.refl Fb (hb hby dEQ_46) ?_
      intro T190 ST190
      show Go p e below _ (T190.setTop (mkF m 49 #[.val (.ref x), .val (.ref y), .val (.ref y)] [(.ref sb)]))
      refine s_aloadN ST190 (hb hby dEQ_49) rfl rfl (pc' := 50) rfl ?_
      refine g_getF ST190 (w59 hw) Via.refl Hb (hb hby dEQ_50) ?_
      intro T191 ST191
      show Go p e below _ (T191.setTop (mkF m 53 #[.val (.ref x), .val (.ref y), .val (.ref y)] [(.ref tb), (.ref sb)]))
      show Go p e below _ (T191.setTop (mkF m 53 #[.val (.ref x), .val (.ref y), .val (.ref y)] [(.ref tb), (.ref sb)]))
      refine g_strEq ST191 X Gb Jb (w103 hw) (hb hby dEQ_53) (by rw [hml]; rfl) (Nat.le_of_ble_eq_true rfl) (Nat.le_of_ble_eq_true rfl) (Nat.le_of_ble_eq_true rfl) (Nat.le_of_ble_eq_true rfl) ?_
      intro T192 r192 S192 hr192
      rcases hr192 with ⟨rfl, hr192⟩ | ⟨rfl, hr192⟩
      · skip
        show Go p e below _ (T192.setTop (mkF m 56 #[.val (.ref x), .val (.ref y), .val (.ref y)] [(.int (1 : Int32))]))
        refine s_ifN S192 (hb hby dEQ_56) (by decide) (pc' := 59) rfl ?_
        refine s_iconst S192 (hb hby dEQ_59) (v := (1 : Int32)) rfl (pc' := 60) rfl ?_
        refine s_goto S192 (hb hby dEQ_60) (by decide) (pcT := 64) (by decide) ?_
        show Go p e below _ (T192.setTop (mkF m 64 #[.val (.ref x), .val (.ref y), .val (.ref y)] [(.int (1 : Int32))]))
        exact g_iretN S192 (hb hby dEQ_64) hret (by simp) ⟨_, rfl, Or.inl ⟨rfl, hr186, hr189, hr192⟩, rfl⟩
      · skip
        show Go p e below _ (T192.setTop (mkF m 56 #[.val (.ref x), .val (.ref y), .val (.ref y)] [(.int (0 : Int32))]))
        refine s_ifY S192 (hb hby dEQ_56) (by decide) (by decide) (pcT := 63) (by decide) ?_
        refine s_iconst S192 (hb hby dEQ_63) (v := (0 : Int32)) rfl (pc' := 64) rfl ?_
        show Go p e below _ (T192.setTop (mkF m 64 #[.val (.ref x), .val (.ref y), .val (.ref y)] [(.int (0 : Int32))]))
        exact g_iretN S192 (hb hby dEQ_64) hret (by simp) ⟨_, rfl, Or.inr ⟨rfl, fun q => hr192 q.2.2⟩, rfl⟩
    · skip
      show Go p e below _ (T189.setTop (mkF m 42 #[.val (.ref x), .val (.ref y), .val (.ref y)] [(.int (0 : Int32))]))
      refine s_ifY S189 (hb hby dEQ_42) (by decide) (by decide) (pcT := 63) (by decide) ?_
      refine s_iconst S189 (hb hby dEQ_63) (v := (0 : Int32)) rfl (pc' := 64) rfl ?_
      show Go p e below _ (T189.setTop (mkF m 64 #[.val (.ref x), .val (.ref y), .val (.ref y)] [(.int (0 : Int32))]))
      exact g_iretN S189 (hb hby dEQ_64) hret (by simp) ⟨_, rfl, Or.inr ⟨rfl, fun q => hr189 q.2.1⟩, rfl⟩
  · skip
    show Go p e below _ (T186.setTop (mkF m 28 #[.val (.ref x), .val (.ref y), .val (.ref y)] [(.int (0 : Int32))]))
    refine s_ifY S186 (hb hby dEQ_28) (by decide) (by decide) (pcT := 63) (by decide) ?_
    refine s_iconst S186 (hb hby dEQ_63) (v := (0 : Int32)) rfl (pc' := 64) rfl ?_
    show Go p e below _ (T186.setTop (mkF m 64 #[.val (.ref x), .val (.ref y), .val (.ref y)] [(.int (0 : Int32))]))
    exact g_iretN S186 (hb hby dEQ_64) hret (by simp) ⟨_, rfl, Or.inr ⟨rfl, fun q => hr186 q.1⟩, rfl⟩
theorem dEN_0 : decode prog_1_method_5_code 0 = .ok (.aload_n 1, 1) := by decide +kernel
theorem dEN_1 : decode prog_1_method_5_code 1 = .ok (.instanceof 18, 3) := by decide +kernel
theorem dEN_4 : decode prog_1_method_5_code 4 = .ok (.ifCond .eq 11, 3) := by decide +kernel
theorem dEN_15 : decode prog_1_method_5_code 15 = .ok (.iconst 0, 1) := by decide +kernel
theorem dEN_16 : decode prog_1_method_5_code 16 = .ok (.ireturn, 1) := by decide +kernel
set_option maxRecDepth 65536 in
set_option maxHeartbeats 40000000 in
theorem rmEN {l : Launch} {Z : State} {a0 : Array Value} {n0 : Nat} (X : Ctx Z a0) {x sk so sb : Addr} {ck co cb : List Int32} {h : Heap} (hO : Old Z n0 h) (Ex : Exa Z h x "com/example/wachter/wachter/decision/Access") (Fk : Fld Z h x "com/example/wachter/wachter/decision/Access" "kind" "Ljava/lang/String;" (.ref sk)) (Fo : Fld Z h x "com/example/wachter/wachter/decision/Access" "operation" "Ljava/lang/String;" (.ref so)) (Fb : Fld Z h x "com/example/wachter/wachter/decision/Access" "object" "Ljava/lang/String;" (.ref sb)) (Gk : StrF Z h sk ck) (Go_ : StrF Z h so co) (Gb : StrF Z h sb cb) :
    Ctr l Z EL1 n0 (⟨"com/example/wachter/wachter/decision/Access", "equals", "(Ljava/lang/Object;)Z"⟩ : MethodName) prog_1_method_5_code 3 (some .boolean) ({ frames := 2, cells := 0, slots := 0, locals := 29 } : Room) #[(.ref x), .null] h [] (fun v h' => v = some (.int 0) ∧ h' = h) := by
  have hw := X.hw
  obtain ⟨z1, hz1, hz2⟩ := X.2.2.1
  refine Ctr.intro (a0 := a0) (plainFor_of_name pn4) hO X.ew ?_
  intro p e s m below meth c T0 V0 S0 hby hml hret hnm hsf
  rw [ef8]
  refine s_aloadN S0 (hb hby dEN_0) rfl rfl (pc' := 1) rfl ?_
  show Go p e below _ (T0.setTop (mkF m 1 #[.val (.ref x), .val .null, .unset] [.null]))
  refine g_instNull S0 (hb hby dEN_1) ?_
  show Go p e below _ (T0.setTop (mkF m 4 #[.val (.ref x), .val .null, .unset] [(.int (0 : Int32))]))
  refine s_ifY S0 (hb hby dEN_4) (by decide) (by decide) (pcT := 15) (by decide) ?_
  refine s_iconst S0 (hb hby dEN_15) (v := (0 : Int32)) rfl (pc' := 16) rfl ?_
  show Go p e below _ (T0.setTop (mkF m 16 #[.val (.ref x), .val .null, .unset] [(.int (0 : Int32))]))
  exact g_iretN S0 (hb hby dEN_16) hret (by simp) ⟨rfl, rfl⟩
theorem dES_0 : decode prog_1_method_5_code 0 = .ok (.aload_n 1, 1) := by decide +kernel
theorem dES_1 : decode prog_1_method_5_code 1 = .ok (.instanceof 18, 3) := by decide +kernel
theorem dES_4 : decode prog_1_method_5_code 4 = .ok (.ifCond .eq 11, 3) := by decide +kernel
theorem dES_15 : decode prog_1_method_5_code 15 = .ok (.iconst 0, 1) := by decide +kernel
theorem dES_16 : decode prog_1_method_5_code 16 = .ok (.ireturn, 1) := by decide +kernel
set_option maxRecDepth 65536 in
set_option maxHeartbeats 40000000 in
theorem rmES {l : Launch} {Z : State} {a0 : Array Value} {n0 : Nat} (X : Ctx Z a0) {x sk so sb : Addr} {ck co cb : List Int32} {y : Addr} {ds : List Int32} {h : Heap} (hO : Old Z n0 h) (Ex : Exa Z h x "com/example/wachter/wachter/decision/Access") (Fk : Fld Z h x "com/example/wachter/wachter/decision/Access" "kind" "Ljava/lang/String;" (.ref sk)) (Fo : Fld Z h x "com/example/wachter/wachter/decision/Access" "operation" "Ljava/lang/String;" (.ref so)) (Fb : Fld Z h x "com/example/wachter/wachter/decision/Access" "object" "Ljava/lang/String;" (.ref sb)) (Gk : StrF Z h sk ck) (Go_ : StrF Z h so co) (Gb : StrF Z h sb cb) (G2 : StrF Z h y ds) :
    Ctr l Z EL1 n0 (⟨"com/example/wachter/wachter/decision/Access", "equals", "(Ljava/lang/Object;)Z"⟩ : MethodName) prog_1_method_5_code 3 (some .boolean) ({ frames := 2, cells := 0, slots := 0, locals := 29 } : Room) #[(.ref x), (.ref y)] h [] (fun v h' => v = some (.int 0) ∧ h' = h) := by
  have hw := X.hw
  obtain ⟨z1, hz1, hz2⟩ := X.2.2.1
  refine Ctr.intro (a0 := a0) (plainFor_of_name pn4) hO X.ew ?_
  intro p e s m below meth c T0 V0 S0 hby hml hret hnm hsf
  rw [ef7]
  refine s_aloadN S0 (hb hby dES_0) rfl rfl (pc' := 1) rfl ?_
  show Go p e below _ (T0.setTop (mkF m 1 #[.val (.ref x), .val (.ref y), .unset] [(.ref y)]))
  refine g_instN S0 (w101 hw) G2.exa (noSub1 (w112 hw) (w113 hw) (w41 hw) (by decide) (by decide)) (hb hby dES_1) ?_
  intro T194 ST194
  show Go p e below _ (T194.setTop (mkF m 4 #[.val (.ref x), .val (.ref y), .unset] [(.int (0 : Int32))]))
  refine s_ifY ST194 (hb hby dES_4) (by decide) (by decide) (pcT := 15) (by decide) ?_
  refine s_iconst ST194 (hb hby dES_15) (v := (0 : Int32)) rfl (pc' := 16) rfl ?_
  show Go p e below _ (T194.setTop (mkF m 16 #[.val (.ref x), .val (.ref y), .unset] [(.int (0 : Int32))]))
  exact g_iretN ST194 (hb hby dES_16) hret (by simp) ⟨rfl, rfl⟩
end Jvm.Pilot.@@N@@

namespace Jvm.Pilot.@@N@@
open Jvm Jvm.ClassFile Sem Op Lib Jvm.Free Jvm.Stand Jvm.LawKit Jvm.RoadKit Jvm.OwnKit Bundle Jvm.Pilot.@@N@@.Jvm.D
set_option maxRecDepth 65536 in
set_option maxHeartbeats 40000000 in
theorem rmL {l : Launch} {Z : State} {a0 : Array Value} {n0 : Nat} (X : Ctx Z a0) (k_ o_ b_ dk_ do_ db_ : Int32) {h : Heap} (hO : Old Z n0 h)  :
    Ctr l Z EL1 n0 x code maxLocals ret room_1 #[(.int k_), (.int o_), (.int b_), (.int dk_), (.int do_), (.int db_)] h [] (fun v h' => v = some (.int 1) ∧ True) := by
  have hw := X.hw
  obtain ⟨z1, hz1, hz2⟩ := X.2.2.1
  refine Ctr.intro (a0 := a0) (plainFor_of_name pn3) hO X.ew ?_
  intro p e s m below meth c T0 V0 S0 hby hml hret hnm hsf
  rw [ef9]
  refine s_iloadN S0 (hb hby at_0) rfl (pc' := 1) rfl ?_
  show Go p e below _ (T0.setTop (mkF m 1 #[.val (.int k_), .val (.int o_), .val (.int b_), .val (.int dk_), .val (.int do_), .val (.int db_), .unset, .unset, .unset, .unset, .unset, .unset, .unset, .unset, .unset, .unset] [(.int k_)]))
  refine g_static S0 (rmS X k_ S0.old) (fun _ q => nomatch q) (w0 hw) (w1 hw) (w2 hw) (w3 hw) (by decide) (hb hby at_1) (by rw [hml]; rfl) [(.int k_)] (lenOf pd6 rfl) rfl rfl (Nat.le_of_ble_eq_true rfl) (Nat.le_of_ble_eq_true rfl) (Nat.le_of_ble_eq_true rfl) (Nat.le_of_ble_eq_true rfl) ?_
  intro v196 T196 V196 h196 S196 C196 q196
  obtain ⟨a195, csa195, rfl, Fa195, la195, na195, Ea195⟩ := q196
  show Go p e below _ (T196.setTop (mkF m 4 #[.val (.int k_), .val (.int o_), .val (.int b_), .val (.int dk_), .val (.int do_), .val (.int db_), .unset, .unset, .unset, .unset, .unset, .unset, .unset, .unset, .unset, .unset] [(.ref a195)]))
  refine s_astore S196 (hb hby at_4) rfl (L' := #[.val (.int k_), .val (.int o_), .val (.int b_), .val (.int dk_), .val (.int do_), .val (.int db_), .val (.ref a195), .unset, .unset, .unset, .unset, .unset, .unset, .unset, .unset, .unset]) rfl (pc' := 6) rfl ?_
  refine s_iloadN S196 (hb hby at_6) rfl (pc' := 7) rfl ?_
  show Go p e below _ (T196.setTop (mkF m 7 #[.val (.int k_), .val (.int o_), .val (.int b_), .val (.int dk_), .val (.int do_), .val (.int db_), .val (.ref a195), .unset, .unset, .unset, .unset, .unset, .unset, .unset, .unset, .unset] [(.int o_)]))
  refine g_static S196 (rmS X o_ S196.old) (fun _ q => nomatch q) (w0 hw) (w1 hw) (w2 hw) (w3 hw) (by decide) (hb hby at_7) (by rw [hml]; rfl) [(.int o_)] (lenOf pd6 rfl) rfl rfl (Nat.le_of_ble_eq_true rfl) (Nat.le_of_ble_eq_true rfl) (Nat.le_of_ble_eq_true rfl) (Nat.le_of_ble_eq_true rfl) ?_
  intro v198 T198 V198 h198 S198 C198 q198
  obtain ⟨a197, csa197, rfl, Fa197, la197, na197, Ea197⟩ := q198
  show Go p e below _ (T198.setTop (mkF m 10 #[.val (.int k_), .val (.int o_), .val (.int b_), .val (.int dk_), .val (.int do_), .val (.int db_), .val (.ref a195), .unset, .unset, .unset, .unset, .unset, .unset, .unset, .unset, .unset] [(.ref a197)]))
  refine s_astore S198 (hb hby at_10) rfl (L' := #[.val (.int k_), .val (.int o_), .val (.int b_), .val (.int dk_), .val (.int do_), .val (.int db_), .val (.ref a195), .val (.ref a197), .unset, .unset, .unset, .unset, .unset, .unset, .unset, .unset]) rfl (pc' := 12) rfl ?_
  refine s_iloadN S198 (hb hby at_12) rfl (pc' := 13) rfl ?_
  show Go p e below _ (T198.setTop (mkF m 13 #[.val (.int k_), .val (.int o_), .val (.int b_), .val (.int dk_), .val (.int do_), .val (.int db_), .val (.ref a195), .val (.ref a197), .unset, .unset, .unset, .unset, .unset, .unset, .unset, .unset] [(.int b_)]))
  refine g_static S198 (rmS X b_ S198.old) (fun _ q => nomatch q) (w0 hw) (w1 hw) (w2 hw) (w3 hw) (by decide) (hb hby at_13) (by rw [hml]; rfl) [(.int b_)] (lenOf pd6 rfl) rfl rfl (Nat.le_of_ble_eq_true rfl) (Nat.le_of_ble_eq_true rfl) (Nat.le_of_ble_eq_true rfl) (Nat.le_of_ble_eq_true rfl) ?_
  intro v200 T200 V200 h200 S200 C200 q200
  obtain ⟨a199, csa199, rfl, Fa199, la199, na199, Ea199⟩ := q200
  show Go p e below _ (T200.setTop (mkF m 16 #[.val (.int k_), .val (.int o_), .val (.int b_), .val (.int dk_), .val (.int do_), .val (.int db_), .val (.ref a195), .val (.ref a197), .unset, .unset, .unset, .unset, .unset, .unset, .unset, .unset] [(.ref a199)]))
  refine s_astore S200 (hb hby at_16) rfl (L' := #[.val (.int k_), .val (.int o_), .val (.int b_), .val (.int dk_), .val (.int do_), .val (.int db_), .val (.ref a195), .val (.ref a197), .val (.ref a199), .unset, .unset, .unset, .unset, .unset, .unset, .unset]) rfl (pc' := 18) rfl ?_
  refine s_iloadN S200 (hb hby at_18) rfl (pc' := 19) rfl ?_
  refine s_iloadN S200 (hb hby at_19) rfl (pc' := 20) rfl ?_
  show Go p e below _ (T200.setTop (mkF m 20 #[.val (.int k_), .val (.int o_), .val (.int b_), .val (.int dk_), .val (.int do_), .val (.int db_), .val (.ref a195), .val (.ref a197), .val (.ref a199), .unset, .unset, .unset, .unset, .unset, .unset, .unset] [(.int dk_), (.int k_)]))
  refine g_static S200 (rmP X k_ dk_ S200.old) (fun _ q => nomatch q) (w37 hw) (w38 hw) (w2 hw) (w39 hw) (by decide) (hb hby at_20) (by rw [hml]; rfl) [(.int k_), (.int dk_)] (lenOf pd8 rfl) rfl rfl (Nat.le_of_ble_eq_true rfl) (Nat.le_of_ble_eq_true rfl) (Nat.le_of_ble_eq_true rfl) (Nat.le_of_ble_eq_true rfl) ?_
  intro v202 T202 V202 h202 S202 C202 q202
  obtain ⟨a201, csa201, rfl, Fa201, la201, na201, Ea201⟩ := q202
  show Go p e below _ (T202.setTop (mkF m 23 #[.val (.int k_), .val (.int o_), .val (.int b_), .val (.int dk_), .val (.int do_), .val (.int db_), .val (.ref a195), .val (.ref a197), .val (.ref a199), .unset, .unset, .unset, .unset, .unset, .unset, .unset] [(.ref a201)]))
  refine s_astore S202 (hb hby at_23) rfl (L' := #[.val (.int k_), .val (.int o_), .val (.int b_), .val (.int dk_), .val (.int do_), .val (.int db_), .val (.ref a195), .val (.ref a197), .val (.ref a199), .val (.ref a201), .unset, .unset, .unset, .unset, .unset, .unset]) rfl (pc' := 25) rfl ?_
  refine s_iloadN S202 (hb hby at_25) rfl (pc' := 26) rfl ?_
  refine s_iload S202 (hb hby at_26) rfl (pc' := 28) rfl ?_
  show Go p e below _ (T202.setTop (mkF m 28 #[.val (.int k_), .val (.int o_), .val (.int b_), .val (.int dk_), .val (.int do_), .val (.int db_), .val (.ref a195), .val (.ref a197), .val (.ref a199), .val (.ref a201), .unset, .unset, .unset, .unset, .unset, .unset] [(.int do_), (.int o_)]))
  refine g_static S202 (rmP X o_ do_ S202.old) (fun _ q => nomatch q) (w37 hw) (w38 hw) (w2 hw) (w39 hw) (by decide) (hb hby at_28) (by rw [hml]; rfl) [(.int o_), (.int do_)] (lenOf pd8 rfl) rfl rfl (Nat.le_of_ble_eq_true rfl) (Nat.le_of_ble_eq_true rfl) (Nat.le_of_ble_eq_true rfl) (Nat.le_of_ble_eq_true rfl) ?_
  intro v204 T204 V204 h204 S204 C204 q204
  obtain ⟨a203, csa203, rfl, Fa203, la203, na203, Ea203⟩ := q204
  show Go p e below _ (T204.setTop (mkF m 31 #[.val (.int k_), .val (.int o_), .val (.int b_), .val (.int dk_), .val (.int do_), .val (.int db_), .val (.ref a195), .val (.ref a197), .val (.ref a199), .val (.ref a201), .unset, .unset, .unset, .unset, .unset, .unset] [(.ref a203)]))
  refine s_astore S204 (hb hby at_31) rfl (L' := #[.val (.int k_), .val (.int o_), .val (.int b_), .val (.int dk_), .val (.int do_), .val (.int db_), .val (.ref a195), .val (.ref a197), .val (.ref a199), .val (.ref a201), .val (.ref a203), .unset, .unset, .unset, .unset, .unset]) rfl (pc' := 33) rfl ?_
  refine s_iloadN S204 (hb hby at_33) rfl (pc' := 34) rfl ?_
  refine s_iload S204 (hb hby at_34) rfl (pc' := 36) rfl ?_
  show Go p e below _ (T204.setTop (mkF m 36 #[.val (.int k_), .val (.int o_), .val (.int b_), .val (.int dk_), .val (.int do_), .val (.int db_), .val (.ref a195), .val (.ref a197), .val (.ref a199), .val (.ref a201), .val (.ref a203), .unset, .unset, .unset, .unset, .unset] [(.int db_), (.int b_)]))
  refine g_static S204 (rmP X b_ db_ S204.old) (fun _ q => nomatch q) (w37 hw) (w38 hw) (w2 hw) (w39 hw) (by decide) (hb hby at_36) (by rw [hml]; rfl) [(.int b_), (.int db_)] (lenOf pd8 rfl) rfl rfl (Nat.le_of_ble_eq_true rfl) (Nat.le_of_ble_eq_true rfl) (Nat.le_of_ble_eq_true rfl) (Nat.le_of_ble_eq_true rfl) ?_
  intro v206 T206 V206 h206 S206 C206 q206
  obtain ⟨a205, csa205, rfl, Fa205, la205, na205, Ea205⟩ := q206
  show Go p e below _ (T206.setTop (mkF m 39 #[.val (.int k_), .val (.int o_), .val (.int b_), .val (.int dk_), .val (.int do_), .val (.int db_), .val (.ref a195), .val (.ref a197), .val (.ref a199), .val (.ref a201), .val (.ref a203), .unset, .unset, .unset, .unset, .unset] [(.ref a205)]))
  refine s_astore S206 (hb hby at_39) rfl (L' := #[.val (.int k_), .val (.int o_), .val (.int b_), .val (.int dk_), .val (.int do_), .val (.int db_), .val (.ref a195), .val (.ref a197), .val (.ref a199), .val (.ref a201), .val (.ref a203), .val (.ref a205), .unset, .unset, .unset, .unset]) rfl (pc' := 41) rfl ?_
  refine g_new S206 (w40 hw) (w41 hw) (w42 hw) (hb hby at_41) (Nat.le_of_ble_eq_true rfl) (Nat.le_of_ble_eq_true rfl) ?_
  intro T207 h207 b207 S207 E207 fr207 lt207 na207 sf207 A207 D207
  have F208 : Fld Z h207 b207 "com/example/wachter/wachter/decision/Access" "kind" "Ljava/lang/String;" .null := D207 (Or.inr (w54 hw)) (ty := (.object "java/lang/String")) (by decide)
  have F209 : Fld Z h207 b207 "com/example/wachter/wachter/decision/Access" "operation" "Ljava/lang/String;" .null := D207 (Or.inr (w57 hw)) (ty := (.object "java/lang/String")) (by decide)
  have F210 : Fld Z h207 b207 "com/example/wachter/wachter/decision/Access" "object" "Ljava/lang/String;" .null := D207 (Or.inr (w60 hw)) (ty := (.object "java/lang/String")) (by decide)
  show Go p e below _ (T207.setTop (mkF m 44 #[.val (.int k_), .val (.int o_), .val (.int b_), .val (.int dk_), .val (.int do_), .val (.int db_), .val (.ref a195), .val (.ref a197), .val (.ref a199), .val (.ref a201), .val (.ref a203), .val (.ref a205), .unset, .unset, .unset, .unset] [(.ref b207)]))
  refine s_dup S207 (hb hby at_44) rfl (pc' := 45) rfl ?_
  refine s_aload S207 (hb hby at_45) rfl rfl (pc' := 47) rfl ?_
  refine s_aload S207 (hb hby at_47) rfl rfl (pc' := 49) rfl ?_
  refine s_aload S207 (hb hby at_49) rfl rfl (pc' := 51) rfl ?_
  have X212 : Ext h196 h200 := ext_trans Ea197 Ea199
  have X213 : Ext h196 h202 := ext_trans X212 Ea201
  have X214 : Ext h196 h204 := ext_trans X213 Ea203
  have X215 : Ext h196 h206 := ext_trans X214 Ea205
  have X216 : Ext h196 h207 := ext_trans X215 E207
  have Fa217 := Fa195.ext X216
  have X218 : Ext h198 h202 := ext_trans Ea199 Ea201
  have X219 : Ext h198 h204 := ext_trans X218 Ea203
  have X220 : Ext h198 h206 := ext_trans X219 Ea205
  have X221 : Ext h198 h207 := ext_trans X220 E207
  have Fa222 := Fa197.ext X221
  have X223 : Ext h200 h204 := ext_trans Ea201 Ea203
  have X224 : Ext h200 h206 := ext_trans X223 Ea205
  have X225 : Ext h200 h207 := ext_trans X224 E207
  have Fa226 := Fa199.ext X225
  show Go p e below _ (T207.setTop (mkF m 51 #[.val (.int k_), .val (.int o_), .val (.int b_), .val (.int dk_), .val (.int do_), .val (.int db_), .val (.ref a195), .val (.ref a197), .val (.ref a199), .val (.ref a201), .val (.ref a203), .val (.ref a205), .unset, .unset, .unset, .unset] [(.ref a199), (.ref a197), (.ref a195), (.ref b207), (.ref b207)]))
  refine g_special S207 (rmAC X na207 S207.old A207 F208 F209 F210 Fa217 Fa222 Fa226) (fun _ q => nomatch q) rfl (w43 hw) (w44 hw) (w42 hw) (w45 hw) (by decide) (hb hby at_51) (by rw [hml]; rfl) b207 [(.ref a195), (.ref a197), (.ref a199)] (lenOf pd9 rfl) rfl rfl (Nat.le_of_ble_eq_true rfl) (Nat.le_of_ble_eq_true rfl) (Nat.le_of_ble_eq_true rfl) (Nat.le_of_ble_eq_true rfl) ?_
  intro v227 T227 V227 h227 S227 C227 q227
  obtain ⟨rfl, Ko211, Ao211, Fko211, Foo211, Fbo211⟩ := q227
  show Go p e below _ (T227.setTop (mkF m 54 #[.val (.int k_), .val (.int o_), .val (.int b_), .val (.int dk_), .val (.int do_), .val (.int db_), .val (.ref a195), .val (.ref a197), .val (.ref a199), .val (.ref a201), .val (.ref a203), .val (.ref a205), .unset, .unset, .unset, .unset] [(.ref b207)]))
  refine s_astore S227 (hb hby at_54) rfl (L' := #[.val (.int k_), .val (.int o_), .val (.int b_), .val (.int dk_), .val (.int do_), .val (.int db_), .val (.ref a195), .val (.ref a197), .val (.ref a199), .val (.ref a201), .val (.ref a203), .val (.ref a205), .val (.ref b207), .unset, .unset, .unset]) rfl (pc' := 56) rfl ?_
  refine g_new S227 (w40 hw) (w41 hw) (w42 hw) (hb hby at_56) (Nat.le_of_ble_eq_true rfl) (Nat.le_of_ble_eq_true rfl) ?_
  intro T228 h228 b228 S228 E228 fr228 lt228 na228 sf228 A228 D228
  have F229 : Fld Z h228 b228 "com/example/wachter/wachter/decision/Access" "kind" "Ljava/lang/String;" .null := D228 (Or.inr (w54 hw)) (ty := (.object "java/lang/String")) (by decide)
  have F230 : Fld Z h228 b228 "com/example/wachter/wachter/decision/Access" "operation" "Ljava/lang/String;" .null := D228 (Or.inr (w57 hw)) (ty := (.object "java/lang/String")) (by decide)
  have F231 : Fld Z h228 b228 "com/example/wachter/wachter/decision/Access" "object" "Ljava/lang/String;" .null := D228 (Or.inr (w60 hw)) (ty := (.object "java/lang/String")) (by decide)
  show Go p e below _ (T228.setTop (mkF m 59 #[.val (.int k_), .val (.int o_), .val (.int b_), .val (.int dk_), .val (.int do_), .val (.int db_), .val (.ref a195), .val (.ref a197), .val (.ref a199), .val (.ref a201), .val (.ref a203), .val (.ref a205), .val (.ref b207), .unset, .unset, .unset] [(.ref b228)]))
  refine s_dup S228 (hb hby at_59) rfl (pc' := 60) rfl ?_
  refine s_aload S228 (hb hby at_60) rfl rfl (pc' := 62) rfl ?_
  refine s_aload S228 (hb hby at_62) rfl rfl (pc' := 64) rfl ?_
  refine s_aload S228 (hb hby at_64) rfl rfl (pc' := 66) rfl ?_
  have X233 : Ext h202 h206 := ext_trans Ea203 Ea205
  have X234 : Ext h202 h207 := ext_trans X233 E207
  have X235 : Ext h202 h227 := ext_keep1 X234 Ko211 (Nat.le_trans X233.1 fr207)
  have X236 : Ext h202 h228 := ext_trans X235 E228
  have Fa237 := Fa201.ext X236
  have X238 : Ext h204 h207 := ext_trans Ea205 E207
  have X239 : Ext h204 h227 := ext_keep1 X238 Ko211 (Nat.le_trans Ea205.1 fr207)
  have X240 : Ext h204 h228 := ext_trans X239 E228
  have Fa241 := Fa203.ext X240
  have X242 : Ext h206 h227 := ext_keep1 E207 Ko211 fr207
  have X243 : Ext h206 h228 := ext_trans X242 E228
  have Fa244 := Fa205.ext X243
  show Go p e below _ (T228.setTop (mkF m 66 #[.val (.int k_), .val (.int o_), .val (.int b_), .val (.int dk_), .val (.int do_), .val (.int db_), .val (.ref a195), .val (.ref a197), .val (.ref a199), .val (.ref a201), .val (.ref a203), .val (.ref a205), .val (.ref b207), .unset, .unset, .unset] [(.ref a205), (.ref a203), (.ref a201), (.ref b228), (.ref b228)]))
  refine g_special S228 (rmAC X na228 S228.old A228 F229 F230 F231 Fa237 Fa241 Fa244) (fun _ q => nomatch q) rfl (w43 hw) (w44 hw) (w42 hw) (w45 hw) (by decide) (hb hby at_66) (by rw [hml]; rfl) b228 [(.ref a201), (.ref a203), (.ref a205)] (lenOf pd9 rfl) rfl rfl (Nat.le_of_ble_eq_true rfl) (Nat.le_of_ble_eq_true rfl) (Nat.le_of_ble_eq_true rfl) (Nat.le_of_ble_eq_true rfl) ?_
  intro v245 T245 V245 h245 S245 C245 q245
  obtain ⟨rfl, Ko232, Ao232, Fko232, Foo232, Fbo232⟩ := q245
  show Go p e below _ (T245.setTop (mkF m 69 #[.val (.int k_), .val (.int o_), .val (.int b_), .val (.int dk_), .val (.int do_), .val (.int db_), .val (.ref a195), .val (.ref a197), .val (.ref a199), .val (.ref a201), .val (.ref a203), .val (.ref a205), .val (.ref b207), .unset, .unset, .unset] [(.ref b228)]))
  refine s_astore S245 (hb hby at_69) rfl (L' := #[.val (.int k_), .val (.int o_), .val (.int b_), .val (.int dk_), .val (.int do_), .val (.int db_), .val (.ref a195), .val (.ref a197), .val (.ref a199), .val (.ref a201), .val (.ref a203), .val (.ref a205), .val (.ref b207), .val (.ref b228), .unset, .unset]) rfl (pc' := 71) rfl ?_
  refine s_iloadN S245 (hb hby at_71) rfl (pc' := 72) rfl ?_
  refine s_iconst S245 (hb hby at_72) (v := (1 : Int32)) rfl (pc' := 73) rfl ?_
  refine s_iushr S245 (hb hby at_73) (z := ((dk_.toUInt32 >>> ((1 : Int32) &&& 31).toUInt32).toInt32)) rfl (pc' := 74) rfl ?_
  refine s_iconst S245 (hb hby at_74) (v := (3 : Int32)) rfl (pc' := 75) rfl ?_
  refine s_iand S245 (hb hby at_75) (z := (((dk_.toUInt32 >>> ((1 : Int32) &&& 31).toUInt32).toInt32) &&& (3 : Int32))) rfl (pc' := 76) rfl ?_
  generalize emd246 : (((dk_.toUInt32 >>> ((1 : Int32) &&& 31).toUInt32).toInt32) &&& (3 : Int32)) = md246
  refine s_istore S245 (hb hby at_76) (L' := #[.val (.int k_), .val (.int o_), .val (.int b_), .val (.int dk_), .val (.int do_), .val (.int db_), .val (.ref a195), .val (.ref a197), .val (.ref a199), .val (.ref a201), .val (.ref a203), .val (.ref a205), .val (.ref b207), .val (.ref b228), .val (.int md246), .unset]) rfl (pc' := 78) rfl ?_
  refine s_iload S245 (hb hby at_78) rfl (pc' := 80) rfl ?_
  refine s_iconst S245 (hb hby at_80) (v := (2 : Int32)) rfl (pc' := 81) rfl ?_
  refine g_icmp S245 (hb hby at_81) (by decide) (pcT := 99) (by decide) (fun q => ?_) (fun q => ?_)
  · have hc81_247 : ¬ md246 = (2 : Int32) := icT_ne q
    show Go p e below _ (T245.setTop (mkF m 99 #[.val (.int k_), .val (.int o_), .val (.int b_), .val (.int dk_), .val (.int do_), .val (.int db_), .val (.ref a195), .val (.ref a197), .val (.ref a199), .val (.ref a201), .val (.ref a203), .val (.ref a205), .val (.ref b207), .val (.ref b228), .val (.int md246), .unset] []))
    refine s_iload S245 (hb hby at_99) rfl (pc' := 101) rfl ?_
    refine s_iconst S245 (hb hby at_101) (v := (3 : Int32)) rfl (pc' := 102) rfl ?_
    refine g_icmp S245 (hb hby at_102) (by decide) (pcT := 121) (by decide) (fun q => ?_) (fun q => ?_)
    · have hc102_248 : ¬ md246 = (3 : Int32) := icT_ne q
      show Go p e below _ (T245.setTop (mkF m 121 #[.val (.int k_), .val (.int o_), .val (.int b_), .val (.int dk_), .val (.int do_), .val (.int db_), .val (.ref a195), .val (.ref a197), .val (.ref a199), .val (.ref a201), .val (.ref a203), .val (.ref a205), .val (.ref b207), .val (.ref b228), .val (.int md246), .unset] []))
      have F250 := Fa217.keep Ko211 A207 (by decide) (w41 hw)
      have F251 := F250.ext E228
      have F252 := F251.keep Ko232 A228 (by decide) (w41 hw)
      have F253 := Fa222.keep Ko211 A207 (by decide) (w41 hw)
      have F254 := F253.ext E228
      have F255 := F254.keep Ko232 A228 (by decide) (w41 hw)
      have F256 := Fa226.keep Ko211 A207 (by decide) (w41 hw)
      have F257 := F256.ext E228
      have F258 := F257.keep Ko232 A228 (by decide) (w41 hw)
      have F259 := Fa237.keep Ko232 A228 (by decide) (w41 hw)
      have F260 := Fa241.keep Ko232 A228 (by decide) (w41 hw)
      have F261 := Fa244.keep Ko232 A228 (by decide) (w41 hw)
      have X262 : Ext h227 h245 := ext_keep1 E228 Ko232 fr228
      have Ao263 := Ao211.ext X262
      have Fko264 := Fko211.ext X262
      have Foo265 := Foo211.ext X262
      have Fbo266 := Fbo211.ext X262
      show Go p e below _ (T245.setTop (mkF m 121 #[.val (.int k_), .val (.int o_), .val (.int b_), .val (.int dk_), .val (.int do_), .val (.int db_), .val (.ref a195), .val (.ref a197), .val (.ref a199), .val (.ref a201), .val (.ref a203), .val (.ref a205), .val (.ref b207), .val (.ref b228), .val (.int md246), .unset] []))
      have K249 : ∀ (T8 : State) (V8 : Vm), St p l e room_1 s m #[(.int k_), (.int o_), (.int b_), (.int dk_), (.int do_), (.int db_)] below meth c Z a0 EL1 n0 "com/example/wachter/wachter/decision/AccessEqualsPinLaw" T8 V8 h245 50 254 → ∀ bx : Int32, ((bx = 1 ∧ (csa195 = csa201 ∧ csa197 = csa203 ∧ csa199 = csa205)) ∨ (bx = 0 ∧ ¬ (csa195 = csa201 ∧ csa197 = csa203 ∧ csa199 = csa205))) → Go p e below (Fini Z EL1 n0 s room_1 (fun v h' => v = some (.int 1) ∧ True)) (T8.setTop (mkF m 156 #[.val (.int k_), .val (.int o_), .val (.int b_), .val (.int dk_), .val (.int do_), .val (.int db_), .val (.ref a195), .val (.ref a197), .val (.ref a199), .val (.ref a201), .val (.ref a203), .val (.ref a205), .val (.ref b207), .val (.ref b228), .val (.int md246), .unset] [(.int bx)])) := by
        intro T8 V8 S8 bx hbx
        rcases hbx with ⟨rfl, hbx⟩ | ⟨rfl, hbx⟩
        · skip
          show Go p e below _ (T8.setTop (mkF m 156 #[.val (.int k_), .val (.int o_), .val (.int b_), .val (.int dk_), .val (.int do_), .val (.int db_), .val (.ref a195), .val (.ref a197), .val (.ref a199), .val (.ref a201), .val (.ref a203), .val (.ref a205), .val (.ref b207), .val (.ref b228), .val (.int md246), .unset] [(.int (1 : Int32))]))
          refine s_istore S8 (hb hby at_156) (L' := #[.val (.int k_), .val (.int o_), .val (.int b_), .val (.int dk_), .val (.int do_), .val (.int db_), .val (.ref a195), .val (.ref a197), .val (.ref a199), .val (.ref a201), .val (.ref a203), .val (.ref a205), .val (.ref b207), .val (.ref b228), .val (.int md246), .val (.int (1 : Int32))]) rfl (pc' := 158) rfl ?_
          refine s_aload S8 (hb hby at_158) rfl rfl (pc' := 160) rfl ?_
          refine s_aload S8 (hb hby at_160) rfl rfl (pc' := 162) rfl ?_
          show Go p e below _ (T8.setTop (mkF m 162 #[.val (.int k_), .val (.int o_), .val (.int b_), .val (.int dk_), .val (.int do_), .val (.int db_), .val (.ref a195), .val (.ref a197), .val (.ref a199), .val (.ref a201), .val (.ref a203), .val (.ref a205), .val (.ref b207), .val (.ref b228), .val (.int md246), .val (.int (1 : Int32))] [(.ref b228), (.ref b207)]))
          refine g_virtual S8 (rmEQ X S8.old Ao263 Fko264 Foo265 Fbo266 F252 F255 F258 Ao232 Fko232 Foo232 Fbo232 F259 F260 F261) (fun _ q => nomatch q) (w96 hw) (w97 hw) (w99 hw) (w98 hw) (w42 hw) (w100 hw) (by decide) (fun _ h => notFace_of_selects h) (hb hby at_162) (by rw [hml]; rfl) b207 Ao263 [(.ref b228)] (lenOf pd10 rfl) rfl rfl (Nat.le_of_ble_eq_true rfl) (Nat.le_of_ble_eq_true rfl) (Nat.le_of_ble_eq_true rfl) (Nat.le_of_ble_eq_true rfl) ?_
          intro v268 T268 V268 h268 S268 C268 q268
          obtain ⟨r267, rfl, hr267, rfl⟩ := q268
          show Go p e below _ (T268.setTop (mkF m 165 #[.val (.int k_), .val (.int o_), .val (.int b_), .val (.int dk_), .val (.int do_), .val (.int db_), .val (.ref a195), .val (.ref a197), .val (.ref a199), .val (.ref a201), .val (.ref a203), .val (.ref a205), .val (.ref b207), .val (.ref b228), .val (.int md246), .val (.int (1 : Int32))] [(.int r267)]))
          refine s_iload S268 (hb hby at_165) rfl (pc' := 167) rfl ?_
          obtain rfl : r267 = 1 := hr267.elim (fun q => q.1) (fun q => absurd hbx q.2)
          refine s_icmpN S268 (hb hby at_167) (by decide) (pc' := 170) rfl ?_
          refine s_aload S268 (hb hby at_170) rfl rfl (pc' := 172) rfl ?_
          refine s_aload S268 (hb hby at_172) rfl rfl (pc' := 174) rfl ?_
          show Go p e below _ (T268.setTop (mkF m 174 #[.val (.int k_), .val (.int o_), .val (.int b_), .val (.int dk_), .val (.int do_), .val (.int db_), .val (.ref a195), .val (.ref a197), .val (.ref a199), .val (.ref a201), .val (.ref a203), .val (.ref a205), .val (.ref b207), .val (.ref b228), .val (.int md246), .val (.int (1 : Int32))] [(.ref b207), (.ref b228)]))
          refine g_virtual S268 (rmEQ X S268.old Ao232 Fko232 Foo232 Fbo232 F259 F260 F261 Ao263 Fko264 Foo265 Fbo266 F252 F255 F258) (fun _ q => nomatch q) (w96 hw) (w97 hw) (w99 hw) (w98 hw) (w42 hw) (w100 hw) (by decide) (fun _ h => notFace_of_selects h) (hb hby at_174) (by rw [hml]; rfl) b228 Ao232 [(.ref b207)] (lenOf pd10 rfl) rfl rfl (Nat.le_of_ble_eq_true rfl) (Nat.le_of_ble_eq_true rfl) (Nat.le_of_ble_eq_true rfl) (Nat.le_of_ble_eq_true rfl) ?_
          intro v270 T270 V270 h270 S270 C270 q270
          obtain ⟨r269, rfl, hr269, rfl⟩ := q270
          show Go p e below _ (T270.setTop (mkF m 177 #[.val (.int k_), .val (.int o_), .val (.int b_), .val (.int dk_), .val (.int do_), .val (.int db_), .val (.ref a195), .val (.ref a197), .val (.ref a199), .val (.ref a201), .val (.ref a203), .val (.ref a205), .val (.ref b207), .val (.ref b228), .val (.int md246), .val (.int (1 : Int32))] [(.int r269)]))
          refine s_iload S270 (hb hby at_177) rfl (pc' := 179) rfl ?_
          obtain rfl : r269 = 1 := hr269.elim (fun q => q.1) (fun q => absurd ⟨hbx.1.symm, hbx.2.1.symm, hbx.2.2.symm⟩ q.2)
          refine s_icmpN S270 (hb hby at_179) (by decide) (pc' := 182) rfl ?_
          refine s_aload S270 (hb hby at_182) rfl rfl (pc' := 184) rfl ?_
          refine s_aload S270 (hb hby at_184) rfl rfl (pc' := 186) rfl ?_
          show Go p e below _ (T270.setTop (mkF m 186 #[.val (.int k_), .val (.int o_), .val (.int b_), .val (.int dk_), .val (.int do_), .val (.int db_), .val (.ref a195), .val (.ref a197), .val (.ref a199), .val (.ref a201), .val (.ref a203), .val (.ref a205), .val (.ref b207), .val (.ref b228), .val (.int md246), .val (.int (1 : Int32))] [(.ref b207), (.ref b207)]))
          refine g_virtual S270 (rmEQ X S270.old Ao263 Fko264 Foo265 Fbo266 F252 F255 F258 Ao263 Fko264 Foo265 Fbo266 F252 F255 F258) (fun _ q => nomatch q) (w96 hw) (w97 hw) (w99 hw) (w98 hw) (w42 hw) (w100 hw) (by decide) (fun _ h => notFace_of_selects h) (hb hby at_186) (by rw [hml]; rfl) b207 Ao263 [(.ref b207)] (lenOf pd10 rfl) rfl rfl (Nat.le_of_ble_eq_true rfl) (Nat.le_of_ble_eq_true rfl) (Nat.le_of_ble_eq_true rfl) (Nat.le_of_ble_eq_true rfl) ?_
          intro v272 T272 V272 h272 S272 C272 q272
          obtain ⟨r271, rfl, hr271, rfl⟩ := q272
          obtain rfl : r271 = 1 := hr271.elim (fun q => q.1) (fun q => absurd ⟨rfl, rfl, rfl⟩ q.2)
          show Go p e below _ (T272.setTop (mkF m 189 #[.val (.int k_), .val (.int o_), .val (.int b_), .val (.int dk_), .val (.int do_), .val (.int db_), .val (.ref a195), .val (.ref a197), .val (.ref a199), .val (.ref a201), .val (.ref a203), .val (.ref a205), .val (.ref b207), .val (.ref b228), .val (.int md246), .val (.int (1 : Int32))] [(.int (1 : Int32))]))
          refine s_ifN S272 (hb hby at_189) (by decide) (pc' := 192) rfl ?_
          refine s_iconst S272 (hb hby at_192) (v := (1 : Int32)) rfl (pc' := 193) rfl ?_
          refine s_goto S272 (hb hby at_193) (by decide) (pcT := 197) (by decide) ?_
          exact g_iretN S272 (hb hby at_197) hret (by simp) ⟨rfl, trivial⟩
        · skip
          show Go p e below _ (T8.setTop (mkF m 156 #[.val (.int k_), .val (.int o_), .val (.int b_), .val (.int dk_), .val (.int do_), .val (.int db_), .val (.ref a195), .val (.ref a197), .val (.ref a199), .val (.ref a201), .val (.ref a203), .val (.ref a205), .val (.ref b207), .val (.ref b228), .val (.int md246), .unset] [(.int (0 : Int32))]))
          refine s_istore S8 (hb hby at_156) (L' := #[.val (.int k_), .val (.int o_), .val (.int b_), .val (.int dk_), .val (.int do_), .val (.int db_), .val (.ref a195), .val (.ref a197), .val (.ref a199), .val (.ref a201), .val (.ref a203), .val (.ref a205), .val (.ref b207), .val (.ref b228), .val (.int md246), .val (.int (0 : Int32))]) rfl (pc' := 158) rfl ?_
          refine s_aload S8 (hb hby at_158) rfl rfl (pc' := 160) rfl ?_
          refine s_aload S8 (hb hby at_160) rfl rfl (pc' := 162) rfl ?_
          show Go p e below _ (T8.setTop (mkF m 162 #[.val (.int k_), .val (.int o_), .val (.int b_), .val (.int dk_), .val (.int do_), .val (.int db_), .val (.ref a195), .val (.ref a197), .val (.ref a199), .val (.ref a201), .val (.ref a203), .val (.ref a205), .val (.ref b207), .val (.ref b228), .val (.int md246), .val (.int (0 : Int32))] [(.ref b228), (.ref b207)]))
          refine g_virtual S8 (rmEQ X S8.old Ao263 Fko264 Foo265 Fbo266 F252 F255 F258 Ao232 Fko232 Foo232 Fbo232 F259 F260 F261) (fun _ q => nomatch q) (w96 hw) (w97 hw) (w99 hw) (w98 hw) (w42 hw) (w100 hw) (by decide) (fun _ h => notFace_of_selects h) (hb hby at_162) (by rw [hml]; rfl) b207 Ao263 [(.ref b228)] (lenOf pd10 rfl) rfl rfl (Nat.le_of_ble_eq_true rfl) (Nat.le_of_ble_eq_true rfl) (Nat.le_of_ble_eq_true rfl) (Nat.le_of_ble_eq_true rfl) ?_
          intro v274 T274 V274 h274 S274 C274 q274
          obtain ⟨r273, rfl, hr273, rfl⟩ := q274
          show Go p e below _ (T274.setTop (mkF m 165 #[.val (.int k_), .val (.int o_), .val (.int b_), .val (.int dk_), .val (.int do_), .val (.int db_), .val (.ref a195), .val (.ref a197), .val (.ref a199), .val (.ref a201), .val (.ref a203), .val (.ref a205), .val (.ref b207), .val (.ref b228), .val (.int md246), .val (.int (0 : Int32))] [(.int r273)]))
          refine s_iload S274 (hb hby at_165) rfl (pc' := 167) rfl ?_
          obtain rfl : r273 = 0 := hr273.elim (fun q => absurd q.2 hbx) (fun q => q.1)
          refine s_icmpN S274 (hb hby at_167) (by decide) (pc' := 170) rfl ?_
          refine s_aload S274 (hb hby at_170) rfl rfl (pc' := 172) rfl ?_
          refine s_aload S274 (hb hby at_172) rfl rfl (pc' := 174) rfl ?_
          show Go p e below _ (T274.setTop (mkF m 174 #[.val (.int k_), .val (.int o_), .val (.int b_), .val (.int dk_), .val (.int do_), .val (.int db_), .val (.ref a195), .val (.ref a197), .val (.ref a199), .val (.ref a201), .val (.ref a203), .val (.ref a205), .val (.ref b207), .val (.ref b228), .val (.int md246), .val (.int (0 : Int32))] [(.ref b207), (.ref b228)]))
          refine g_virtual S274 (rmEQ X S274.old Ao232 Fko232 Foo232 Fbo232 F259 F260 F261 Ao263 Fko264 Foo265 Fbo266 F252 F255 F258) (fun _ q => nomatch q) (w96 hw) (w97 hw) (w99 hw) (w98 hw) (w42 hw) (w100 hw) (by decide) (fun _ h => notFace_of_selects h) (hb hby at_174) (by rw [hml]; rfl) b228 Ao232 [(.ref b207)] (lenOf pd10 rfl) rfl rfl (Nat.le_of_ble_eq_true rfl) (Nat.le_of_ble_eq_true rfl) (Nat.le_of_ble_eq_true rfl) (Nat.le_of_ble_eq_true rfl) ?_
          intro v276 T276 V276 h276 S276 C276 q276
          obtain ⟨r275, rfl, hr275, rfl⟩ := q276
          show Go p e below _ (T276.setTop (mkF m 177 #[.val (.int k_), .val (.int o_), .val (.int b_), .val (.int dk_), .val (.int do_), .val (.int db_), .val (.ref a195), .val (.ref a197), .val (.ref a199), .val (.ref a201), .val (.ref a203), .val (.ref a205), .val (.ref b207), .val (.ref b228), .val (.int md246), .val (.int (0 : Int32))] [(.int r275)]))
          refine s_iload S276 (hb hby at_177) rfl (pc' := 179) rfl ?_
          obtain rfl : r275 = 0 := hr275.elim (fun q => absurd ⟨q.2.1.symm, q.2.2.1.symm, q.2.2.2.symm⟩ hbx) (fun q => q.1)
          refine s_icmpN S276 (hb hby at_179) (by decide) (pc' := 182) rfl ?_
          refine s_aload S276 (hb hby at_182) rfl rfl (pc' := 184) rfl ?_
          refine s_aload S276 (hb hby at_184) rfl rfl (pc' := 186) rfl ?_
          show Go p e below _ (T276.setTop (mkF m 186 #[.val (.int k_), .val (.int o_), .val (.int b_), .val (.int dk_), .val (.int do_), .val (.int db_), .val (.ref a195), .val (.ref a197), .val (.ref a199), .val (.ref a201), .val (.ref a203), .val (.ref a205), .val (.ref b207), .val (.ref b228), .val (.int md246), .val (.int (0 : Int32))] [(.ref b207), (.ref b207)]))
          refine g_virtual S276 (rmEQ X S276.old Ao263 Fko264 Foo265 Fbo266 F252 F255 F258 Ao263 Fko264 Foo265 Fbo266 F252 F255 F258) (fun _ q => nomatch q) (w96 hw) (w97 hw) (w99 hw) (w98 hw) (w42 hw) (w100 hw) (by decide) (fun _ h => notFace_of_selects h) (hb hby at_186) (by rw [hml]; rfl) b207 Ao263 [(.ref b207)] (lenOf pd10 rfl) rfl rfl (Nat.le_of_ble_eq_true rfl) (Nat.le_of_ble_eq_true rfl) (Nat.le_of_ble_eq_true rfl) (Nat.le_of_ble_eq_true rfl) ?_
          intro v278 T278 V278 h278 S278 C278 q278
          obtain ⟨r277, rfl, hr277, rfl⟩ := q278
          obtain rfl : r277 = 1 := hr277.elim (fun q => q.1) (fun q => absurd ⟨rfl, rfl, rfl⟩ q.2)
          show Go p e below _ (T278.setTop (mkF m 189 #[.val (.int k_), .val (.int o_), .val (.int b_), .val (.int dk_), .val (.int do_), .val (.int db_), .val (.ref a195), .val (.ref a197), .val (.ref a199), .val (.ref a201), .val (.ref a203), .val (.ref a205), .val (.ref b207), .val (.ref b228), .val (.int md246), .val (.int (0 : Int32))] [(.int (1 : Int32))]))
          refine s_ifN S278 (hb hby at_189) (by decide) (pc' := 192) rfl ?_
          refine s_iconst S278 (hb hby at_192) (v := (1 : Int32)) rfl (pc' := 193) rfl ?_
          refine s_goto S278 (hb hby at_193) (by decide) (pcT := 197) (by decide) ?_
          exact g_iretN S278 (hb hby at_197) hret (by simp) ⟨rfl, trivial⟩
      refine s_aload S245 (hb hby at_121) rfl rfl (pc' := 123) rfl ?_
      refine s_aload S245 (hb hby at_123) rfl rfl (pc' := 125) rfl ?_
      show Go p e below _ (T245.setTop (mkF m 125 #[.val (.int k_), .val (.int o_), .val (.int b_), .val (.int dk_), .val (.int do_), .val (.int db_), .val (.ref a195), .val (.ref a197), .val (.ref a199), .val (.ref a201), .val (.ref a203), .val (.ref a205), .val (.ref b207), .val (.ref b228), .val (.int md246), .unset] [(.ref a201), (.ref a195)]))
      refine g_static S245 (rmSM X S245.old F252 F259 la195 la201 na195 na201) (fun _ q => nomatch q) (w61 hw) (w62 hw) (w2 hw) (w63 hw) (by decide) (hb hby at_125) (by rw [hml]; rfl) [(.ref a195), (.ref a201)] (lenOf pd11 rfl) rfl rfl (Nat.le_of_ble_eq_true rfl) (Nat.le_of_ble_eq_true rfl) (Nat.le_of_ble_eq_true rfl) (Nat.le_of_ble_eq_true rfl) ?_
      intro v280 T280 V280 h280 S280 C280 q280
      obtain ⟨r279, rfl, hr279, rfl⟩ := q280
      rcases hr279 with ⟨rfl, hr279⟩ | ⟨rfl, hr279⟩
      · skip
        show Go p e below _ (T280.setTop (mkF m 128 #[.val (.int k_), .val (.int o_), .val (.int b_), .val (.int dk_), .val (.int do_), .val (.int db_), .val (.ref a195), .val (.ref a197), .val (.ref a199), .val (.ref a201), .val (.ref a203), .val (.ref a205), .val (.ref b207), .val (.ref b228), .val (.int md246), .unset] [(.int (1 : Int32))]))
        refine s_ifN S280 (hb hby at_128) (by decide) (pc' := 131) rfl ?_
        refine s_aload S280 (hb hby at_131) rfl rfl (pc' := 133) rfl ?_
        refine s_aload S280 (hb hby at_133) rfl rfl (pc' := 135) rfl ?_
        show Go p e below _ (T280.setTop (mkF m 135 #[.val (.int k_), .val (.int o_), .val (.int b_), .val (.int dk_), .val (.int do_), .val (.int db_), .val (.ref a195), .val (.ref a197), .val (.ref a199), .val (.ref a201), .val (.ref a203), .val (.ref a205), .val (.ref b207), .val (.ref b228), .val (.int md246), .unset] [(.ref a203), (.ref a197)]))
        refine g_static S280 (rmSM X S280.old F255 F260 la197 la203 na197 na203) (fun _ q => nomatch q) (w61 hw) (w62 hw) (w2 hw) (w63 hw) (by decide) (hb hby at_135) (by rw [hml]; rfl) [(.ref a197), (.ref a203)] (lenOf pd11 rfl) rfl rfl (Nat.le_of_ble_eq_true rfl) (Nat.le_of_ble_eq_true rfl) (Nat.le_of_ble_eq_true rfl) (Nat.le_of_ble_eq_true rfl) ?_
        intro v282 T282 V282 h282 S282 C282 q282
        obtain ⟨r281, rfl, hr281, rfl⟩ := q282
        rcases hr281 with ⟨rfl, hr281⟩ | ⟨rfl, hr281⟩
        · skip
          show Go p e below _ (T282.setTop (mkF m 138 #[.val (.int k_), .val (.int o_), .val (.int b_), .val (.int dk_), .val (.int do_), .val (.int db_), .val (.ref a195), .val (.ref a197), .val (.ref a199), .val (.ref a201), .val (.ref a203), .val (.ref a205), .val (.ref b207), .val (.ref b228), .val (.int md246), .unset] [(.int (1 : Int32))]))
          refine s_ifN S282 (hb hby at_138) (by decide) (pc' := 141) rfl ?_
          refine s_aload S282 (hb hby at_141) rfl rfl (pc' := 143) rfl ?_
          refine s_aload S282 (hb hby at_143) rfl rfl (pc' := 145) rfl ?_
          show Go p e below _ (T282.setTop (mkF m 145 #[.val (.int k_), .val (.int o_), .val (.int b_), .val (.int dk_), .val (.int do_), .val (.int db_), .val (.ref a195), .val (.ref a197), .val (.ref a199), .val (.ref a201), .val (.ref a203), .val (.ref a205), .val (.ref b207), .val (.ref b228), .val (.int md246), .unset] [(.ref a205), (.ref a199)]))
          refine g_static S282 (rmSM X S282.old F258 F261 la199 la205 na199 na205) (fun _ q => nomatch q) (w61 hw) (w62 hw) (w2 hw) (w63 hw) (by decide) (hb hby at_145) (by rw [hml]; rfl) [(.ref a199), (.ref a205)] (lenOf pd11 rfl) rfl rfl (Nat.le_of_ble_eq_true rfl) (Nat.le_of_ble_eq_true rfl) (Nat.le_of_ble_eq_true rfl) (Nat.le_of_ble_eq_true rfl) ?_
          intro v284 T284 V284 h284 S284 C284 q284
          obtain ⟨r283, rfl, hr283, rfl⟩ := q284
          rcases hr283 with ⟨rfl, hr283⟩ | ⟨rfl, hr283⟩
          · skip
            show Go p e below _ (T284.setTop (mkF m 148 #[.val (.int k_), .val (.int o_), .val (.int b_), .val (.int dk_), .val (.int do_), .val (.int db_), .val (.ref a195), .val (.ref a197), .val (.ref a199), .val (.ref a201), .val (.ref a203), .val (.ref a205), .val (.ref b207), .val (.ref b228), .val (.int md246), .unset] [(.int (1 : Int32))]))
            refine s_ifN S284 (hb hby at_148) (by decide) (pc' := 151) rfl ?_
            refine s_iconst S284 (hb hby at_151) (v := (1 : Int32)) rfl (pc' := 152) rfl ?_
            refine s_goto S284 (hb hby at_152) (by decide) (pcT := 156) (by decide) ?_
            exact K249 _ _ S284 _ (Or.inl ⟨rfl, hr279, hr281, hr283⟩)
          · skip
            show Go p e below _ (T284.setTop (mkF m 148 #[.val (.int k_), .val (.int o_), .val (.int b_), .val (.int dk_), .val (.int do_), .val (.int db_), .val (.ref a195), .val (.ref a197), .val (.ref a199), .val (.ref a201), .val (.ref a203), .val (.ref a205), .val (.ref b207), .val (.ref b228), .val (.int md246), .unset] [(.int (0 : Int32))]))
            refine s_ifY S284 (hb hby at_148) (by decide) (by decide) (pcT := 155) (by decide) ?_
            refine s_iconst S284 (hb hby at_155) (v := (0 : Int32)) rfl (pc' := 156) rfl ?_
            exact K249 _ _ S284 _ (Or.inr ⟨rfl, fun q => hr283 q.2.2⟩)
        · skip
          show Go p e below _ (T282.setTop (mkF m 138 #[.val (.int k_), .val (.int o_), .val (.int b_), .val (.int dk_), .val (.int do_), .val (.int db_), .val (.ref a195), .val (.ref a197), .val (.ref a199), .val (.ref a201), .val (.ref a203), .val (.ref a205), .val (.ref b207), .val (.ref b228), .val (.int md246), .unset] [(.int (0 : Int32))]))
          refine s_ifY S282 (hb hby at_138) (by decide) (by decide) (pcT := 155) (by decide) ?_
          refine s_iconst S282 (hb hby at_155) (v := (0 : Int32)) rfl (pc' := 156) rfl ?_
          exact K249 _ _ S282 _ (Or.inr ⟨rfl, fun q => hr281 q.2.1⟩)
      · skip
        show Go p e below _ (T280.setTop (mkF m 128 #[.val (.int k_), .val (.int o_), .val (.int b_), .val (.int dk_), .val (.int do_), .val (.int db_), .val (.ref a195), .val (.ref a197), .val (.ref a199), .val (.ref a201), .val (.ref a203), .val (.ref a205), .val (.ref b207), .val (.ref b228), .val (.int md246), .unset] [(.int (0 : Int32))]))
        refine s_ifY S280 (hb hby at_128) (by decide) (by decide) (pcT := 155) (by decide) ?_
        refine s_iconst S280 (hb hby at_155) (v := (0 : Int32)) rfl (pc' := 156) rfl ?_
        exact K249 _ _ S280 _ (Or.inr ⟨rfl, fun q => hr279 q.1⟩)
    · have hc102_248 : md246 = (3 : Int32) := icF_ne q
      show Go p e below _ (T245.setTop (mkF m 105 #[.val (.int k_), .val (.int o_), .val (.int b_), .val (.int dk_), .val (.int do_), .val (.int db_), .val (.ref a195), .val (.ref a197), .val (.ref a199), .val (.ref a201), .val (.ref a203), .val (.ref a205), .val (.ref b207), .val (.ref b228), .val (.int md246), .unset] []))
      refine s_aload S245 (hb hby at_105) rfl rfl (pc' := 107) rfl ?_
      refine s_aload S245 (hb hby at_107) rfl rfl (pc' := 109) rfl ?_
      have X285 : Ext h227 h245 := ext_keep1 E228 Ko232 fr228
      have Ao286 := Ao211.ext X285
      have Fko287 := Fko211.ext X285
      have Foo288 := Foo211.ext X285
      have Fbo289 := Fbo211.ext X285
      have F290 := Fa217.keep Ko211 A207 (by decide) (w41 hw)
      have F291 := F290.ext E228
      have F292 := F291.keep Ko232 A228 (by decide) (w41 hw)
      have F293 := Fa222.keep Ko211 A207 (by decide) (w41 hw)
      have F294 := F293.ext E228
      have F295 := F294.keep Ko232 A228 (by decide) (w41 hw)
      have F296 := Fa226.keep Ko211 A207 (by decide) (w41 hw)
      have F297 := F296.ext E228
      have F298 := F297.keep Ko232 A228 (by decide) (w41 hw)
      show Go p e below _ (T245.setTop (mkF m 109 #[.val (.int k_), .val (.int o_), .val (.int b_), .val (.int dk_), .val (.int do_), .val (.int db_), .val (.ref a195), .val (.ref a197), .val (.ref a199), .val (.ref a201), .val (.ref a203), .val (.ref a205), .val (.ref b207), .val (.ref b228), .val (.int md246), .unset] [(.ref a195), (.ref b207)]))
      refine g_virtual S245 (rmES X S245.old Ao286 Fko287 Foo288 Fbo289 F292 F295 F298 F292) (fun _ q => nomatch q) (w96 hw) (w97 hw) (w99 hw) (w98 hw) (w42 hw) (w100 hw) (by decide) (fun _ h => notFace_of_selects h) (hb hby at_109) (by rw [hml]; rfl) b207 Ao286 [(.ref a195)] (lenOf pd10 rfl) rfl rfl (Nat.le_of_ble_eq_true rfl) (Nat.le_of_ble_eq_true rfl) (Nat.le_of_ble_eq_true rfl) (Nat.le_of_ble_eq_true rfl) ?_
      intro v299 T299 V299 h299 S299 C299 q299
      obtain ⟨rfl, rfl⟩ := q299
      show Go p e below _ (T299.setTop (mkF m 112 #[.val (.int k_), .val (.int o_), .val (.int b_), .val (.int dk_), .val (.int do_), .val (.int db_), .val (.ref a195), .val (.ref a197), .val (.ref a199), .val (.ref a201), .val (.ref a203), .val (.ref a205), .val (.ref b207), .val (.ref b228), .val (.int md246), .unset] [(.int (0 : Int32))]))
      refine s_ifN S299 (hb hby at_112) (by decide) (pc' := 115) rfl ?_
      refine s_iconst S299 (hb hby at_115) (v := (1 : Int32)) rfl (pc' := 116) rfl ?_
      refine s_goto S299 (hb hby at_116) (by decide) (pcT := 120) (by decide) ?_
      exact g_iretN S299 (hb hby at_120) hret (by simp) ⟨rfl, trivial⟩
  · have hc81_247 : md246 = (2 : Int32) := icF_ne q
    show Go p e below _ (T245.setTop (mkF m 84 #[.val (.int k_), .val (.int o_), .val (.int b_), .val (.int dk_), .val (.int do_), .val (.int db_), .val (.ref a195), .val (.ref a197), .val (.ref a199), .val (.ref a201), .val (.ref a203), .val (.ref a205), .val (.ref b207), .val (.ref b228), .val (.int md246), .unset] []))
    refine s_aload S245 (hb hby at_84) rfl rfl (pc' := 86) rfl ?_
    refine s_null S245 (hb hby at_86) (pc' := 87) rfl ?_
    have X300 : Ext h227 h245 := ext_keep1 E228 Ko232 fr228
    have Ao301 := Ao211.ext X300
    have Fko302 := Fko211.ext X300
    have Foo303 := Foo211.ext X300
    have Fbo304 := Fbo211.ext X300
    have F305 := Fa217.keep Ko211 A207 (by decide) (w41 hw)
    have F306 := F305.ext E228
    have F307 := F306.keep Ko232 A228 (by decide) (w41 hw)
    have F308 := Fa222.keep Ko211 A207 (by decide) (w41 hw)
    have F309 := F308.ext E228
    have F310 := F309.keep Ko232 A228 (by decide) (w41 hw)
    have F311 := Fa226.keep Ko211 A207 (by decide) (w41 hw)
    have F312 := F311.ext E228
    have F313 := F312.keep Ko232 A228 (by decide) (w41 hw)
    show Go p e below _ (T245.setTop (mkF m 87 #[.val (.int k_), .val (.int o_), .val (.int b_), .val (.int dk_), .val (.int do_), .val (.int db_), .val (.ref a195), .val (.ref a197), .val (.ref a199), .val (.ref a201), .val (.ref a203), .val (.ref a205), .val (.ref b207), .val (.ref b228), .val (.int md246), .unset] [.null, (.ref b207)]))
    refine g_virtual S245 (rmEN X S245.old Ao301 Fko302 Foo303 Fbo304 F307 F310 F313) (fun _ q => nomatch q) (w96 hw) (w97 hw) (w99 hw) (w98 hw) (w42 hw) (w100 hw) (by decide) (fun _ h => notFace_of_selects h) (hb hby at_87) (by rw [hml]; rfl) b207 Ao301 [.null] (lenOf pd10 rfl) rfl rfl (Nat.le_of_ble_eq_true rfl) (Nat.le_of_ble_eq_true rfl) (Nat.le_of_ble_eq_true rfl) (Nat.le_of_ble_eq_true rfl) ?_
    intro v314 T314 V314 h314 S314 C314 q314
    obtain ⟨rfl, rfl⟩ := q314
    show Go p e below _ (T314.setTop (mkF m 90 #[.val (.int k_), .val (.int o_), .val (.int b_), .val (.int dk_), .val (.int do_), .val (.int db_), .val (.ref a195), .val (.ref a197), .val (.ref a199), .val (.ref a201), .val (.ref a203), .val (.ref a205), .val (.ref b207), .val (.ref b228), .val (.int md246), .unset] [(.int (0 : Int32))]))
    refine s_ifN S314 (hb hby at_90) (by decide) (pc' := 93) rfl ?_
    refine s_iconst S314 (hb hby at_93) (v := (1 : Int32)) rfl (pc' := 94) rfl ?_
    refine s_goto S314 (hb hby at_94) (by decide) (pcT := 98) (by decide) ?_
    exact g_iretN S314 (hb hby at_98) hret (by simp) ⟨rfl, trivial⟩
set_option maxRecDepth 65536 in
set_option maxHeartbeats 40000000 in
theorem comes_1 {Post : Tables → Env → Array Value → State → Outcome → State → Prop} (hpost : ∀ tb e args s v u, (limb_1_1.after args s (.returned v) u = true ∧ limb_1_2.after args s (.returned v) u = true) → FramedW s (.returned v) u (Jvm.fieldLocs frame_1_writes args s ++ Jvm.arrayLocs frame_1_arrays args s ++ Jvm.staticLocs frame_1_statics s) 56 4352 → Post tb e args s (.returned v) u) :
    ArmFor flags0 classFile x code maxLocals ret World_1 tables_1 room_1 Calls_1 rest_1 Pre_1 Post := by
  intro l hfl _ _ p e ha hc hk s m args below hf hA hF happ hP
  obtain ⟨hcalls, hrest, hpre⟩ := hP
  obtain ⟨-, -, -, hnamed, -, -, -, hat⟩ := (Spec.applies_iff hf).mp happ
  obtain ⟨hg, hn⟩ := and_e (Cond.before_iff.mp (show (Jvm.Cond.and given_1 narrow_1).before args s = true from hpre))
  obtain ⟨hcount, hgiven⟩ := and_e hg
  obtain ⟨hg0, hr0⟩ := and_e hgiven
  obtain ⟨hg1, hr1⟩ := and_e hr0
  obtain ⟨hg2, hr2⟩ := and_e hr1
  obtain ⟨hg3, hr3⟩ := and_e hr2
  obtain ⟨hg4, hr4⟩ := and_e hr3
  obtain ⟨wa, wb, wc, wd, we, wf, rfl⟩ : ∃ wa wb wc wd we wf : Value, args = #[wa, wb, wc, wd, we, wf] := by
    have hs : args.size = 6 := by simpa [Cond.value, given_1] using hcount
    obtain ⟨L⟩ := args
    match L, hs with
    | [wa, wb, wc, wd, we, wf], _ => exact ⟨wa, wb, wc, wd, we, wf, rfl⟩
  have hw : HW _ s := fun d (hd : d ∈ tables_1) => atoms_spec (ws := Jvm.Cond.code x code maxLocals ret :: tables_1) hat d (List.mem_cons_of_mem _ hd)
  obtain ⟨hsets, hown0⟩ := atoms_of _ (rest_1_c_eq ▸ (show rest_1_c.before _ s = true from hrest))
  obtain ⟨i0, ei0⟩ := is_v hg0
  obtain rfl : wa = (.int i0) := Option.some.inj ei0
  obtain ⟨i1, ei1⟩ := is_v hg1
  obtain rfl : wb = (.int i1) := Option.some.inj ei1
  obtain ⟨i2, ei2⟩ := is_v hg2
  obtain rfl : wc = (.int i2) := Option.some.inj ei2
  obtain ⟨i3, ei3⟩ := is_v hg3
  obtain rfl : wd = (.int i3) := Option.some.inj ei3
  obtain ⟨i4, ei4⟩ := is_v hg4
  obtain rfl : we = (.int i4) := Option.some.inj ei4
  obtain ⟨i5, ei5⟩ := is_v hr4
  obtain rfl : wf = (.int i5) := Option.some.inj ei5
  obtain ⟨z1, ez1⟩ := is_v (Cond.before_iff.mp (hsets _ (List.mem_of_getElem? (i := 1) rfl)))
  have Sz1 : Sta s s.heap "java/lang/String" "COMPACT_STRINGS" "Z" (.int z1) := Sta.start ez1 (Or.inl (hsets _ (List.mem_of_getElem? (i := 0) rfl)))
  obtain ⟨v2, ev2, rv2⟩ := isR_v (Cond.before_iff.mp (hsets _ (List.mem_of_getElem? (i := 8) rfl)))
  have Sv2 : Sta s s.heap "jdk/internal/util/Preconditions" "SIOOBE_FORMATTER" "Ljava/util/function/BiFunction;" v2 := Sta.start ev2 (Or.inl (hsets _ (List.mem_of_getElem? (i := 7) rfl)))
  have cz1 : ¬ (z1 = (0 : Int32)) := gotF (Cond.eq_ints ez1 (Term.int_eval (0))) (not_v (Cond.before_iff.mp (hsets _ (List.mem_of_getElem? (i := 2) rfl))))
  have hEW : EW s _ EL1 := (EW.cons (hw _ (List.mem_of_getElem? (i := 18) rfl)) (by decide +kernel) EW.nil)
  have hCH : CHv s EL1 s.vm s.heap := CHv.start hEW (fun q hq => hcalls.1 q ((by decide : ∀ q ∈ EL1, q ∈ consts_1) q hq)) (hsets _ (List.mem_of_getElem? (i := 2) rfl)) (w19 hw) (w5 hw)
  have X : Ctx s _ := ⟨hw, hEW, ⟨z1, Sz1, cz1⟩, v2, Sv2, rv2⟩
  obtain ⟨n, o, h1, h2, h3, v, L, rfl, ⟨⟨rfl, -⟩, N, -⟩, -, hq⟩ := rmL (l := l) X i0 i1 i2 i3 i4 i5 (Old.start s) tables_1 p e ha hc hk s m _ below hf ((Spec.applies_iff_loose hf).mp happ).1 ⟨rfl, State.Warmed39.refl s, rfl, hCH, fun _ q => nomatch q⟩ trivial
  refine ⟨n, _, h1, h2, h3, hpost _ _ _ _ _ _ ⟨Cond.after_iff.mpr rfl, Cond.after_iff.mpr (eq_i res_at (Term.int_eval (1)) rfl)⟩ ⟨hq.1, hq.2.1, hq.2.2.1, (hq.2.2.2.sift fun y hy => Or.inr (N y hy)).mono (by decide) (by decide)⟩⟩
theorem main_1_1 : Claimed_1_1 := comes_1 fun _ _ _ _ _ _ h hF => ⟨h.1, hF⟩
theorem main_1_2 : Claimed_1_2 := comes_1 fun _ _ _ _ _ _ h hF => ⟨h.2, hF⟩
end Jvm.Pilot.@@N@@
namespace Jvm.Pilot.@@N@@
open Jvm Jvm.ClassFile Sem Op Lib Jvm.Free Jvm.Stand Jvm.Pilot.@@N@@.Jvm.D
/-! MADE BY PROGRAM (witnessworld.py) out of the Statement's table words and the real class files: 21 classes; the members and pool entries that the words name. The judged class is class 1, her method 4. -/
namespace start1
open Jvm.ClassFile
def u (s : String) : CpInfo := .utf8 (stringToUtf16 s)
/-- a pool by its gaps: so many unusable entries, then the entry; so many at the end -/
def gap : Nat → List CpInfo → List CpInfo
  | 0, r => r
  | n + 1, r => .unusable :: gap n r
def poolList (es : List (Nat × CpInfo)) (last : Nat) : List CpInfo := es.foldr (fun e r => gap e.1 (e.2 :: r)) (gap last [])
def pool (es : List (Nat × CpInfo)) (last : Nat) : Array CpInfo := ⟨poolList es last⟩
def fileOf (pool : Array CpInfo) (this : Nat) (attrs : Array Attribute := #[]) (ms : Array MethodInfo := #[]) (fl : Nat := 33) (sup : Nat := 0) (ifs : Array Nat := #[]) (fds : Array FieldInfo := #[]) : ClassFile where
  minorVersion := 0
  majorVersion := 65
  constantPool := pool
  accessFlags := fl
  thisClass := this
  superClass := sup
  interfaces := ifs
  fields := fds
  methods := ms
  attributes := attrs
def plain (name : String) (sup : Option ClassId) : Class where
  name := name
  kind := .ordinary
  loader := none
  accessFlags := 33
  super := sup
  interfaces := #[]
  cf := none
  fields := #[]
  methods := #[]
  instanceTypes := #[]
  staticTypes := #[]
  resolved := #[]
  callSites := []
  init := .initialized
  statics := none
  mirror := none

def pool0 : Array CpInfo := pool [(5, u "<init>"), (0, u "()V"), (1, .class_ 10), (1, u "java/lang/Object")] 113

def k0c0 : Code := { maxStack := 0, maxLocals := 1, code := object_method_1_code, exceptionTable := #[], attributes := #[] }
def k0m0 : Method := { name := "<init>", desc := "()V", sig := { parameters := [], returnType := none }, accessFlags := 1, code := some k0c0 }
/-- java/lang/Object -/
def k0 : Class := { plain "java/lang/Object" none with
  accessFlags := 33
  interfaces := #[]
  cf := some (fileOf pool0 8 #[] #[{ accessFlags := 1, nameIndex := 5, descriptorIndex := 6, attributes := #[] }] 33 0 #[] #[])
  fields := #[]
  methods := #[k0m0]
  instanceTypes := #[]
  staticTypes := #[]
  resolved := Array.replicate 124 none
  statics := none }

def pool1 : Array CpInfo := pool [(2, .class_ 4), (1, u "java/lang/Object"), (0, u "<init>"), (0, u "()V"), (0, .class_ 8), (0, u "java/lang/String"), (0, .methodref 7 10), (0, .nameAndType 5 11), (0, u "([C)V"), (0, .methodref 7 13), (0, .nameAndType 14 15), (0, u "valueOf"), (0, u "(C)Ljava/lang/String;"), (0, .methodref 17 18), (0, .class_ 19), (0, .nameAndType 20 21), (0, u "com/example/wachter/wachter/decision/AccessEqualsPinLaw"), (0, u "str"), (0, u "(I)Ljava/lang/String;"), (0, .methodref 7 23), (0, .nameAndType 24 25), (0, u "length"), (0, u "()I"), (0, .methodref 7 27), (0, .nameAndType 28 29), (0, u "charAt"), (0, u "(I)C"), (0, .methodref 17 31), (0, .nameAndType 32 33), (0, u "pick"), (0, u "(II)Ljava/lang/String;"), (0, .class_ 35), (0, u "com/example/wachter/wachter/decision/Access"), (0, .methodref 34 37), (0, .nameAndType 5 38), (0, u "(Ljava/lang/String;Ljava/lang/String;Ljava/lang/String;)V"), (0, .methodref 34 40), (0, .nameAndType 41 42), (0, u "equals"), (0, u "(Ljava/lang/Object;)Z"), (0, .methodref 17 44), (0, .nameAndType 45 46), (0, u "same"), (0, u "(Ljava/lang/String;Ljava/lang/String;)Z"), (3, u "law"), (0, u "(IIIIII)Z")] 2

def k1m0 : Method := { name := "<init>", desc := "()V", sig := { parameters := [], returnType := none }, accessFlags := 1, code := none }
def k1c1 : Code := { maxStack := 6, maxLocals := 5, code := method_2_code, exceptionTable := #[], attributes := #[] }
def k1m1 : Method := { name := "str", desc := "(I)Ljava/lang/String;", sig := { parameters := [.int], returnType := some (.object "java/lang/String") }, accessFlags := 10, code := some k1c1 }
def k1c2 : Code := { maxStack := 2, maxLocals := 2, code := method_3_code, exceptionTable := #[], attributes := #[] }
def k1m2 : Method := { name := "pick", desc := "(II)Ljava/lang/String;", sig := { parameters := [.int, .int], returnType := some (.object "java/lang/String") }, accessFlags := 10, code := some k1c2 }
def k1c3 : Code := { maxStack := 3, maxLocals := 3, code := method_4_code, exceptionTable := #[], attributes := #[] }
def k1m3 : Method := { name := "same", desc := "(Ljava/lang/String;Ljava/lang/String;)Z", sig := { parameters := [(.object "java/lang/String"), (.object "java/lang/String")], returnType := some .boolean }, accessFlags := 10, code := some k1c3 }
def k1c4 : Code := { maxStack := 5, maxLocals := 16, code := code, exceptionTable := #[], attributes := #[] }
def k1m4 : Method := { name := "law", desc := "(IIIIII)Z", sig := { parameters := [.int, .int, .int, .int, .int, .int], returnType := some .boolean }, accessFlags := 9, code := some k1c4 }
/-- com/example/wachter/wachter/decision/AccessEqualsPinLaw -/
def k1 : Class := { plain "com/example/wachter/wachter/decision/AccessEqualsPinLaw" (some 0) with
  accessFlags := 49
  interfaces := #[]
  cf := some (fileOf pool1 17 #[] #[{ accessFlags := 1, nameIndex := 5, descriptorIndex := 6, attributes := #[] }, { accessFlags := 10, nameIndex := 20, descriptorIndex := 21, attributes := #[] }, { accessFlags := 10, nameIndex := 32, descriptorIndex := 33, attributes := #[] }, { accessFlags := 10, nameIndex := 45, descriptorIndex := 46, attributes := #[] }, { accessFlags := 9, nameIndex := 50, descriptorIndex := 51, attributes := #[] }] 49 2 #[] #[])
  fields := #[]
  methods := #[k1m0, k1m1, k1m2, k1m3, k1m4]
  instanceTypes := #[]
  staticTypes := #[]
  resolved := Array.replicate 54 none
  statics := none }

def pool2 : Array CpInfo := pool [(1, .class_ 2), (0, u "java/io/Serializable"), (0, .class_ 4), (0, u "java/lang/Object")] 2

/-- java/io/Serializable -/
def k2 : Class := { plain "java/io/Serializable" (some 0) with
  accessFlags := 1537
  interfaces := #[]
  cf := some (fileOf pool2 1 #[] #[] 1537 3 #[] #[])
  fields := #[]
  methods := #[]
  instanceTypes := #[]
  staticTypes := #[]
  resolved := Array.replicate 7 none
  statics := none }

def pool3 : Array CpInfo := pool [(1, .class_ 2), (0, u "java/lang/Comparable"), (0, .class_ 4), (0, u "java/lang/Object")] 7

/-- java/lang/Comparable -/
def k3 : Class := { plain "java/lang/Comparable" (some 0) with
  accessFlags := 1537
  interfaces := #[]
  cf := some (fileOf pool3 1 #[] #[] 1537 3 #[] #[])
  fields := #[]
  methods := #[]
  instanceTypes := #[]
  staticTypes := #[]
  resolved := Array.replicate 12 none
  statics := none }

def pool4 : Array CpInfo := pool [(2, .class_ 4), (1, u "java/lang/CharSequence"), (42, .class_ 48), (0, u "java/lang/CharSequence$1CodePointIterator"), (10, .class_ 60), (0, u "java/lang/CharSequence$1CharIterator"), (5, .class_ 67), (0, u "java/lang/Object")] 63

/-- java/lang/CharSequence -/
def k4 : Class := { plain "java/lang/CharSequence" (some 0) with
  accessFlags := 1537
  interfaces := #[]
  cf := some (fileOf pool4 2 #[.nestMembers #[47, 59]] #[] 1537 66 #[] #[])
  fields := #[]
  methods := #[]
  instanceTypes := #[]
  staticTypes := #[]
  resolved := Array.replicate 131 none
  statics := none }

def pool5 : Array CpInfo := pool [(1, .class_ 2), (0, u "java/lang/constant/Constable"), (0, .class_ 4), (0, u "java/lang/Object")] 6

/-- java/lang/constant/Constable -/
def k5 : Class := { plain "java/lang/constant/Constable" (some 0) with
  accessFlags := 1537
  interfaces := #[]
  cf := some (fileOf pool5 1 #[] #[] 1537 3 #[] #[])
  fields := #[]
  methods := #[]
  instanceTypes := #[]
  staticTypes := #[]
  resolved := Array.replicate 11 none
  statics := none }

def pool6 : Array CpInfo := pool [(1, .class_ 2), (0, u "java/lang/constant/ConstantDesc"), (0, .class_ 4), (0, u "java/lang/Object")] 32

/-- java/lang/constant/ConstantDesc -/
def k6 : Class := { plain "java/lang/constant/ConstantDesc" (some 0) with
  accessFlags := 1537
  interfaces := #[]
  cf := some (fileOf pool6 1 #[] #[] 1537 3 #[] #[])
  fields := #[]
  methods := #[]
  instanceTypes := #[]
  staticTypes := #[]
  resolved := Array.replicate 37 none
  statics := none }

def pool7 : Array CpInfo := pool [(1, .methodref 2 3), (0, .class_ 4), (0, .nameAndType 5 6), (0, u "java/lang/Object"), (0, u "<init>"), (0, u "()V"), (0, .string 8), (0, u ""), (0, .fieldref 10 11), (0, .class_ 12), (0, .nameAndType 13 14), (0, u "java/lang/String"), (0, u "value"), (0, u "[B"), (0, .fieldref 10 16), (0, .nameAndType 17 18), (0, u "coder"), (0, u "B"), (2, u "hash"), (0, u "I"), (2, u "hashIsZero"), (0, u "Z"), (0, .methodref 10 28), (0, .nameAndType 5 29), (0, u "([CIILjava/lang/Void;)V"), (8, .fieldref 10 39), (0, .nameAndType 40 26), (0, u "COMPACT_STRINGS"), (1, .class_ 44), (1, u "java/lang/StringUTF16"), (0, u "compress"), (1, .methodref 42 48), (0, .nameAndType 49 50), (0, u "coderFromArrayLen"), (0, u "([BI)B"), (2, u "toBytes"), (53, .class_ 109), (1, u "java/lang/StringLatin1"), (32, u "()Z"), (34, .methodref 42 178), (0, .nameAndType 45 179), (0, u "([CII)[B"), (29, .methodref 10 210), (0, .nameAndType 5 211), (0, u "([BB)V"), (122, u "()I"), (0, .methodref 10 336), (0, .nameAndType 17 337), (0, u "()B"), (25, u "([BI)C"), (5, u "(C)Z"), (21, u "(II)V"), (35, u "(I)C"), (64, .methodref 10 493), (0, .nameAndType 494 142), (0, u "isLatin1"), (0, .methodref 107 496), (0, .nameAndType 497 363), (0, u "charAt"), (3, u "checkIndex"), (5, u "length"), (33, .methodref 107 542), (0, .nameAndType 543 544), (0, u "equals"), (0, u "([B[B)Z"), (28, u "(Ljava/lang/Object;)Z"), (1, .class_ 576), (0, u "java/lang/CharSequence"), (22, u "CASE_INSENSITIVE_ORDER"), (0, u "Ljava/util/Comparator;"), (181, u "valueOf"), (0, u "(C)Ljava/lang/String;"), (226, u "([C)V"), (4, .methodref 107 1016), (0, .nameAndType 1017 369), (0, u "canEncode"), (0, .methodref 107 1019), (0, .nameAndType 53 1020), (0, u "(C)[B"), (32, .fieldref 1054 1055), (0, .class_ 1056), (0, .nameAndType 1057 1058), (0, u "jdk/internal/util/Preconditions"), (0, u "SIOOBE_FORMATTER"), (0, u "Ljava/util/function/BiFunction;"), (0, .methodref 1054 1060), (0, .nameAndType 501 1061), (0, u "(IILjava/util/function/BiFunction;)I"), (39, u "serialPersistentFields"), (0, u "[Ljava/io/ObjectStreamField;"), (0, .class_ 1104), (0, u "java/lang/String$CaseInsensitiveComparator"), (1, .class_ 1107), (0, u "java/io/Serializable"), (0, .class_ 1109), (0, u "java/lang/Comparable"), (0, .class_ 1111), (0, u "java/lang/constant/Constable"), (0, .class_ 1113), (0, u "java/lang/constant/ConstantDesc"), (2, u "serialVersionUID"), (0, u "J"), (3, u "REPL"), (0, u "C"), (2, u "LATIN1"), (1, u "UTF16")] 323

def k7m0 : Method := { name := "<init>", desc := "()V", sig := { parameters := [], returnType := none }, accessFlags := 1, code := none }
def k7c1 : Code := { maxStack := 5, maxLocals := 2, code := jdk_42_method_3_code, exceptionTable := #[], attributes := #[] }
def k7m1 : Method := { name := "<init>", desc := "([C)V", sig := { parameters := [(.array .char)], returnType := none }, accessFlags := 1, code := some k7c1 }
def k7c2 : Code := { maxStack := 2, maxLocals := 1, code := jdk_42_method_54_code, exceptionTable := #[], attributes := #[] }
def k7m2 : Method := { name := "length", desc := "()I", sig := { parameters := [], returnType := some .int }, accessFlags := 1, code := some k7c2 }
def k7c3 : Code := { maxStack := 2, maxLocals := 2, code := jdk_42_method_56_code, exceptionTable := #[], attributes := #[] }
def k7m3 : Method := { name := "charAt", desc := "(I)C", sig := { parameters := [.int], returnType := some .char }, accessFlags := 1, code := some k7c3 }
def k7c4 : Code := { maxStack := 2, maxLocals := 3, code := jdk_42_method_66_code, exceptionTable := #[], attributes := #[] }
def k7m4 : Method := { name := "equals", desc := "(Ljava/lang/Object;)Z", sig := { parameters := [(.object "java/lang/Object")], returnType := some .boolean }, accessFlags := 1, code := some k7c4 }
def k7c5 : Code := { maxStack := 4, maxLocals := 1, code := jdk_42_method_139_code, exceptionTable := #[], attributes := #[] }
def k7m5 : Method := { name := "valueOf", desc := "(C)Ljava/lang/String;", sig := { parameters := [.char], returnType := some (.object "java/lang/String") }, accessFlags := 9, code := some k7c5 }
def k7c6 : Code := { maxStack := 4, maxLocals := 6, code := jdk_42_method_149_code, exceptionTable := #[], attributes := #[] }
def k7m6 : Method := { name := "<init>", desc := "([CIILjava/lang/Void;)V", sig := { parameters := [(.array .char), .int, .int, (.object "java/lang/Void")], returnType := none }, accessFlags := 2, code := some k7c6 }
def k7c7 : Code := { maxStack := 2, maxLocals := 3, code := jdk_42_method_151_code, exceptionTable := #[], attributes := #[] }
def k7m7 : Method := { name := "<init>", desc := "([BB)V", sig := { parameters := [(.array .byte), .byte], returnType := none }, accessFlags := 0, code := some k7c7 }
def k7c8 : Code := { maxStack := 1, maxLocals := 1, code := jdk_42_method_152_code, exceptionTable := #[], attributes := #[] }
def k7m8 : Method := { name := "coder", desc := "()B", sig := { parameters := [], returnType := some .byte }, accessFlags := 0, code := some k7c8 }
def k7c9 : Code := { maxStack := 1, maxLocals := 1, code := jdk_42_method_154_code, exceptionTable := #[], attributes := #[] }
def k7m9 : Method := { name := "isLatin1", desc := "()Z", sig := { parameters := [], returnType := some .boolean }, accessFlags := 0, code := some k7c9 }
def k7c10 : Code := { maxStack := 3, maxLocals := 2, code := jdk_42_method_155_code, exceptionTable := #[], attributes := #[] }
def k7m10 : Method := { name := "checkIndex", desc := "(II)V", sig := { parameters := [.int, .int], returnType := none }, accessFlags := 8, code := some k7c10 }
/-- java/lang/String -/
def k7 : Class := { plain "java/lang/String" (some 0) with
  accessFlags := 49
  interfaces := #[2, 3, 4, 5, 6]
  cf := some (fileOf pool7 10 #[.nestMembers #[1103]] #[{ accessFlags := 1, nameIndex := 5, descriptorIndex := 6, attributes := #[] }, { accessFlags := 1, nameIndex := 5, descriptorIndex := 1010, attributes := #[] }, { accessFlags := 1, nameIndex := 507, descriptorIndex := 334, attributes := #[] }, { accessFlags := 1, nameIndex := 497, descriptorIndex := 427, attributes := #[] }, { accessFlags := 1, nameIndex := 543, descriptorIndex := 573, attributes := #[] }, { accessFlags := 9, nameIndex := 782, descriptorIndex := 783, attributes := #[] }, { accessFlags := 2, nameIndex := 5, descriptorIndex := 29, attributes := #[] }, { accessFlags := 0, nameIndex := 5, descriptorIndex := 211, attributes := #[] }, { accessFlags := 0, nameIndex := 17, descriptorIndex := 337, attributes := #[] }, { accessFlags := 0, nameIndex := 494, descriptorIndex := 142, attributes := #[] }, { accessFlags := 8, nameIndex := 501, descriptorIndex := 391, attributes := #[] }] 49 2 #[1106, 1108, 575, 1110, 1112] #[{ accessFlags := 18, nameIndex := 13, descriptorIndex := 14, attributes := #[] }, { accessFlags := 18, nameIndex := 17, descriptorIndex := 18, attributes := #[] }, { accessFlags := 2, nameIndex := 21, descriptorIndex := 22, attributes := #[] }, { accessFlags := 2, nameIndex := 25, descriptorIndex := 26, attributes := #[] }, { accessFlags := 26, nameIndex := 1116, descriptorIndex := 1117, attributes := #[] }, { accessFlags := 24, nameIndex := 40, descriptorIndex := 26, attributes := #[] }, { accessFlags := 26, nameIndex := 1101, descriptorIndex := 1102, attributes := #[] }, { accessFlags := 26, nameIndex := 1121, descriptorIndex := 1122, attributes := #[] }, { accessFlags := 25, nameIndex := 599, descriptorIndex := 600, attributes := #[] }, { accessFlags := 24, nameIndex := 1125, descriptorIndex := 18, attributes := #[] }, { accessFlags := 24, nameIndex := 1127, descriptorIndex := 18, attributes := #[] }])
  fields := #[{ name := "value", type := (.array .byte), accessFlags := 18, slot := 0, constantValue := 0 }, { name := "coder", type := .byte, accessFlags := 18, slot := 1, constantValue := 0 }, { name := "hash", type := .int, accessFlags := 2, slot := 2, constantValue := 0 }, { name := "hashIsZero", type := .boolean, accessFlags := 2, slot := 3, constantValue := 0 }, { name := "serialVersionUID", type := .long, accessFlags := 26, slot := 0, constantValue := 0 }, { name := "COMPACT_STRINGS", type := .boolean, accessFlags := 24, slot := 1, constantValue := 0 }, { name := "serialPersistentFields", type := (.array (.object "java/io/ObjectStreamField")), accessFlags := 26, slot := 2, constantValue := 0 }, { name := "REPL", type := .char, accessFlags := 26, slot := 3, constantValue := 0 }, { name := "CASE_INSENSITIVE_ORDER", type := (.object "java/util/Comparator"), accessFlags := 25, slot := 4, constantValue := 0 }, { name := "LATIN1", type := .byte, accessFlags := 24, slot := 5, constantValue := 0 }, { name := "UTF16", type := .byte, accessFlags := 24, slot := 6, constantValue := 0 }]
  methods := #[k7m0, k7m1, k7m2, k7m3, k7m4, k7m5, k7m6, k7m7, k7m8, k7m9, k7m10]
  instanceTypes := #[(.array .byte), .byte, .int, .boolean]
  staticTypes := #[.long, .boolean, (.array (.object "java/io/ObjectStreamField")), .char, (.object "java/util/Comparator"), .byte, .byte]
  resolved := Array.replicate 1451 none
  statics := some 0 }

def pool8 : Array CpInfo := pool [(6, .class_ 8), (1, u "java/lang/Object"), (0, u "<init>"), (0, u "()V"), (1, .class_ 14), (1, u "java/lang/StringUTF16"), (31, u "$assertionsDisabled"), (0, u "Z"), (13, u "HI_BYTE_SHIFT"), (0, u "I"), (2, u "LO_BYTE_SHIFT"), (49, .methodref 12 116), (0, .nameAndType 117 118), (0, u "compress"), (0, u "([CI[BII)I"), (3, u "([CII)[B"), (138, u "coderFromArrayLen"), (0, u "([BI)B"), (106, .class_ 371), (1, u "java/lang/StringUTF16$LinesSpliterator"), (58, u "MAX_LENGTH"), (196, .class_ 628), (0, u "java/lang/StringUTF16$CodePointsSpliterator"), (0, .class_ 630), (0, u "java/lang/StringUTF16$CharsSpliterator")] 4

def k8m0 : Method := { name := "<init>", desc := "()V", sig := { parameters := [], returnType := none }, accessFlags := 0, code := none }
def k8c1 : Code := { maxStack := 2, maxLocals := 2, code := jdk_52_method_15_code, exceptionTable := #[], attributes := #[] }
def k8m1 : Method := { name := "coderFromArrayLen", desc := "([BI)B", sig := { parameters := [(.array .byte), .int], returnType := some .byte }, accessFlags := 8, code := some k8c1 }
def k8c2 : Code := { maxStack := 5, maxLocals := 6, code := jdk_52_method_16_code, exceptionTable := #[], attributes := #[] }
def k8m2 : Method := { name := "compress", desc := "([CII)[B", sig := { parameters := [(.array .char), .int, .int], returnType := some (.array .byte) }, accessFlags := 9, code := some k8c2 }
def k8c3 : Code := { maxStack := 3, maxLocals := 7, code := jdk_52_method_21_code, exceptionTable := #[], attributes := #[] }
def k8m3 : Method := { name := "compress", desc := "([CI[BII)I", sig := { parameters := [(.array .char), .int, (.array .byte), .int, .int], returnType := some .int }, accessFlags := 9, code := some k8c3 }
/-- java/lang/StringUTF16 -/
def k8 : Class := { plain "java/lang/StringUTF16" (some 0) with
  accessFlags := 48
  interfaces := #[]
  cf := some (fileOf pool8 12 #[.nestMembers #[627, 629, 369]] #[{ accessFlags := 0, nameIndex := 9, descriptorIndex := 10, attributes := #[] }, { accessFlags := 8, nameIndex := 261, descriptorIndex := 262, attributes := #[] }, { accessFlags := 9, nameIndex := 117, descriptorIndex := 122, attributes := #[] }, { accessFlags := 9, nameIndex := 117, descriptorIndex := 118, attributes := #[] }] 48 6 #[] #[{ accessFlags := 26, nameIndex := 61, descriptorIndex := 62, attributes := #[] }, { accessFlags := 26, nameIndex := 65, descriptorIndex := 62, attributes := #[] }, { accessFlags := 24, nameIndex := 430, descriptorIndex := 62, attributes := #[] }, { accessFlags := 4120, nameIndex := 46, descriptorIndex := 47, attributes := #[] }])
  fields := #[{ name := "HI_BYTE_SHIFT", type := .int, accessFlags := 26, slot := 0, constantValue := 0 }, { name := "LO_BYTE_SHIFT", type := .int, accessFlags := 26, slot := 1, constantValue := 0 }, { name := "MAX_LENGTH", type := .int, accessFlags := 24, slot := 2, constantValue := 0 }, { name := "$assertionsDisabled", type := .boolean, accessFlags := 4120, slot := 3, constantValue := 0 }]
  methods := #[k8m0, k8m1, k8m2, k8m3]
  instanceTypes := #[]
  staticTypes := #[.int, .int, .int, .boolean]
  resolved := Array.replicate 635 none
  statics := none }

def pool9 : Array CpInfo := pool [(1, .methodref 2 3), (0, .class_ 4), (0, .nameAndType 5 6), (0, u "java/lang/Object"), (0, u "<init>"), (0, u "()V"), (0, .string 8), (0, u "kind"), (0, .methodref 10 11), (0, .class_ 12), (0, .nameAndType 13 14), (0, u "java/util/Objects"), (0, u "requireNonNull"), (0, u "(Ljava/lang/Object;Ljava/lang/String;)Ljava/lang/Object;"), (0, .class_ 16), (0, u "java/lang/String"), (0, .fieldref 18 19), (0, .class_ 20), (0, .nameAndType 8 21), (0, u "com/example/wachter/wachter/decision/Access"), (0, u "Ljava/lang/String;"), (0, .string 23), (0, u "operation"), (0, .fieldref 18 25), (0, .nameAndType 23 21), (0, .string 27), (0, u "object"), (0, .fieldref 18 29), (0, .nameAndType 27 21), (0, .methodref 15 31), (0, .nameAndType 32 33), (0, u "equals"), (0, u "(Ljava/lang/Object;)Z"), (14, u "(Ljava/lang/String;Ljava/lang/String;Ljava/lang/String;)V")] 24

def k9c0 : Code := { maxStack := 3, maxLocals := 4, code := prog_1_method_1_code, exceptionTable := #[], attributes := #[] }
def k9m0 : Method := { name := "<init>", desc := "(Ljava/lang/String;Ljava/lang/String;Ljava/lang/String;)V", sig := { parameters := [(.object "java/lang/String"), (.object "java/lang/String"), (.object "java/lang/String")], returnType := none }, accessFlags := 1, code := some k9c0 }
def k9c1 : Code := { maxStack := 2, maxLocals := 3, code := prog_1_method_5_code, exceptionTable := #[], attributes := #[] }
def k9m1 : Method := { name := "equals", desc := "(Ljava/lang/Object;)Z", sig := { parameters := [(.object "java/lang/Object")], returnType := some .boolean }, accessFlags := 1, code := some k9c1 }
/-- com/example/wachter/wachter/decision/Access -/
def k9 : Class := { plain "com/example/wachter/wachter/decision/Access" (some 0) with
  accessFlags := 49
  interfaces := #[]
  cf := some (fileOf pool9 18 #[] #[{ accessFlags := 1, nameIndex := 5, descriptorIndex := 48, attributes := #[] }, { accessFlags := 1, nameIndex := 32, descriptorIndex := 33, attributes := #[] }] 49 2 #[] #[{ accessFlags := 18, nameIndex := 8, descriptorIndex := 21, attributes := #[] }, { accessFlags := 18, nameIndex := 23, descriptorIndex := 21, attributes := #[] }, { accessFlags := 18, nameIndex := 27, descriptorIndex := 21, attributes := #[] }])
  fields := #[{ name := "kind", type := (.object "java/lang/String"), accessFlags := 18, slot := 0, constantValue := 0 }, { name := "operation", type := (.object "java/lang/String"), accessFlags := 18, slot := 1, constantValue := 0 }, { name := "object", type := (.object "java/lang/String"), accessFlags := 18, slot := 2, constantValue := 0 }]
  methods := #[k9m0, k9m1]
  instanceTypes := #[(.object "java/lang/String"), (.object "java/lang/String"), (.object "java/lang/String")]
  staticTypes := #[]
  resolved := Array.replicate 73 none
  statics := none }

def pool10 : Array CpInfo := pool [(2, .class_ 4), (1, u "java/lang/Object"), (0, u "<init>"), (0, u "()V"), (35, .class_ 44), (1, u "java/util/Objects"), (0, u "requireNonNull"), (48, u "(Ljava/lang/Object;Ljava/lang/String;)Ljava/lang/Object;")] 89

def k10m0 : Method := { name := "<init>", desc := "()V", sig := { parameters := [], returnType := none }, accessFlags := 2, code := none }
def k10c1 : Code := { maxStack := 3, maxLocals := 2, code := jdk_31_method_11_code, exceptionTable := #[], attributes := #[] }
def k10m1 : Method := { name := "requireNonNull", desc := "(Ljava/lang/Object;Ljava/lang/String;)Ljava/lang/Object;", sig := { parameters := [(.object "java/lang/Object"), (.object "java/lang/String")], returnType := some (.object "java/lang/Object") }, accessFlags := 9, code := some k10c1 }
/-- java/util/Objects -/
def k10 : Class := { plain "java/util/Objects" (some 0) with
  accessFlags := 49
  interfaces := #[]
  cf := some (fileOf pool10 42 #[] #[{ accessFlags := 2, nameIndex := 5, descriptorIndex := 6, attributes := #[] }, { accessFlags := 9, nameIndex := 45, descriptorIndex := 94, attributes := #[] }] 49 2 #[] #[])
  fields := #[]
  methods := #[k10m0, k10m1]
  instanceTypes := #[]
  staticTypes := #[]
  resolved := Array.replicate 184 none
  statics := none }

def pool11 : Array CpInfo := pool [(1, .class_ 2), (0, u "java/lang/String"), (1, .class_ 6), (1, u "java/lang/Object"), (0, u "<init>"), (0, u "()V"), (0, .methodref 1 10), (0, .nameAndType 11 12), (0, u "checkIndex"), (0, u "(II)V"), (1, .class_ 16), (1, u "java/lang/StringLatin1"), (36, u "([BI)C"), (36, u "canEncode"), (14, u "(C)Z"), (15, u "$assertionsDisabled"), (0, u "Z"), (98, .class_ 223), (1, u "java/lang/StringLatin1$LinesSpliterator"), (28, u "charAt"), (28, u "equals"), (0, u "([B[B)Z"), (97, u "toBytes"), (1, u "(C)[B"), (7, .class_ 391), (0, u "java/lang/StringLatin1$CharsSpliterator")] 3

def k11m0 : Method := { name := "<init>", desc := "()V", sig := { parameters := [], returnType := none }, accessFlags := 0, code := none }
def k11c1 : Code := { maxStack := 2, maxLocals := 2, code := jdk_43_method_2_code, exceptionTable := #[], attributes := #[] }
def k11m1 : Method := { name := "charAt", desc := "([BI)C", sig := { parameters := [(.array .byte), .int], returnType := some .char }, accessFlags := 9, code := some k11c1 }
def k11c2 : Code := { maxStack := 2, maxLocals := 1, code := jdk_43_method_3_code, exceptionTable := #[], attributes := #[] }
def k11m2 : Method := { name := "canEncode", desc := "(C)Z", sig := { parameters := [.char], returnType := some .boolean }, accessFlags := 9, code := some k11c2 }
def k11c3 : Code := { maxStack := 3, maxLocals := 3, code := jdk_43_method_13_code, exceptionTable := #[], attributes := #[] }
def k11m3 : Method := { name := "equals", desc := "([B[B)Z", sig := { parameters := [(.array .byte), (.array .byte)], returnType := some .boolean }, accessFlags := 9, code := some k11c3 }
def k11c4 : Code := { maxStack := 4, maxLocals := 1, code := jdk_43_method_46_code, exceptionTable := #[], attributes := #[] }
def k11m4 : Method := { name := "toBytes", desc := "(C)[B", sig := { parameters := [.char], returnType := some (.array .byte) }, accessFlags := 9, code := some k11c4 }
/-- java/lang/StringLatin1 -/
def k11 : Class := { plain "java/lang/StringLatin1" (some 0) with
  accessFlags := 48
  interfaces := #[]
  cf := some (fileOf pool11 14 #[.nestMembers #[390, 221]] #[{ accessFlags := 0, nameIndex := 7, descriptorIndex := 8, attributes := #[] }, { accessFlags := 9, nameIndex := 252, descriptorIndex := 53, attributes := #[] }, { accessFlags := 9, nameIndex := 90, descriptorIndex := 105, attributes := #[] }, { accessFlags := 9, nameIndex := 281, descriptorIndex := 282, attributes := #[] }, { accessFlags := 9, nameIndex := 380, descriptorIndex := 382, attributes := #[] }] 48 4 #[] #[{ accessFlags := 4120, nameIndex := 121, descriptorIndex := 122, attributes := #[] }])
  fields := #[{ name := "$assertionsDisabled", type := .boolean, accessFlags := 4120, slot := 0, constantValue := 0 }]
  methods := #[k11m0, k11m1, k11m2, k11m3, k11m4]
  instanceTypes := #[]
  staticTypes := #[.boolean]
  resolved := Array.replicate 395 none
  statics := none }

def pool12 : Array CpInfo := pool [(2, .class_ 4), (1, u "java/lang/Object"), (0, u "<init>"), (0, u "()V"), (17, .class_ 26), (1, u "jdk/internal/util/Preconditions"), (6, u "checkIndex"), (21, .class_ 56), (0, u "jdk/internal/util/Preconditions$4"), (57, .class_ 115), (0, u "jdk/internal/util/Preconditions$1"), (7, u "SIOOBE_FORMATTER"), (0, u "Ljava/util/function/BiFunction;"), (0, .class_ 126), (0, u "jdk/internal/util/Preconditions$2"), (3, u "AIOOBE_FORMATTER"), (0, .class_ 132), (0, u "jdk/internal/util/Preconditions$3"), (3, u "IOOBE_FORMATTER"), (41, u "(IILjava/util/function/BiFunction;)I")] 15

def k12m0 : Method := { name := "<init>", desc := "()V", sig := { parameters := [], returnType := none }, accessFlags := 1, code := none }
def k12c1 : Code := { maxStack := 3, maxLocals := 3, code := jdk_41_method_11_code, exceptionTable := #[], attributes := #[] }
def k12m1 : Method := { name := "checkIndex", desc := "(IILjava/util/function/BiFunction;)I", sig := { parameters := [.int, .int, (.object "java/util/function/BiFunction")], returnType := some .int }, accessFlags := 9, code := some k12c1 }
/-- jdk/internal/util/Preconditions -/
def k12 : Class := { plain "jdk/internal/util/Preconditions" (some 0) with
  accessFlags := 33
  interfaces := #[]
  cf := some (fileOf pool12 24 #[.nestMembers #[55, 131, 125, 114]] #[{ accessFlags := 1, nameIndex := 5, descriptorIndex := 6, attributes := #[] }, { accessFlags := 9, nameIndex := 33, descriptorIndex := 178, attributes := #[] }] 33 2 #[] #[{ accessFlags := 25, nameIndex := 123, descriptorIndex := 124, attributes := #[] }, { accessFlags := 25, nameIndex := 130, descriptorIndex := 124, attributes := #[] }, { accessFlags := 25, nameIndex := 136, descriptorIndex := 124, attributes := #[] }])
  fields := #[{ name := "SIOOBE_FORMATTER", type := (.object "java/util/function/BiFunction"), accessFlags := 25, slot := 0, constantValue := 0 }, { name := "AIOOBE_FORMATTER", type := (.object "java/util/function/BiFunction"), accessFlags := 25, slot := 1, constantValue := 0 }, { name := "IOOBE_FORMATTER", type := (.object "java/util/function/BiFunction"), accessFlags := 25, slot := 2, constantValue := 0 }]
  methods := #[k12m0, k12m1]
  instanceTypes := #[]
  staticTypes := #[(.object "java/util/function/BiFunction"), (.object "java/util/function/BiFunction"), (.object "java/util/function/BiFunction")]
  resolved := Array.replicate 194 none
  statics := some 1 }

def pool13 : Array CpInfo := pool [(9, u "<init>"), (6, .class_ 18), (1, u "java/lang/Object"), (0, u "()V"), (1, .class_ 23), (1, u "jdk/internal/util/ArraysSupport"), (0, u "LOG2_ARRAY_LONG_INDEX_SCALE"), (0, u "I"), (2, u "U"), (0, u "Ljdk/internal/misc/Unsafe;"), (8, u "BIG_ENDIAN"), (0, u "Z"), (8, u "LOG2_BYTE_BIT_SIZE"), (4, u "LOG2_ARRAY_INT_INDEX_SCALE"), (54, u "JLA"), (0, u "Ljdk/internal/access/JavaLangAccess;"), (11, u "LOG2_ARRAY_BOOLEAN_INDEX_SCALE"), (9, u "LOG2_ARRAY_BYTE_INDEX_SCALE"), (5, u "LOG2_ARRAY_CHAR_INDEX_SCALE"), (5, u "LOG2_ARRAY_SHORT_INDEX_SCALE"), (18, u "LOG2_ARRAY_FLOAT_INDEX_SCALE"), (24, u "LOG2_ARRAY_DOUBLE_INDEX_SCALE"), (89, u "T_BOOLEAN"), (2, u "T_CHAR"), (1, u "T_FLOAT"), (1, u "T_DOUBLE"), (1, u "T_BYTE"), (1, u "T_SHORT"), (1, u "T_INT"), (1, u "T_LONG"), (1, u "SOFT_MAX_ARRAY_LENGTH")] 83

def k13m0 : Method := { name := "<init>", desc := "()V", sig := { parameters := [], returnType := none }, accessFlags := 2, code := none }
/-- jdk/internal/util/ArraysSupport -/
def k13 : Class := { plain "jdk/internal/util/ArraysSupport" (some 0) with
  accessFlags := 33
  interfaces := #[]
  cf := some (fileOf pool13 21 #[] #[{ accessFlags := 2, nameIndex := 9, descriptorIndex := 19, attributes := #[] }] 33 16 #[] #[{ accessFlags := 24, nameIndex := 28, descriptorIndex := 29, attributes := #[] }, { accessFlags := 26, nameIndex := 38, descriptorIndex := 39, attributes := #[] }, { accessFlags := 25, nameIndex := 121, descriptorIndex := 25, attributes := #[] }, { accessFlags := 25, nameIndex := 131, descriptorIndex := 25, attributes := #[] }, { accessFlags := 25, nameIndex := 137, descriptorIndex := 25, attributes := #[] }, { accessFlags := 25, nameIndex := 143, descriptorIndex := 25, attributes := #[] }, { accessFlags := 25, nameIndex := 53, descriptorIndex := 25, attributes := #[] }, { accessFlags := 25, nameIndex := 24, descriptorIndex := 25, attributes := #[] }, { accessFlags := 25, nameIndex := 162, descriptorIndex := 25, attributes := #[] }, { accessFlags := 25, nameIndex := 187, descriptorIndex := 25, attributes := #[] }, { accessFlags := 26, nameIndex := 48, descriptorIndex := 25, attributes := #[] }, { accessFlags := 25, nameIndex := 277, descriptorIndex := 25, attributes := #[] }, { accessFlags := 25, nameIndex := 280, descriptorIndex := 25, attributes := #[] }, { accessFlags := 25, nameIndex := 282, descriptorIndex := 25, attributes := #[] }, { accessFlags := 25, nameIndex := 284, descriptorIndex := 25, attributes := #[] }, { accessFlags := 25, nameIndex := 286, descriptorIndex := 25, attributes := #[] }, { accessFlags := 25, nameIndex := 288, descriptorIndex := 25, attributes := #[] }, { accessFlags := 25, nameIndex := 290, descriptorIndex := 25, attributes := #[] }, { accessFlags := 25, nameIndex := 292, descriptorIndex := 25, attributes := #[] }, { accessFlags := 26, nameIndex := 108, descriptorIndex := 109, attributes := #[] }, { accessFlags := 25, nameIndex := 294, descriptorIndex := 25, attributes := #[] }])
  fields := #[{ name := "U", type := (.object "jdk/internal/misc/Unsafe"), accessFlags := 24, slot := 0, constantValue := 0 }, { name := "BIG_ENDIAN", type := .boolean, accessFlags := 26, slot := 1, constantValue := 0 }, { name := "LOG2_ARRAY_BOOLEAN_INDEX_SCALE", type := .int, accessFlags := 25, slot := 2, constantValue := 0 }, { name := "LOG2_ARRAY_BYTE_INDEX_SCALE", type := .int, accessFlags := 25, slot := 3, constantValue := 0 }, { name := "LOG2_ARRAY_CHAR_INDEX_SCALE", type := .int, accessFlags := 25, slot := 4, constantValue := 0 }, { name := "LOG2_ARRAY_SHORT_INDEX_SCALE", type := .int, accessFlags := 25, slot := 5, constantValue := 0 }, { name := "LOG2_ARRAY_INT_INDEX_SCALE", type := .int, accessFlags := 25, slot := 6, constantValue := 0 }, { name := "LOG2_ARRAY_LONG_INDEX_SCALE", type := .int, accessFlags := 25, slot := 7, constantValue := 0 }, { name := "LOG2_ARRAY_FLOAT_INDEX_SCALE", type := .int, accessFlags := 25, slot := 8, constantValue := 0 }, { name := "LOG2_ARRAY_DOUBLE_INDEX_SCALE", type := .int, accessFlags := 25, slot := 9, constantValue := 0 }, { name := "LOG2_BYTE_BIT_SIZE", type := .int, accessFlags := 26, slot := 10, constantValue := 0 }, { name := "T_BOOLEAN", type := .int, accessFlags := 25, slot := 11, constantValue := 0 }, { name := "T_CHAR", type := .int, accessFlags := 25, slot := 12, constantValue := 0 }, { name := "T_FLOAT", type := .int, accessFlags := 25, slot := 13, constantValue := 0 }, { name := "T_DOUBLE", type := .int, accessFlags := 25, slot := 14, constantValue := 0 }, { name := "T_BYTE", type := .int, accessFlags := 25, slot := 15, constantValue := 0 }, { name := "T_SHORT", type := .int, accessFlags := 25, slot := 16, constantValue := 0 }, { name := "T_INT", type := .int, accessFlags := 25, slot := 17, constantValue := 0 }, { name := "T_LONG", type := .int, accessFlags := 25, slot := 18, constantValue := 0 }, { name := "JLA", type := (.object "jdk/internal/access/JavaLangAccess"), accessFlags := 26, slot := 19, constantValue := 0 }, { name := "SOFT_MAX_ARRAY_LENGTH", type := .int, accessFlags := 25, slot := 20, constantValue := 0 }]
  methods := #[k13m0]
  instanceTypes := #[]
  staticTypes := #[(.object "jdk/internal/misc/Unsafe"), .boolean, .int, .int, .int, .int, .int, .int, .int, .int, .int, .int, .int, .int, .int, .int, .int, .int, .int, (.object "jdk/internal/access/JavaLangAccess"), .int]
  resolved := Array.replicate 378 none
  statics := none }

def pool14 : Array CpInfo := pool [(1, u "java/lang/Cloneable"), (0, .class_ 1), (0, u "java/lang/Object"), (0, .class_ 3)] 3

/-- java/lang/Cloneable -/
def k14 : Class := { plain "java/lang/Cloneable" (some 0) with
  accessFlags := 1537
  interfaces := #[]
  cf := some (fileOf pool14 2 #[] #[] 1537 4 #[] #[])
  fields := #[]
  methods := #[]
  instanceTypes := #[]
  staticTypes := #[]
  resolved := Array.replicate 8 none
  statics := none }

/-- the primitive byte -/
def k15 : Class := { plain "byte" none with kind := .primitive 'B', accessFlags := 0x411 }
/-- [B -/
def k16 : Class := { plain "[B" (some 0) with kind := .array 15 .byte, interfaces := #[14, 2], accessFlags := 1041 }

/-- the primitive char -/
def k17 : Class := { plain "char" none with kind := .primitive 'C', accessFlags := 0x411 }
/-- [C -/
def k18 : Class := { plain "[C" (some 0) with kind := .array 17 .char, interfaces := #[14, 2], accessFlags := 1041 }

/-- the primitive int -/
def k19 : Class := { plain "int" none with kind := .primitive 'I', accessFlags := 0x411 }
/-- [I -/
def k20 : Class := { plain "[I" (some 0) with kind := .array 19 .int, interfaces := #[14, 2], accessFlags := 1041 }

def heap : Heap := #[{ cls := 7, slots := #[.long 0, .int 1, .null, .int 0, .null, .int 0, .int 0], vm := .statics 7 },
  { cls := 12, slots := #[.null, .null, .null], vm := .statics 12 }]
def classes : Array Class := #[k0, k1, k2, k3, k4, k5, k6, k7, k8, k9, k10, k11, k12, k13, k14, k15, k16, k17, k18, k19, k20]
def interned : List (Array UInt16 × Addr) := []
def slotsUsed : Nat := 10
def theMethod : MethodId := ⟨1, 4⟩
def args0 : Array Value := #[.int 5, .int 7, .int 3, .int 4, .int 5, .int 6]
def aboutOver (below : List Frame) : State where
  vm := { classes := classes, interned := interned.toArray }
  heap := heap
  slotsUsed := slotsUsed
  threads := #[{ frames := .invoking theMethod args0 :: below }]
def below0 : List Frame := [.native { method := ⟨0, 0⟩, args := #[] }]
def about1 : State := aboutOver below0
def p0 : Program := .bare "" "" ""
def e0 : Env := launch0.env 0 0 0
theorem w_frames : about1.frames = Frame.invoking theMethod args0 :: below0 := rfl
set_option maxRecDepth 65536 in
theorem w_args : argsFit about1.vm theMethod args0 = true := by decide +kernel
set_option maxRecDepth 65536 in
theorem w_heap : heapFits about1 = true := by decide +kernel
set_option maxRecDepth 65536 in
theorem w_runnable : about1.curStatus? = some .runnable := by decide +kernel
set_option maxRecDepth 65536 in
theorem w_alone : about1.alone = true := by decide +kernel
set_option maxRecDepth 65536 in
theorem w_named : about1.methodNamed? x = some theMethod := by decide +kernel
set_option maxRecDepth 65536 in
theorem w_hears : about1.hears theMethod below0 = true := by decide +kernel
set_option maxRecDepth 65536 in
theorem w_ripe : about1.ripe theMethod args0 below0 = true := by decide +kernel
theorem w_running : about1.status = .running := rfl
set_option maxRecDepth 65536 in
theorem w_room : about1.hasRoom e0.platform room_1 = true :=
  launch0.hasRoom_least _ room_1 (by decide +kernel) (by decide +kernel) (by decide +kernel) (by decide +kernel) (by decide +kernel) (by decide +kernel)
theorem allAtoms_all (ts : List Jvm.Cond) (a : Array Jvm.Value) (st : Jvm.State) : (allAtoms ts).before a st = ts.all (fun c => c.before a st) := by
  induction ts with
  | nil => rfl
  | cons c t ih =>
    show (Jvm.Cond.and c (allAtoms t)).before a st = _
    rw [Jvm.Cond.before_and, ih, List.all_cons]
def words1 : List Jvm.Cond := Jvm.Cond.code x code maxLocals ret :: tables_1
/-- a 'code' word, met by the world's own term for the bytes: nothing is compared byte by byte -/
theorem code_word {y : MethodName} {bytes : ByteArray} {mx : Nat} {rt : Option FieldType} {a : Array Value} {s : State} {m : MethodId} {meth : Method} {c : Code} (h1 : s.methodNamed? y = some m) (h2 : s.vm.method? m = some meth) (h3 : meth.code = some c) (h4 : c.code = bytes)
    (h5 : (c.maxLocals == mx && c.exceptionTable.isEmpty && decide (c.maxStack ≤ mostOperands) && decide (meth.sig.returnType = rt) && !meth.locks && decide (parseMethodDescriptor y.desc = some meth.sig)) = true) : (Jvm.Cond.code y bytes mx rt).before a s = true := by
  simp only [Bool.and_eq_true, beq_iff_eq, Bool.not_eq_true', decide_eq_true_eq] at h5
  obtain ⟨⟨⟨⟨⟨g1, g2⟩, g3⟩, g4⟩, g5⟩, g6⟩ := h5
  simp [Cond.before, Cond.holds, Cond.value, h1, h2, h3, h4, g1, g2, g3, g4, g5, g6]
def isCode : Jvm.Cond → Bool
  | .code _ _ _ _ => true
  | _ => false
theorem all_split {L : List Jvm.Cond} {P : Jvm.Cond → Bool} (h1 : L.all (fun c => isCode c || P c) = true) (h2 : ∀ c ∈ L.filter isCode, P c = true) : L.all P = true := by
  refine List.all_eq_true.mpr fun c hc => ?_
  have h := List.all_eq_true.mp h1 c hc
  rcases Bool.eq_false_or_eq_true (isCode c) with hi | hi
  · exact h2 c (List.mem_filter.mpr ⟨hc, hi⟩)
  · simpa [hi] using h
set_option maxRecDepth 65536 in
theorem w_c0 : (Jvm.Cond.code x code maxLocals ret).before args0 about1 = true := code_word (m := ⟨1, 4⟩) (meth := k1m4) (c := k1c4) (by decide +kernel) rfl rfl rfl (by decide +kernel)
set_option maxRecDepth 65536 in
theorem w_c1 : (Jvm.Cond.code ({ cls := "com/example/wachter/wachter/decision/AccessEqualsPinLaw", name := "str", desc := "(I)Ljava/lang/String;" } : Jvm.MethodName) method_2_code (5 : Nat) (Option.some (Jvm.ClassFile.FieldType.object "java/lang/String"))).before args0 about1 = true := code_word (m := ⟨1, 1⟩) (meth := k1m1) (c := k1c1) (by decide +kernel) rfl rfl rfl (by decide +kernel)
set_option maxRecDepth 65536 in
theorem w_c2 : (Jvm.Cond.code ({ cls := "java/lang/String", name := "<init>", desc := "([C)V" } : Jvm.MethodName) jdk_42_method_3_code (2 : Nat) (Option.none : Option Jvm.ClassFile.FieldType)).before args0 about1 = true := code_word (m := ⟨7, 1⟩) (meth := k7m1) (c := k7c1) (by decide +kernel) rfl rfl rfl (by decide +kernel)
set_option maxRecDepth 65536 in
theorem w_c3 : (Jvm.Cond.code ({ cls := "java/lang/String", name := "<init>", desc := "([CIILjava/lang/Void;)V" } : Jvm.MethodName) jdk_42_method_149_code (6 : Nat) (Option.none : Option Jvm.ClassFile.FieldType)).before args0 about1 = true := code_word (m := ⟨7, 6⟩) (meth := k7m6) (c := k7c6) (by decide +kernel) rfl rfl rfl (by decide +kernel)
set_option maxRecDepth 65536 in
theorem w_c4 : (Jvm.Cond.code ({ cls := "java/lang/Object", name := "<init>", desc := "()V" } : Jvm.MethodName) object_method_1_code (1 : Nat) (Option.none : Option Jvm.ClassFile.FieldType)).before args0 about1 = true := code_word (m := ⟨0, 0⟩) (meth := k0m0) (c := k0c0) (by decide +kernel) rfl rfl rfl (by decide +kernel)
set_option maxRecDepth 65536 in
theorem w_c5 : (Jvm.Cond.code ({ cls := "java/lang/StringUTF16", name := "compress", desc := "([CII)[B" } : Jvm.MethodName) jdk_52_method_16_code (6 : Nat) (Option.some (Jvm.ClassFile.FieldType.array Jvm.ClassFile.FieldType.byte))).before args0 about1 = true := code_word (m := ⟨8, 2⟩) (meth := k8m2) (c := k8c2) (by decide +kernel) rfl rfl rfl (by decide +kernel)
set_option maxRecDepth 65536 in
theorem w_c6 : (Jvm.Cond.code ({ cls := "java/lang/StringUTF16", name := "compress", desc := "([CI[BII)I" } : Jvm.MethodName) jdk_52_method_21_code (7 : Nat) (Option.some Jvm.ClassFile.FieldType.int)).before args0 about1 = true := code_word (m := ⟨8, 3⟩) (meth := k8m3) (c := k8c3) (by decide +kernel) rfl rfl rfl (by decide +kernel)
set_option maxRecDepth 65536 in
theorem w_c7 : (Jvm.Cond.code ({ cls := "java/lang/StringUTF16", name := "coderFromArrayLen", desc := "([BI)B" } : Jvm.MethodName) jdk_52_method_15_code (2 : Nat) (Option.some Jvm.ClassFile.FieldType.byte)).before args0 about1 = true := code_word (m := ⟨8, 1⟩) (meth := k8m1) (c := k8c1) (by decide +kernel) rfl rfl rfl (by decide +kernel)
set_option maxRecDepth 65536 in
theorem w_c8 : (Jvm.Cond.code ({ cls := "com/example/wachter/wachter/decision/AccessEqualsPinLaw", name := "pick", desc := "(II)Ljava/lang/String;" } : Jvm.MethodName) method_3_code (2 : Nat) (Option.some (Jvm.ClassFile.FieldType.object "java/lang/String"))).before args0 about1 = true := code_word (m := ⟨1, 2⟩) (meth := k1m2) (c := k1c2) (by decide +kernel) rfl rfl rfl (by decide +kernel)
set_option maxRecDepth 65536 in
theorem w_c9 : (Jvm.Cond.code ({ cls := "com/example/wachter/wachter/decision/Access", name := "<init>", desc := "(Ljava/lang/String;Ljava/lang/String;Ljava/lang/String;)V" } : Jvm.MethodName) prog_1_method_1_code (4 : Nat) (Option.none : Option Jvm.ClassFile.FieldType)).before args0 about1 = true := code_word (m := ⟨9, 0⟩) (meth := k9m0) (c := k9c0) (by decide +kernel) rfl rfl rfl (by decide +kernel)
set_option maxRecDepth 65536 in
theorem w_c10 : (Jvm.Cond.code ({ cls := "java/util/Objects", name := "requireNonNull", desc := "(Ljava/lang/Object;Ljava/lang/String;)Ljava/lang/Object;" } : Jvm.MethodName) jdk_31_method_11_code (2 : Nat) (Option.some (Jvm.ClassFile.FieldType.object "java/lang/Object"))).before args0 about1 = true := code_word (m := ⟨10, 1⟩) (meth := k10m1) (c := k10c1) (by decide +kernel) rfl rfl rfl (by decide +kernel)
set_option maxRecDepth 65536 in
theorem w_c11 : (Jvm.Cond.code ({ cls := "com/example/wachter/wachter/decision/AccessEqualsPinLaw", name := "same", desc := "(Ljava/lang/String;Ljava/lang/String;)Z" } : Jvm.MethodName) method_4_code (3 : Nat) (Option.some Jvm.ClassFile.FieldType.boolean)).before args0 about1 = true := code_word (m := ⟨1, 3⟩) (meth := k1m3) (c := k1c3) (by decide +kernel) rfl rfl rfl (by decide +kernel)
set_option maxRecDepth 65536 in
theorem w_c12 : (Jvm.Cond.code ({ cls := "java/lang/String", name := "length", desc := "()I" } : Jvm.MethodName) jdk_42_method_54_code (1 : Nat) (Option.some Jvm.ClassFile.FieldType.int)).before args0 about1 = true := code_word (m := ⟨7, 2⟩) (meth := k7m2) (c := k7c2) (by decide +kernel) rfl rfl rfl (by decide +kernel)
set_option maxRecDepth 65536 in
theorem w_c13 : (Jvm.Cond.code ({ cls := "java/lang/String", name := "coder", desc := "()B" } : Jvm.MethodName) jdk_42_method_152_code (1 : Nat) (Option.some Jvm.ClassFile.FieldType.byte)).before args0 about1 = true := code_word (m := ⟨7, 8⟩) (meth := k7m8) (c := k7c8) (by decide +kernel) rfl rfl rfl (by decide +kernel)
set_option maxRecDepth 65536 in
theorem w_c14 : (Jvm.Cond.code ({ cls := "java/lang/String", name := "charAt", desc := "(I)C" } : Jvm.MethodName) jdk_42_method_56_code (2 : Nat) (Option.some Jvm.ClassFile.FieldType.char)).before args0 about1 = true := code_word (m := ⟨7, 3⟩) (meth := k7m3) (c := k7c3) (by decide +kernel) rfl rfl rfl (by decide +kernel)
set_option maxRecDepth 65536 in
theorem w_c15 : (Jvm.Cond.code ({ cls := "java/lang/String", name := "isLatin1", desc := "()Z" } : Jvm.MethodName) jdk_42_method_154_code (1 : Nat) (Option.some Jvm.ClassFile.FieldType.boolean)).before args0 about1 = true := code_word (m := ⟨7, 9⟩) (meth := k7m9) (c := k7c9) (by decide +kernel) rfl rfl rfl (by decide +kernel)
set_option maxRecDepth 65536 in
theorem w_c16 : (Jvm.Cond.code ({ cls := "java/lang/StringLatin1", name := "charAt", desc := "([BI)C" } : Jvm.MethodName) jdk_43_method_2_code (2 : Nat) (Option.some Jvm.ClassFile.FieldType.char)).before args0 about1 = true := code_word (m := ⟨11, 1⟩) (meth := k11m1) (c := k11c1) (by decide +kernel) rfl rfl rfl (by decide +kernel)
set_option maxRecDepth 65536 in
theorem w_c17 : (Jvm.Cond.code ({ cls := "java/lang/String", name := "checkIndex", desc := "(II)V" } : Jvm.MethodName) jdk_42_method_155_code (2 : Nat) (Option.none : Option Jvm.ClassFile.FieldType)).before args0 about1 = true := code_word (m := ⟨7, 10⟩) (meth := k7m10) (c := k7c10) (by decide +kernel) rfl rfl rfl (by decide +kernel)
set_option maxRecDepth 65536 in
theorem w_c18 : (Jvm.Cond.code ({ cls := "jdk/internal/util/Preconditions", name := "checkIndex", desc := "(IILjava/util/function/BiFunction;)I" } : Jvm.MethodName) jdk_41_method_11_code (3 : Nat) (Option.some Jvm.ClassFile.FieldType.int)).before args0 about1 = true := code_word (m := ⟨12, 1⟩) (meth := k12m1) (c := k12c1) (by decide +kernel) rfl rfl rfl (by decide +kernel)
set_option maxRecDepth 65536 in
theorem w_c19 : (Jvm.Cond.code ({ cls := "com/example/wachter/wachter/decision/Access", name := "equals", desc := "(Ljava/lang/Object;)Z" } : Jvm.MethodName) prog_1_method_5_code (3 : Nat) (Option.some Jvm.ClassFile.FieldType.boolean)).before args0 about1 = true := code_word (m := ⟨9, 1⟩) (meth := k9m1) (c := k9c1) (by decide +kernel) rfl rfl rfl (by decide +kernel)
set_option maxRecDepth 65536 in
theorem w_c20 : (Jvm.Cond.code ({ cls := "java/lang/String", name := "equals", desc := "(Ljava/lang/Object;)Z" } : Jvm.MethodName) jdk_42_method_66_code (3 : Nat) (Option.some Jvm.ClassFile.FieldType.boolean)).before args0 about1 = true := code_word (m := ⟨7, 4⟩) (meth := k7m4) (c := k7c4) (by decide +kernel) rfl rfl rfl (by decide +kernel)
set_option maxRecDepth 65536 in
theorem w_c21 : (Jvm.Cond.code ({ cls := "java/lang/StringLatin1", name := "equals", desc := "([B[B)Z" } : Jvm.MethodName) jdk_43_method_13_code (3 : Nat) (Option.some Jvm.ClassFile.FieldType.boolean)).before args0 about1 = true := code_word (m := ⟨11, 3⟩) (meth := k11m3) (c := k11c3) (by decide +kernel) rfl rfl rfl (by decide +kernel)
set_option maxRecDepth 65536 in
theorem w_c22 : (Jvm.Cond.code ({ cls := "java/lang/String", name := "valueOf", desc := "(C)Ljava/lang/String;" } : Jvm.MethodName) jdk_42_method_139_code (1 : Nat) (Option.some (Jvm.ClassFile.FieldType.object "java/lang/String"))).before args0 about1 = true := code_word (m := ⟨7, 5⟩) (meth := k7m5) (c := k7c5) (by decide +kernel) rfl rfl rfl (by decide +kernel)
set_option maxRecDepth 65536 in
theorem w_c23 : (Jvm.Cond.code ({ cls := "java/lang/StringLatin1", name := "canEncode", desc := "(C)Z" } : Jvm.MethodName) jdk_43_method_3_code (1 : Nat) (Option.some Jvm.ClassFile.FieldType.boolean)).before args0 about1 = true := code_word (m := ⟨11, 2⟩) (meth := k11m2) (c := k11c2) (by decide +kernel) rfl rfl rfl (by decide +kernel)
set_option maxRecDepth 65536 in
theorem w_c24 : (Jvm.Cond.code ({ cls := "java/lang/StringLatin1", name := "toBytes", desc := "(C)[B" } : Jvm.MethodName) jdk_43_method_46_code (1 : Nat) (Option.some (Jvm.ClassFile.FieldType.array Jvm.ClassFile.FieldType.byte))).before args0 about1 = true := code_word (m := ⟨11, 4⟩) (meth := k11m4) (c := k11c4) (by decide +kernel) rfl rfl rfl (by decide +kernel)
set_option maxRecDepth 65536 in
theorem w_c25 : (Jvm.Cond.code ({ cls := "java/lang/String", name := "<init>", desc := "([BB)V" } : Jvm.MethodName) jdk_42_method_151_code (3 : Nat) (Option.none : Option Jvm.ClassFile.FieldType)).before args0 about1 = true := code_word (m := ⟨7, 7⟩) (meth := k7m7) (c := k7c7) (by decide +kernel) rfl rfl rfl (by decide +kernel)
def codes1 : List Jvm.Cond := [Jvm.Cond.code x code maxLocals ret, Jvm.Cond.code ({ cls := "com/example/wachter/wachter/decision/AccessEqualsPinLaw", name := "str", desc := "(I)Ljava/lang/String;" } : Jvm.MethodName) method_2_code (5 : Nat) (Option.some (Jvm.ClassFile.FieldType.object "java/lang/String")), Jvm.Cond.code ({ cls := "java/lang/String", name := "<init>", desc := "([C)V" } : Jvm.MethodName) jdk_42_method_3_code (2 : Nat) (Option.none : Option Jvm.ClassFile.FieldType), Jvm.Cond.code ({ cls := "java/lang/String", name := "<init>", desc := "([CIILjava/lang/Void;)V" } : Jvm.MethodName) jdk_42_method_149_code (6 : Nat) (Option.none : Option Jvm.ClassFile.FieldType), Jvm.Cond.code ({ cls := "java/lang/Object", name := "<init>", desc := "()V" } : Jvm.MethodName) object_method_1_code (1 : Nat) (Option.none : Option Jvm.ClassFile.FieldType), Jvm.Cond.code ({ cls := "java/lang/StringUTF16", name := "compress", desc := "([CII)[B" } : Jvm.MethodName) jdk_52_method_16_code (6 : Nat) (Option.some (Jvm.ClassFile.FieldType.array Jvm.ClassFile.FieldType.byte)), Jvm.Cond.code ({ cls := "java/lang/StringUTF16", name := "compress", desc := "([CI[BII)I" } : Jvm.MethodName) jdk_52_method_21_code (7 : Nat) (Option.some Jvm.ClassFile.FieldType.int), Jvm.Cond.code ({ cls := "java/lang/StringUTF16", name := "coderFromArrayLen", desc := "([BI)B" } : Jvm.MethodName) jdk_52_method_15_code (2 : Nat) (Option.some Jvm.ClassFile.FieldType.byte), Jvm.Cond.code ({ cls := "com/example/wachter/wachter/decision/AccessEqualsPinLaw", name := "pick", desc := "(II)Ljava/lang/String;" } : Jvm.MethodName) method_3_code (2 : Nat) (Option.some (Jvm.ClassFile.FieldType.object "java/lang/String")), Jvm.Cond.code ({ cls := "com/example/wachter/wachter/decision/Access", name := "<init>", desc := "(Ljava/lang/String;Ljava/lang/String;Ljava/lang/String;)V" } : Jvm.MethodName) prog_1_method_1_code (4 : Nat) (Option.none : Option Jvm.ClassFile.FieldType), Jvm.Cond.code ({ cls := "java/util/Objects", name := "requireNonNull", desc := "(Ljava/lang/Object;Ljava/lang/String;)Ljava/lang/Object;" } : Jvm.MethodName) jdk_31_method_11_code (2 : Nat) (Option.some (Jvm.ClassFile.FieldType.object "java/lang/Object")), Jvm.Cond.code ({ cls := "com/example/wachter/wachter/decision/AccessEqualsPinLaw", name := "same", desc := "(Ljava/lang/String;Ljava/lang/String;)Z" } : Jvm.MethodName) method_4_code (3 : Nat) (Option.some Jvm.ClassFile.FieldType.boolean), Jvm.Cond.code ({ cls := "java/lang/String", name := "length", desc := "()I" } : Jvm.MethodName) jdk_42_method_54_code (1 : Nat) (Option.some Jvm.ClassFile.FieldType.int), Jvm.Cond.code ({ cls := "java/lang/String", name := "coder", desc := "()B" } : Jvm.MethodName) jdk_42_method_152_code (1 : Nat) (Option.some Jvm.ClassFile.FieldType.byte), Jvm.Cond.code ({ cls := "java/lang/String", name := "charAt", desc := "(I)C" } : Jvm.MethodName) jdk_42_method_56_code (2 : Nat) (Option.some Jvm.ClassFile.FieldType.char), Jvm.Cond.code ({ cls := "java/lang/String", name := "isLatin1", desc := "()Z" } : Jvm.MethodName) jdk_42_method_154_code (1 : Nat) (Option.some Jvm.ClassFile.FieldType.boolean), Jvm.Cond.code ({ cls := "java/lang/StringLatin1", name := "charAt", desc := "([BI)C" } : Jvm.MethodName) jdk_43_method_2_code (2 : Nat) (Option.some Jvm.ClassFile.FieldType.char), Jvm.Cond.code ({ cls := "java/lang/String", name := "checkIndex", desc := "(II)V" } : Jvm.MethodName) jdk_42_method_155_code (2 : Nat) (Option.none : Option Jvm.ClassFile.FieldType), Jvm.Cond.code ({ cls := "jdk/internal/util/Preconditions", name := "checkIndex", desc := "(IILjava/util/function/BiFunction;)I" } : Jvm.MethodName) jdk_41_method_11_code (3 : Nat) (Option.some Jvm.ClassFile.FieldType.int), Jvm.Cond.code ({ cls := "com/example/wachter/wachter/decision/Access", name := "equals", desc := "(Ljava/lang/Object;)Z" } : Jvm.MethodName) prog_1_method_5_code (3 : Nat) (Option.some Jvm.ClassFile.FieldType.boolean), Jvm.Cond.code ({ cls := "java/lang/String", name := "equals", desc := "(Ljava/lang/Object;)Z" } : Jvm.MethodName) jdk_42_method_66_code (3 : Nat) (Option.some Jvm.ClassFile.FieldType.boolean), Jvm.Cond.code ({ cls := "java/lang/StringLatin1", name := "equals", desc := "([B[B)Z" } : Jvm.MethodName) jdk_43_method_13_code (3 : Nat) (Option.some Jvm.ClassFile.FieldType.boolean), Jvm.Cond.code ({ cls := "java/lang/String", name := "valueOf", desc := "(C)Ljava/lang/String;" } : Jvm.MethodName) jdk_42_method_139_code (1 : Nat) (Option.some (Jvm.ClassFile.FieldType.object "java/lang/String")), Jvm.Cond.code ({ cls := "java/lang/StringLatin1", name := "canEncode", desc := "(C)Z" } : Jvm.MethodName) jdk_43_method_3_code (1 : Nat) (Option.some Jvm.ClassFile.FieldType.boolean), Jvm.Cond.code ({ cls := "java/lang/StringLatin1", name := "toBytes", desc := "(C)[B" } : Jvm.MethodName) jdk_43_method_46_code (1 : Nat) (Option.some (Jvm.ClassFile.FieldType.array Jvm.ClassFile.FieldType.byte)), Jvm.Cond.code ({ cls := "java/lang/String", name := "<init>", desc := "([BB)V" } : Jvm.MethodName) jdk_42_method_151_code (3 : Nat) (Option.none : Option Jvm.ClassFile.FieldType)]
set_option maxRecDepth 65536 in
theorem codes_eq : words1.filter isCode = codes1 := rfl
theorem w_codes : ∀ c ∈ words1.filter isCode, c.before args0 about1 = true := by
  rw [codes_eq]
  intro c hc
  simp only [codes1, List.mem_cons, List.not_mem_nil, or_false] at hc
  rcases hc with rfl | rfl | rfl | rfl | rfl | rfl | rfl | rfl | rfl | rfl | rfl | rfl | rfl | rfl | rfl | rfl | rfl | rfl | rfl | rfl | rfl | rfl | rfl | rfl | rfl | rfl
  · exact w_c0
  · exact w_c1
  · exact w_c2
  · exact w_c3
  · exact w_c4
  · exact w_c5
  · exact w_c6
  · exact w_c7
  · exact w_c8
  · exact w_c9
  · exact w_c10
  · exact w_c11
  · exact w_c12
  · exact w_c13
  · exact w_c14
  · exact w_c15
  · exact w_c16
  · exact w_c17
  · exact w_c18
  · exact w_c19
  · exact w_c20
  · exact w_c21
  · exact w_c22
  · exact w_c23
  · exact w_c24
  · exact w_c25
set_option maxRecDepth 65536 in
theorem w_t1 : (words1.take 24).all (fun c => isCode c || c.before args0 about1) = true := by decide +kernel
set_option maxRecDepth 65536 in
theorem w_t2 : ((words1.drop 24).take 24).all (fun c => isCode c || c.before args0 about1) = true := by decide +kernel
set_option maxRecDepth 65536 in
theorem w_t3 : (((words1.drop 24).drop 24).take 24).all (fun c => isCode c || c.before args0 about1) = true := by decide +kernel
set_option maxRecDepth 65536 in
theorem w_t4 : ((((words1.drop 24).drop 24).drop 24).take 24).all (fun c => isCode c || c.before args0 about1) = true := by decide +kernel
set_option maxRecDepth 65536 in
theorem w_t5 : (((((words1.drop 24).drop 24).drop 24).drop 24).take 24).all (fun c => isCode c || c.before args0 about1) = true := by decide +kernel
set_option maxRecDepth 65536 in
theorem w_t6 : (((((words1.drop 24).drop 24).drop 24).drop 24).drop 24).all (fun c => isCode c || c.before args0 about1) = true := by decide +kernel
theorem w_tables : (allAtoms (Jvm.Cond.code x code maxLocals ret :: tables_1)).before args0 about1 = true := by
  rw [allAtoms_all]
  show words1.all (fun c => c.before args0 about1) = true
  refine all_split ?_ w_codes
  rw [← List.take_append_drop 24 words1, List.all_append, w_t1, ← List.take_append_drop 24 (words1.drop 24), List.all_append, w_t2, ← List.take_append_drop 24 ((words1.drop 24).drop 24), List.all_append, w_t3, ← List.take_append_drop 24 (((words1.drop 24).drop 24).drop 24), List.all_append, w_t4, ← List.take_append_drop 24 ((((words1.drop 24).drop 24).drop 24).drop 24), List.all_append, w_t5, w_t6]
  rfl
set_option maxRecDepth 65536 in
theorem w_rest : rest_1_c.before args0 about1 = true := by decide +kernel
set_option maxRecDepth 65536 in
theorem w_case : (Jvm.Cond.and given_1 narrow_1).before args0 about1 = true := by decide +kernel
set_option maxRecDepth 65536 in
theorem w_consts : constsHeld consts_1 about1 := Jvm.Lit.constsHeldB_iff.mp (by decide +kernel)
theorem w_applies : (headSpec (Jvm.Cond.code x code maxLocals ret :: tables_1) room_1).applies x e0.platform about1 = true :=
  (Spec.applies_iff w_frames).mpr ⟨w_running, w_runnable, w_alone, w_named, w_hears, w_ripe, w_room, w_tables⟩
theorem atStart : AtStart classFile x code maxLocals ret World_1 tables_1 room_1 Calls_1 rest_1 Pre_1 launch0 p0 e0 about1 theMethod args0 below0 :=
  ⟨lists_1, trivial, launch0.admits_env _ _ _, launch0.least_env, fairChoices_fair.cas, fairChoices_fair.clock, w_frames, w_args, w_heap, w_applies, ⟨w_consts, trivial⟩, w_rest, w_case⟩
end start1
theorem witness_1 : WitnessClaimed_1 := ⟨start1.p0, start1.e0, start1.about1, start1.theMethod, start1.args0, start1.below0, start1.atStart⟩
end Jvm.Pilot.@@N@@
