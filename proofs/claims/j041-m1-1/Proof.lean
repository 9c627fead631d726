import JvmDerived
import JvmDerived.Pilot.@@N@@Statement
import JvmDerived.Pilot.@@N@@Code
set_option linter.unusedVariables false
set_option linter.unusedSimpArgs false

namespace Jvm.Pilot.@@N@@
open Jvm Jvm.ClassFile Sem Op Lib Jvm.Free Jvm.Stand Jvm.LawKit Jvm.RoadKit Bundle Jvm.Pilot.@@N@@.Jvm.D
/-! ## own kit: a walk forwards, in small words -/
abbrev owK : Type := Program × Env × State × MethodId × Array Value × List Frame × Method × Code
abbrev owp (k : owK) : Program := k.1
abbrev owe (k : owK) : Env := k.2.1
abbrev ows (k : owK) : State := k.2.2.1
abbrev owm (k : owK) : MethodId := k.2.2.2.1
abbrev owa (k : owK) : Array Value := k.2.2.2.2.1
abbrev owb (k : owK) : List Frame := k.2.2.2.2.2.1
abbrev owM (k : owK) : Method := k.2.2.2.2.2.2.1
abbrev owc (k : owK) : Code := k.2.2.2.2.2.2.2
/-- what stands fast through a body -/
def owC (Z : State) (y : MethodName) (B : ByteArray) (ml : Nat) (rt : Option FieldType) (k : owK) : Prop :=
  (owp k).tables.exec = Jvm.exec ∧ Z.Warmed39 (ows k).vm ∧ (ows k).vm.findClass y.cls = some (owm k).cls ∧ (owc k).code = B ∧ (owc k).maxLocals = ml ∧ (owM k).name = y.name ∧ (owM k).sig.returnType = rt ∧ (owM k).locks = false
/-- where the walk stands: the state T with the heap h; cc cells and ss slots made so far; all writes at or above n0 -/
def Sd (l : Launch) (Z : State) (n0 : Nat) (y : MethodName) (B : ByteArray) (ml : Nat) (rt : Option FieldType) (R : Room) (k : owK) (T : State) (h : Heap) (cc ss : Nat) : Prop :=
  (∃ locs, Stand (owp k) l (owe k) R (ows k) (owm k) (owa k) (owb k) (owM k) (owc k) T locs cc ss ∧ Fr n0 locs) ∧ T.heap = h ∧ owC Z y B ml rt k
/-- from here the walk ends, as Q says -/
def Go (k : owK) (n0 : Nat) (Q : Option Value → Heap → Prop) (kc ks : Nat) (T : State) (pc : Nat) (Ls : Array Slot) (st : List Value) : Prop :=
  ∃ s₂ o, Steps (owp k).tables (owe k) (owb k) (T.setTop (mkF (owm k) pc Ls st)) s₂ ∧ s₂.status = .running ∧ Ended s₂ (owb k) o ∧ ∃ v L, o = .returned v ∧ (Fr n0 L ∧ Q v s₂.heap) ∧ FrameEnd (ows k) o s₂ L kc ks
/-- the contract of a body -/
def Met (l : Launch) (Z : State) (n0 : Nat) (y : MethodName) (B : ByteArray) (ml : Nat) (rt : Option FieldType) (ws : List Jvm.Cond) (R : Room) (as : Array Value) (h0 : Heap) (Q : Option Value → Heap → Prop) (kc ks : Nat) : Prop :=
  MetFree l y (head1 (Jvm.Cond.code y B ml rt :: ws) R) (fun a U => a = as ∧ Z.Warmed39 U.vm ∧ U.heap = h0) (fun _ _ _ _ _ => True) (fun _ U o U' => ∃ v L, o = .returned v ∧ (Fr n0 L ∧ Q v U'.heap) ∧ FrameEnd U o U' L kc ks)
section Ow
variable {l : Launch} {Z : State} {n0 : Nat} {y : MethodName} {B : ByteArray} {ml : Nat} {rt : Option FieldType} {R : Room} {k : owK} {T : State} {h : Heap} {cc ss : Nat} {Q : Option Value → Heap → Prop} {kc ks : Nat} {pc : Nat} {Ls : Array Slot} {st : List Value} {a0 : Array Value}
theorem Met.of {ws : List Jvm.Cond} {as : Array Value} {h0 : Heap} {Ls : Array Slot} (hp : Jvm.plainName y.cls = true) (hef : ∀ m, entryFrame m as ml = mkF m 0 Ls []) (body : ∀ k T, Sd l Z n0 y B ml rt R k T h0 0 0 → Go k n0 Q kc ks T 0 Ls []) : Met l Z n0 y B ml rt ws R as h0 Q kc ks := by
  refine MetFree.of_bodySF (plainFor_of_name hp) hisR ?_
  intro p e s m args below meth c s₁ Bd hml hP hK
  obtain ⟨rfl, hZ, hh⟩ := hP
  have hown : s.vm.findClass y.cls = some m.cls := findClass_of_methodNamed Bd.named
  have hnm := (name_of_methodNamed Bd.named Bd.method).1
  have X0 : Stand p l e R s m args below meth c s₁ [] 0 0 := Stand.of_body Bd
  have e0 : s₁.heap = h0 := by rw [← hh, Bd.state]; rfl
  obtain ⟨s2, o, h1, h2, h3, h4⟩ := body (p, e, s, m, args, below, meth, c) s₁ ⟨⟨[], X0, Fr.nil n0⟩, e0, Bd.exec, hZ, hown, Bd.bytes, hml, hnm, Bd.returns, Bd.notSynchronized⟩
  exact ⟨s2, o, castTop (hef m) h1, h2, h3, h4⟩
theorem Go.of {T T' : State} {pc' : Nat} {Ls' : Array Slot} {st' : List Value} (K : Go k n0 Q kc ks T' pc' Ls' st') (f : ∀ t, Steps (owp k).tables (owe k) (owb k) (T'.setTop (mkF (owm k) pc' Ls' st')) t → Steps (owp k).tables (owe k) (owb k) (T.setTop (mkF (owm k) pc Ls st)) t) : Go k n0 Q kc ks T pc Ls st := by
  obtain ⟨s2, o, h1, h2⟩ := K; exact ⟨s2, o, f _ h1, h2⟩
theorem Go.end {v : Option Value} (X : Sd l Z n0 y B ml rt R k T h cc ss) (hk : cc ≤ kc) (hs : ss ≤ ks) (hv : rt = none → v = none) (f : ∀ fs, (∀ (f : JFrame) (acts : List Action), f.method = owm k → f.locked = none → f.entered = [] → (doReturn (owe k) (T.setTop f) acts v).1 = T.setFrames fs) → Steps (owp k).tables (owe k) (owb k) (T.setTop (mkF (owm k) pc Ls st)) (T.setFrames fs)) (hQ : Q v h) : Go k n0 Q kc ks T pc Ls st := by
  obtain ⟨⟨locs, X, N⟩, rfl, hx, hZ, hown, hby, hml, hnm, hrt, hlk⟩ := X
  obtain ⟨fs, hr, hrun, hended, hW, hsame⟩ := X.leave (v := v) (fun q => hv (by rw [← hrt]; exact q)) hlk
  exact ⟨_, _, f fs hr, hrun, hended, _, _, rfl, ⟨N, hQ⟩, ⟨_, rfl⟩, hW, hsame.mono hk hs⟩
theorem Sd.hh (X : Sd l Z n0 y B ml rt R k T h cc ss) : At T (owm k) (owc k) (owb k) := by obtain ⟨⟨_, X, _⟩, _⟩ := X; exact X.here
theorem Sd.x (X : Sd l Z n0 y B ml rt R k T h cc ss) : (owp k).tables.exec = Jvm.exec := X.2.2.1
theorem Sd.d (X : Sd l Z n0 y B ml rt R k T h cc ss) {pc : Nat} {r : Except ClassFile.DecodeError (ClassFile.Instr × Nat)} (hd : decode B pc = r) : decode (owc k).code pc = r := hb X.2.2.2.2.2.1 hd
theorem Sd.heap (X : Sd l Z n0 y B ml rt R k T h cc ss) : T.heap = h := X.2.1
/-! loads, stores, constants -/
theorem g_aloadN (X : Sd l Z n0 y B ml rt R k T h cc ss) {i : Fin 4} {v : Value} (hd : decode B pc = .ok (.aload_n i, 1)) (hl : Ls[i.val]? = some (.val v)) (hv : v.isRef = true) (pc' : Nat) (hp : pc + 1 = pc') (K : Go k n0 Q kc ks T pc' Ls (v :: st)) : Go k n0 Q kc ks T pc Ls st := by subst hp; exact K.of fun _ q => XS.aloadN X.hh X.x rfl (X.d hd) hl hv q
theorem g_aload (X : Sd l Z n0 y B ml rt R k T h cc ss) {i : Nat} {v : Value} (hd : decode B pc = .ok (.aload i, 2)) (hl : Ls[i]? = some (.val v)) (hv : v.isRef = true) (pc' : Nat) (hp : pc + 2 = pc') (K : Go k n0 Q kc ks T pc' Ls (v :: st)) : Go k n0 Q kc ks T pc Ls st := by subst hp; exact K.of fun _ q => XS.aload X.hh X.x rfl (X.d hd) hl hv q
theorem g_iloadN (X : Sd l Z n0 y B ml rt R k T h cc ss) {i : Fin 4} {v : Int32} (hd : decode B pc = .ok (.iload_n i, 1)) (hl : Ls[i.val]? = some (.val (.int v))) (pc' : Nat) (hp : pc + 1 = pc') (K : Go k n0 Q kc ks T pc' Ls (.int v :: st)) : Go k n0 Q kc ks T pc Ls st := by subst hp; exact K.of fun _ q => XS.iloadN X.hh X.x rfl (X.d hd) hl q
theorem g_iload (X : Sd l Z n0 y B ml rt R k T h cc ss) {i : Nat} {v : Int32} (hd : decode B pc = .ok (.iload i, 2)) (hl : Ls[i]? = some (.val (.int v))) (pc' : Nat) (hp : pc + 2 = pc') (K : Go k n0 Q kc ks T pc' Ls (.int v :: st)) : Go k n0 Q kc ks T pc Ls st := by subst hp; exact K.of fun _ q => XS.iload X.hh X.x rfl (X.d hd) hl q
theorem g_lloadN (X : Sd l Z n0 y B ml rt R k T h cc ss) {i : Fin 4} {v : Int64} (hd : decode B pc = .ok (.lload_n i, 1)) (hl : Ls[i.val]? = some (.val (.long v))) (pc' : Nat) (hp : pc + 1 = pc') (K : Go k n0 Q kc ks T pc' Ls (.long v :: st)) : Go k n0 Q kc ks T pc Ls st := by subst hp; exact K.of fun _ q => XT.lloadN X.hh X.x rfl (X.d hd) hl q
theorem g_lload (X : Sd l Z n0 y B ml rt R k T h cc ss) {i : Nat} {v : Int64} (hd : decode B pc = .ok (.lload i, 2)) (hl : Ls[i]? = some (.val (.long v))) (pc' : Nat) (hp : pc + 2 = pc') (K : Go k n0 Q kc ks T pc' Ls (.long v :: st)) : Go k n0 Q kc ks T pc Ls st := by subst hp; exact K.of fun _ q => XT.lload X.hh X.x rfl (X.d hd) hl q
theorem g_istoreN (X : Sd l Z n0 y B ml rt R k T h cc ss) {i : Fin 4} {v : Int32} (hd : decode B pc = .ok (.istore_n i, 1)) (L' : Array Slot) (hl : storeLocals Ls i.val (.int v) = some L') (pc' : Nat) (hp : pc + 1 = pc') (K : Go k n0 Q kc ks T pc' L' st) : Go k n0 Q kc ks T pc Ls (.int v :: st) := by subst hp; exact K.of fun _ q => XS.istoreN X.hh X.x rfl (X.d hd) rfl hl q
theorem g_istore (X : Sd l Z n0 y B ml rt R k T h cc ss) {i : Nat} {v : Int32} (hd : decode B pc = .ok (.istore i, 2)) (L' : Array Slot) (hl : storeLocals Ls i (.int v) = some L') (pc' : Nat) (hp : pc + 2 = pc') (K : Go k n0 Q kc ks T pc' L' st) : Go k n0 Q kc ks T pc Ls (.int v :: st) := by subst hp; exact K.of fun _ q => XS.istore X.hh X.x rfl (X.d hd) rfl hl q
theorem g_lstoreN (X : Sd l Z n0 y B ml rt R k T h cc ss) {i : Fin 4} {v : Int64} (hd : decode B pc = .ok (.lstore_n i, 1)) (L' : Array Slot) (hl : storeLocals Ls i.val (.long v) = some L') (pc' : Nat) (hp : pc + 1 = pc') (K : Go k n0 Q kc ks T pc' L' st) : Go k n0 Q kc ks T pc Ls (.long v :: st) := by subst hp; exact K.of fun _ q => XT.lstoreN X.hh X.x rfl (X.d hd) rfl hl q
theorem g_lstore (X : Sd l Z n0 y B ml rt R k T h cc ss) {i : Nat} {v : Int64} (hd : decode B pc = .ok (.lstore i, 2)) (L' : Array Slot) (hl : storeLocals Ls i (.long v) = some L') (pc' : Nat) (hp : pc + 2 = pc') (K : Go k n0 Q kc ks T pc' L' st) : Go k n0 Q kc ks T pc Ls (.long v :: st) := by subst hp; exact K.of fun _ q => XT.lstore X.hh X.x rfl (X.d hd) rfl hl q
theorem g_astoreN (X : Sd l Z n0 y B ml rt R k T h cc ss) {i : Fin 4} {v : Value} (hd : decode B pc = .ok (.astore_n i, 1)) (hv : v.isRef = true) (L' : Array Slot) (hl : storeLocals Ls i.val v = some L') (pc' : Nat) (hp : pc + 1 = pc') (K : Go k n0 Q kc ks T pc' L' st) : Go k n0 Q kc ks T pc Ls (v :: st) := by subst hp; exact K.of fun _ q => XS.astoreN X.hh X.x rfl (X.d hd) rfl hv hl q
theorem g_astore (X : Sd l Z n0 y B ml rt R k T h cc ss) {i : Nat} {v : Value} (hd : decode B pc = .ok (.astore i, 2)) (hv : v.isRef = true) (L' : Array Slot) (hl : storeLocals Ls i v = some L') (pc' : Nat) (hp : pc + 2 = pc') (K : Go k n0 Q kc ks T pc' L' st) : Go k n0 Q kc ks T pc Ls (v :: st) := by subst hp; exact K.of fun _ q => XS.astore X.hh X.x rfl (X.d hd) rfl hv hl q
theorem g_iconst (X : Sd l Z n0 y B ml rt R k T h cc ss) {i : Int} (v : Int32) (hd : decode B pc = .ok (.iconst i, 1)) (hv : Int32.ofInt i = v) (pc' : Nat) (hp : pc + 1 = pc') (K : Go k n0 Q kc ks T pc' Ls (.int v :: st)) : Go k n0 Q kc ks T pc Ls st := by subst hp; exact K.of fun _ q => XT.iconstV X.hh X.x rfl v (X.d hd) hv q
theorem g_bipush (X : Sd l Z n0 y B ml rt R k T h cc ss) {i : Int} (v : Int32) (hd : decode B pc = .ok (.bipush i, 2)) (hv : (Int8.ofInt i).toInt32 = v) (pc' : Nat) (hp : pc + 2 = pc') (K : Go k n0 Q kc ks T pc' Ls (.int v :: st)) : Go k n0 Q kc ks T pc Ls st := by subst hp; exact K.of fun _ q => XT.bipushV X.hh X.x rfl v (X.d hd) hv q
theorem g_sipush (X : Sd l Z n0 y B ml rt R k T h cc ss) {i : Int} (v : Int32) (hd : decode B pc = .ok (.sipush i, 3)) (hv : (Int16.ofInt i).toInt32 = v) (pc' : Nat) (hp : pc + 3 = pc') (K : Go k n0 Q kc ks T pc' Ls (.int v :: st)) : Go k n0 Q kc ks T pc Ls st := by subst hp; exact K.of fun _ q => XT.sipushV X.hh X.x rfl v (X.d hd) hv q
theorem g_lconst (X : Sd l Z n0 y B ml rt R k T h cc ss) {i : Fin 2} (v : Int64) (hd : decode B pc = .ok (.lconst i, 1)) (hv : Int64.ofNat i = v) (pc' : Nat) (hp : pc + 1 = pc') (K : Go k n0 Q kc ks T pc' Ls (.long v :: st)) : Go k n0 Q kc ks T pc Ls st := by subst hp; exact K.of fun _ q => XT.lconstV X.hh X.x rfl v (X.d hd) hv q
theorem g_null (X : Sd l Z n0 y B ml rt R k T h cc ss) (hd : decode B pc = .ok (.aconst_null, 1)) (pc' : Nat) (hp : pc + 1 = pc') (K : Go k n0 Q kc ks T pc' Ls (.null :: st)) : Go k n0 Q kc ks T pc Ls st := by subst hp; exact K.of fun _ q => XS.aconstNull X.hh X.x rfl (X.d hd) q
theorem g_iinc (X : Sd l Z n0 y B ml rt R k T h cc ss) {i : Nat} {cst : Int} {x : Int32} (v : Int32) (hd : decode B pc = .ok (.iinc i cst, 3)) (hv : Int32.ofInt cst = v) (hl : Ls[i]? = some (.val (.int x))) (L' : Array Slot) (hl' : storeLocals Ls i (.int (x + v)) = some L') (pc' : Nat) (hp : pc + 3 = pc') (K : Go k n0 Q kc ks T pc' L' st) : Go k n0 Q kc ks T pc Ls st := by subst hp; exact K.of fun _ q => XT.iincV X.hh X.x rfl v (X.d hd) hv hl hl' q
/-! arithmetic -/
theorem g_iadd (X : Sd l Z n0 y B ml rt R k T h cc ss) {a b : Int32} (hd : decode B pc = .ok (.iadd, 1)) (pc' : Nat) (hp : pc + 1 = pc') (K : Go k n0 Q kc ks T pc' Ls (.int (a + b) :: st)) : Go k n0 Q kc ks T pc Ls (.int b :: .int a :: st) := by subst hp; exact K.of fun _ q => XS.iadd X.hh X.x rfl (X.d hd) rfl q
theorem g_isub (X : Sd l Z n0 y B ml rt R k T h cc ss) {a b : Int32} (hd : decode B pc = .ok (.isub, 1)) (pc' : Nat) (hp : pc + 1 = pc') (K : Go k n0 Q kc ks T pc' Ls (.int (a - b) :: st)) : Go k n0 Q kc ks T pc Ls (.int b :: .int a :: st) := by subst hp; exact K.of fun _ q => XS.isub X.hh X.x rfl (X.d hd) rfl q
theorem g_imul (X : Sd l Z n0 y B ml rt R k T h cc ss) {a b : Int32} (hd : decode B pc = .ok (.imul, 1)) (pc' : Nat) (hp : pc + 1 = pc') (K : Go k n0 Q kc ks T pc' Ls (.int (a * b) :: st)) : Go k n0 Q kc ks T pc Ls (.int b :: .int a :: st) := by subst hp; exact K.of fun _ q => XS.imul X.hh X.x rfl (X.d hd) rfl q
theorem g_idiv (X : Sd l Z n0 y B ml rt R k T h cc ss) {a b : Int32} (hd : decode B pc = .ok (.idiv, 1)) (hb : b ≠ 0) (pc' : Nat) (hp : pc + 1 = pc') (K : Go k n0 Q kc ks T pc' Ls (.int (a / b) :: st)) : Go k n0 Q kc ks T pc Ls (.int b :: .int a :: st) := by subst hp; exact K.of fun _ q => XS.idiv X.hh X.x rfl (X.d hd) rfl hb q
theorem g_irem (X : Sd l Z n0 y B ml rt R k T h cc ss) {a b : Int32} (hd : decode B pc = .ok (.irem, 1)) (hb : b ≠ 0) (pc' : Nat) (hp : pc + 1 = pc') (K : Go k n0 Q kc ks T pc' Ls (.int (a % b) :: st)) : Go k n0 Q kc ks T pc Ls (.int b :: .int a :: st) := by
  subst hp; obtain ⟨⟨locs, Y, N⟩, eh, hc⟩ := X
  exact K.of fun _ q => iremM Y hc.1 (g := mkF (owm k) pc Ls (.int b :: .int a :: st)) rfl (Jvm.hb hc.2.2.2.1 hd) rfl hb q
theorem g_iand (X : Sd l Z n0 y B ml rt R k T h cc ss) {a b : Int32} (hd : decode B pc = .ok (.iand, 1)) (pc' : Nat) (hp : pc + 1 = pc') (K : Go k n0 Q kc ks T pc' Ls (.int (a &&& b) :: st)) : Go k n0 Q kc ks T pc Ls (.int b :: .int a :: st) := by subst hp; exact K.of fun _ q => XS.iand X.hh X.x rfl (X.d hd) rfl q
theorem g_ior (X : Sd l Z n0 y B ml rt R k T h cc ss) {a b : Int32} (hd : decode B pc = .ok (.ior, 1)) (pc' : Nat) (hp : pc + 1 = pc') (K : Go k n0 Q kc ks T pc' Ls (.int (a ||| b) :: st)) : Go k n0 Q kc ks T pc Ls (.int b :: .int a :: st) := by subst hp; exact K.of fun _ q => XS.ior X.hh X.x rfl (X.d hd) rfl q
theorem g_ixor (X : Sd l Z n0 y B ml rt R k T h cc ss) {a b : Int32} (hd : decode B pc = .ok (.ixor, 1)) (pc' : Nat) (hp : pc + 1 = pc') (K : Go k n0 Q kc ks T pc' Ls (.int (a ^^^ b) :: st)) : Go k n0 Q kc ks T pc Ls (.int b :: .int a :: st) := by subst hp; exact K.of fun _ q => XS.ixor X.hh X.x rfl (X.d hd) rfl q
theorem g_ishl (X : Sd l Z n0 y B ml rt R k T h cc ss) {a b : Int32} (hd : decode B pc = .ok (.ishl, 1)) (pc' : Nat) (hp : pc + 1 = pc') (K : Go k n0 Q kc ks T pc' Ls (.int (a <<< (b &&& 31)) :: st)) : Go k n0 Q kc ks T pc Ls (.int b :: .int a :: st) := by subst hp; exact K.of fun _ q => XS.ishl X.hh X.x rfl (X.d hd) rfl q
theorem g_ishr (X : Sd l Z n0 y B ml rt R k T h cc ss) {a b : Int32} (hd : decode B pc = .ok (.ishr, 1)) (pc' : Nat) (hp : pc + 1 = pc') (K : Go k n0 Q kc ks T pc' Ls (.int (a >>> (b &&& 31)) :: st)) : Go k n0 Q kc ks T pc Ls (.int b :: .int a :: st) := by subst hp; exact K.of fun _ q => XS.ishr X.hh X.x rfl (X.d hd) rfl q
theorem g_iushr (X : Sd l Z n0 y B ml rt R k T h cc ss) {a b : Int32} (hd : decode B pc = .ok (.iushr, 1)) (pc' : Nat) (hp : pc + 1 = pc') (K : Go k n0 Q kc ks T pc' Ls (.int ((a.toUInt32 >>> (b &&& 31).toUInt32).toInt32) :: st)) : Go k n0 Q kc ks T pc Ls (.int b :: .int a :: st) := by subst hp; exact K.of fun _ q => XS.iushr X.hh X.x rfl (X.d hd) rfl q
theorem g_ineg (X : Sd l Z n0 y B ml rt R k T h cc ss) {a : Int32} (hd : decode B pc = .ok (.ineg, 1)) (pc' : Nat) (hp : pc + 1 = pc') (K : Go k n0 Q kc ks T pc' Ls (.int (-a) :: st)) : Go k n0 Q kc ks T pc Ls (.int a :: st) := by subst hp; exact K.of fun _ q => XS.ineg X.hh X.x rfl (X.d hd) rfl q
theorem g_ladd (X : Sd l Z n0 y B ml rt R k T h cc ss) {a b : Int64} (hd : decode B pc = .ok (.ladd, 1)) (pc' : Nat) (hp : pc + 1 = pc') (K : Go k n0 Q kc ks T pc' Ls (.long (a + b) :: st)) : Go k n0 Q kc ks T pc Ls (.long b :: .long a :: st) := by subst hp; exact K.of fun _ q => XS.ladd X.hh X.x rfl (X.d hd) rfl q
theorem g_lsub (X : Sd l Z n0 y B ml rt R k T h cc ss) {a b : Int64} (hd : decode B pc = .ok (.lsub, 1)) (pc' : Nat) (hp : pc + 1 = pc') (K : Go k n0 Q kc ks T pc' Ls (.long (a - b) :: st)) : Go k n0 Q kc ks T pc Ls (.long b :: .long a :: st) := by subst hp; exact K.of fun _ q => XS.lsub X.hh X.x rfl (X.d hd) rfl q
theorem g_land (X : Sd l Z n0 y B ml rt R k T h cc ss) {a b : Int64} (hd : decode B pc = .ok (.land, 1)) (pc' : Nat) (hp : pc + 1 = pc') (K : Go k n0 Q kc ks T pc' Ls (.long (a &&& b) :: st)) : Go k n0 Q kc ks T pc Ls (.long b :: .long a :: st) := by subst hp; exact K.of fun _ q => XS.land X.hh X.x rfl (X.d hd) rfl q
theorem g_lushr (X : Sd l Z n0 y B ml rt R k T h cc ss) {a : Int64} {b : Int32} (hd : decode B pc = .ok (.lushr, 1)) (pc' : Nat) (hp : pc + 1 = pc') (K : Go k n0 Q kc ks T pc' Ls (.long ((a.toUInt64 >>> (b &&& 0x3f).toInt64.toUInt64).toInt64) :: st)) : Go k n0 Q kc ks T pc Ls (.int b :: .long a :: st) := by subst hp; exact K.of fun _ q => XS.lushr X.hh X.x rfl (X.d hd) rfl q
theorem g_i2l (X : Sd l Z n0 y B ml rt R k T h cc ss) {a : Int32} (hd : decode B pc = .ok (.i2l, 1)) (pc' : Nat) (hp : pc + 1 = pc') (K : Go k n0 Q kc ks T pc' Ls (.long a.toInt64 :: st)) : Go k n0 Q kc ks T pc Ls (.int a :: st) := by subst hp; exact K.of fun _ q => XS.i2l X.hh X.x rfl (X.d hd) rfl q
theorem g_l2i (X : Sd l Z n0 y B ml rt R k T h cc ss) {a : Int64} (hd : decode B pc = .ok (.l2i, 1)) (pc' : Nat) (hp : pc + 1 = pc') (K : Go k n0 Q kc ks T pc' Ls (.int a.toInt32 :: st)) : Go k n0 Q kc ks T pc Ls (.long a :: st) := by subst hp; exact K.of fun _ q => XS.l2i X.hh X.x rfl (X.d hd) rfl q
theorem g_i2b (X : Sd l Z n0 y B ml rt R k T h cc ss) {a : Int32} (hd : decode B pc = .ok (.i2b, 1)) (pc' : Nat) (hp : pc + 1 = pc') (K : Go k n0 Q kc ks T pc' Ls (.int a.toInt8.toInt32 :: st)) : Go k n0 Q kc ks T pc Ls (.int a :: st) := by subst hp; exact K.of fun _ q => XS.i2b X.hh X.x rfl (X.d hd) rfl q
theorem g_i2c (X : Sd l Z n0 y B ml rt R k T h cc ss) {a : Int32} (hd : decode B pc = .ok (.i2c, 1)) (pc' : Nat) (hp : pc + 1 = pc') (K : Go k n0 Q kc ks T pc' Ls (.int a.toUInt32.toUInt16.toUInt32.toInt32 :: st)) : Go k n0 Q kc ks T pc Ls (.int a :: st) := by subst hp; exact K.of fun _ q => XS.i2c X.hh X.x rfl (X.d hd) rfl q
theorem g_lcmp (X : Sd l Z n0 y B ml rt R k T h cc ss) {a b : Int64} (hd : decode B pc = .ok (.lcmp, 1)) (pc' : Nat) (hp : pc + 1 = pc') (K : Go k n0 Q kc ks T pc' Ls (.int (XT.cmpL a b) :: st)) : Go k n0 Q kc ks T pc Ls (.long b :: .long a :: st) := by subst hp; exact K.of fun _ q => XT.lcmp X.hh X.x rfl (X.d hd) rfl q
/-! the stack -/
theorem g_dup (X : Sd l Z n0 y B ml rt R k T h cc ss) {v : Value} (hd : decode B pc = .ok (.dup, 1)) (hc : v.category = 1) (pc' : Nat) (hp : pc + 1 = pc') (K : Go k n0 Q kc ks T pc' Ls (v :: v :: st)) : Go k n0 Q kc ks T pc Ls (v :: st) := by subst hp; exact K.of fun _ q => XS.dup X.hh X.x rfl (X.d hd) rfl hc q
theorem g_pop (X : Sd l Z n0 y B ml rt R k T h cc ss) {v : Value} (hd : decode B pc = .ok (.pop, 1)) (hc : v.category = 1) (pc' : Nat) (hp : pc + 1 = pc') (K : Go k n0 Q kc ks T pc' Ls st) : Go k n0 Q kc ks T pc Ls (v :: st) := by subst hp; exact K.of fun _ q => XS.pop X.hh X.x rfl (X.d hd) rfl hc q
theorem g_dupX1 (X : Sd l Z n0 y B ml rt R k T h cc ss) {v w : Value} (hd : decode B pc = .ok (.dup_x1, 1)) (hc : v.category = 1) (hc2 : w.category = 1) (pc' : Nat) (hp : pc + 1 = pc') (K : Go k n0 Q kc ks T pc' Ls (v :: w :: v :: st)) : Go k n0 Q kc ks T pc Ls (v :: w :: st) := by subst hp; exact K.of fun _ q => XS.dupX1 X.hh X.x rfl (X.d hd) rfl hc hc2 q
theorem g_dup2 (X : Sd l Z n0 y B ml rt R k T h cc ss) {v w : Value} (hd : decode B pc = .ok (.dup2, 1)) (hc : v.category = 1) (hc2 : w.category = 1) (pc' : Nat) (hp : pc + 1 = pc') (K : Go k n0 Q kc ks T pc' Ls (v :: w :: v :: w :: st)) : Go k n0 Q kc ks T pc Ls (v :: w :: st) := by subst hp; exact K.of fun _ q => XT.dup2 X.hh X.x rfl (X.d hd) rfl hc hc2 q
/-! jumps -/
theorem g_goto (X : Sd l Z n0 y B ml rt R k T h cc ss) {o : Int} (hd : decode B pc = .ok (.goto o, 3)) (pc' : Nat) (ho : 0 ≤ (pc : Int) + o) (hp : ((pc : Int) + o).toNat = pc') (K : Go k n0 Q kc ks T pc' Ls st) : Go k n0 Q kc ks T pc Ls st := K.of fun _ q => XS.goto X.hh X.x rfl rfl (X.d hd) ho hp q
theorem g_if (X : Sd l Z n0 y B ml rt R k T h cc ss) {cd : ClassFile.Cond} {a : Int32} {o : Int} {C : Prop} (hc : ifCond.holds cd a = true ↔ C) (hd : decode B pc = .ok (.ifCond cd o, 3)) (pT : Nat) (ho : 0 ≤ (pc : Int) + o) (hT : ((pc : Int) + o).toNat = pT) (pF : Nat) (hF : pc + 3 = pF) (K1 : C → Go k n0 Q kc ks T pT Ls st) (K2 : ¬ C → Go k n0 Q kc ks T pF Ls st) : Go k n0 Q kc ks T pc Ls (.int a :: st) := by
  subst hF
  cases q : ifCond.holds cd a with
  | true => exact (K1 (hc.mp q)).of fun _ z => XS.ifYes X.hh X.x rfl rfl (X.d hd) rfl q ho hT z
  | false => exact (K2 (fun z => by rw [hc.mpr z] at q; cases q)).of fun _ z => XS.ifNo X.hh X.x rfl (X.d hd) rfl q z
theorem g_icmp (X : Sd l Z n0 y B ml rt R k T h cc ss) {cd : ClassFile.Cond} {a b : Int32} {o : Int} {C : Prop} (hc : if_icmp.holds cd a b = true ↔ C) (hd : decode B pc = .ok (.if_icmp cd o, 3)) (pT : Nat) (ho : 0 ≤ (pc : Int) + o) (hT : ((pc : Int) + o).toNat = pT) (pF : Nat) (hF : pc + 3 = pF) (K1 : C → Go k n0 Q kc ks T pT Ls st) (K2 : ¬ C → Go k n0 Q kc ks T pF Ls st) : Go k n0 Q kc ks T pc Ls (.int b :: .int a :: st) := by
  subst hF
  cases q : if_icmp.holds cd a b with
  | true => exact (K1 (hc.mp q)).of fun _ z => XS.icmpYes X.hh X.x rfl rfl (X.d hd) rfl q ho hT z
  | false => exact (K2 (fun z => by rw [hc.mpr z] at q; cases q)).of fun _ z => XS.icmpNo X.hh X.x rfl (X.d hd) rfl q z
/-- the same, told the other way round: the jump is taken where C fails -/
theorem g_ifN (X : Sd l Z n0 y B ml rt R k T h cc ss) {cd : ClassFile.Cond} {a : Int32} {o : Int} {C : Prop} (hc : ifCond.holds cd a = true ↔ ¬ C) (hd : decode B pc = .ok (.ifCond cd o, 3)) (pT : Nat) (ho : 0 ≤ (pc : Int) + o) (hT : ((pc : Int) + o).toNat = pT) (pF : Nat) (hF : pc + 3 = pF) (K1 : C → Go k n0 Q kc ks T pF Ls st) (K2 : ¬ C → Go k n0 Q kc ks T pT Ls st) : Go k n0 Q kc ks T pc Ls (.int a :: st) :=
  g_if X hc hd pT ho hT pF hF K2 fun q => K1 (Classical.not_not.mp q)
theorem g_icmpN (X : Sd l Z n0 y B ml rt R k T h cc ss) {cd : ClassFile.Cond} {a b : Int32} {o : Int} {C : Prop} (hc : if_icmp.holds cd a b = true ↔ ¬ C) (hd : decode B pc = .ok (.if_icmp cd o, 3)) (pT : Nat) (ho : 0 ≤ (pc : Int) + o) (hT : ((pc : Int) + o).toNat = pT) (pF : Nat) (hF : pc + 3 = pF) (K1 : C → Go k n0 Q kc ks T pF Ls st) (K2 : ¬ C → Go k n0 Q kc ks T pT Ls st) : Go k n0 Q kc ks T pc Ls (.int b :: .int a :: st) :=
  g_icmp X hc hd pT ho hT pF hF K2 fun q => K1 (Classical.not_not.mp q)
theorem z_eq {a : Int32} : ifCond.holds .eq a = true ↔ a = 0 := by simp [ifCond.holds]
theorem z_ne {a : Int32} : ifCond.holds .ne a = true ↔ ¬ a = 0 := by simp [ifCond.holds]
theorem z_lt {a : Int32} : ifCond.holds .lt a = true ↔ a < 0 := by simp [ifCond.holds]
theorem z_ge {a : Int32} : ifCond.holds .ge a = true ↔ ¬ a < 0 := by simp [ifCond.holds, Int32.not_lt]
theorem z_gt {a : Int32} : ifCond.holds .gt a = true ↔ 0 < a := by simp [ifCond.holds]
theorem z_le {a : Int32} : ifCond.holds .le a = true ↔ ¬ 0 < a := by simp [ifCond.holds, Int32.not_lt]
theorem i_eq {a b : Int32} : if_icmp.holds .eq a b = true ↔ a = b := by simp [if_icmp.holds]
theorem i_ne {a b : Int32} : if_icmp.holds .ne a b = true ↔ ¬ a = b := by simp [if_icmp.holds]
theorem i_lt {a b : Int32} : if_icmp.holds .lt a b = true ↔ a < b := by simp [if_icmp.holds]
theorem i_ge {a b : Int32} : if_icmp.holds .ge a b = true ↔ ¬ a < b := by simp [if_icmp.holds, Int32.not_lt]
theorem i_gt {a b : Int32} : if_icmp.holds .gt a b = true ↔ b < a := by simp [if_icmp.holds]
theorem i_le {a b : Int32} : if_icmp.holds .le a b = true ↔ ¬ b < a := by simp [if_icmp.holds, Int32.not_lt]
theorem l_of {b : Bool} {C : Prop} (h1 : C → b = true) (h2 : ¬ C → b = false) : b = true ↔ C := ⟨fun q => Classical.byContradiction fun z => Bool.noConfusion ((h2 z).symm.trans q), h1⟩
theorem l_eq {a b : Int64} : ifCond.holds .eq (XT.cmpL a b) = true ↔ a = b := l_of XT.ll_eq_t XT.ll_eq_f
theorem l_ne {a b : Int64} : ifCond.holds .ne (XT.cmpL a b) = true ↔ ¬ a = b := l_of XT.ll_ne_t (fun q => XT.ll_ne_f (Classical.not_not.mp q))
theorem l_lt {a b : Int64} : ifCond.holds .lt (XT.cmpL a b) = true ↔ a < b := l_of XT.ll_lt_t XT.ll_lt_f
theorem l_ge {a b : Int64} : ifCond.holds .ge (XT.cmpL a b) = true ↔ ¬ a < b := l_of XT.ll_ge_t (fun q => XT.ll_ge_f (Classical.not_not.mp q))
theorem l_gt {a b : Int64} : ifCond.holds .gt (XT.cmpL a b) = true ↔ b < a := l_of XT.ll_gt_t XT.ll_gt_f
theorem l_le {a b : Int64} : ifCond.holds .le (XT.cmpL a b) = true ↔ ¬ b < a := l_of XT.ll_le_t (fun q => XT.ll_le_f (Classical.not_not.mp q))
theorem g_nullY (X : Sd l Z n0 y B ml rt R k T h cc ss) {o : Int} (hd : decode B pc = .ok (.ifnull o, 3)) (pc' : Nat) (ho : 0 ≤ (pc : Int) + o) (hp : ((pc : Int) + o).toNat = pc') (K : Go k n0 Q kc ks T pc' Ls st) : Go k n0 Q kc ks T pc Ls (.null :: st) := K.of fun _ q => XS.ifnullYes X.hh X.x rfl rfl (X.d hd) rfl ho hp q
theorem g_nullN (X : Sd l Z n0 y B ml rt R k T h cc ss) {o : Int} {a : Addr} (hd : decode B pc = .ok (.ifnull o, 3)) (pc' : Nat) (hp : pc + 3 = pc') (K : Go k n0 Q kc ks T pc' Ls st) : Go k n0 Q kc ks T pc Ls (.ref a :: st) := by subst hp; exact K.of fun _ q => XS.ifnullNo X.hh X.x rfl (X.d hd) rfl q
theorem g_nonnullY (X : Sd l Z n0 y B ml rt R k T h cc ss) {o : Int} {a : Addr} (hd : decode B pc = .ok (.ifnonnull o, 3)) (pc' : Nat) (ho : 0 ≤ (pc : Int) + o) (hp : ((pc : Int) + o).toNat = pc') (K : Go k n0 Q kc ks T pc' Ls st) : Go k n0 Q kc ks T pc Ls (.ref a :: st) := K.of fun _ q => XS.ifnonnullYes X.hh X.x rfl rfl (X.d hd) rfl ho hp q
theorem g_nonnullN (X : Sd l Z n0 y B ml rt R k T h cc ss) {o : Int} (hd : decode B pc = .ok (.ifnonnull o, 3)) (pc' : Nat) (hp : pc + 3 = pc') (K : Go k n0 Q kc ks T pc' Ls st) : Go k n0 Q kc ks T pc Ls (.null :: st) := by subst hp; exact K.of fun _ q => XS.ifnonnullNo X.hh X.x rfl (X.d hd) rfl q
theorem g_acmpY (X : Sd l Z n0 y B ml rt R k T h cc ss) {cd : ClassFile.ACond} {v w : Value} {o : Int} (hd : decode B pc = .ok (.if_acmp cd o, 3)) (hv : v.isRef = true) (hw : w.isRef = true) (hc : XT.acmp cd v w = true) (pc' : Nat) (ho : 0 ≤ (pc : Int) + o) (hp : ((pc : Int) + o).toNat = pc') (K : Go k n0 Q kc ks T pc' Ls st) : Go k n0 Q kc ks T pc Ls (w :: v :: st) := K.of fun _ q => XT.acmpYes X.hh X.x rfl rfl (X.d hd) rfl hv hw hc ho hp q
theorem g_acmpN (X : Sd l Z n0 y B ml rt R k T h cc ss) {cd : ClassFile.ACond} {v w : Value} {o : Int} (hd : decode B pc = .ok (.if_acmp cd o, 3)) (hv : v.isRef = true) (hw : w.isRef = true) (hc : XT.acmp cd v w = false) (pc' : Nat) (hp : pc + 3 = pc') (K : Go k n0 Q kc ks T pc' Ls st) : Go k n0 Q kc ks T pc Ls (w :: v :: st) := by subst hp; exact K.of fun _ q => XT.acmpNo X.hh X.x rfl (X.d hd) rfl hv hw hc q
theorem a_eq {a b : Addr} : XT.acmp .eq (.ref a) (.ref b) = true ↔ a = b := by simp [XT.acmp]
theorem a_ne {a b : Addr} : XT.acmp .ne (.ref a) (.ref b) = true ↔ ¬ a = b := by simp [XT.acmp]
theorem g_acmp (X : Sd l Z n0 y B ml rt R k T h cc ss) {cd : ClassFile.ACond} {a b : Addr} {o : Int} {C : Prop} (hc : XT.acmp cd (.ref a) (.ref b) = true ↔ C) (hd : decode B pc = .ok (.if_acmp cd o, 3)) (pT : Nat) (ho : 0 ≤ (pc : Int) + o) (hT : ((pc : Int) + o).toNat = pT) (pF : Nat) (hF : pc + 3 = pF) (K1 : C → Go k n0 Q kc ks T pT Ls st) (K2 : ¬ C → Go k n0 Q kc ks T pF Ls st) : Go k n0 Q kc ks T pc Ls (.ref b :: .ref a :: st) := by
  cases q : XT.acmp cd (.ref a) (.ref b) with
  | true => exact g_acmpY X hd rfl rfl q pT ho hT (K1 (hc.mp q))
  | false => exact g_acmpN X hd rfl rfl q pF hF (K2 (fun z => by rw [hc.mpr z] at q; cases q))
theorem g_acmpNN (X : Sd l Z n0 y B ml rt R k T h cc ss) {cd : ClassFile.ACond} {a b : Addr} {o : Int} {C : Prop} (hc : XT.acmp cd (.ref a) (.ref b) = true ↔ ¬ C) (hd : decode B pc = .ok (.if_acmp cd o, 3)) (pT : Nat) (ho : 0 ≤ (pc : Int) + o) (hT : ((pc : Int) + o).toNat = pT) (pF : Nat) (hF : pc + 3 = pF) (K1 : C → Go k n0 Q kc ks T pF Ls st) (K2 : ¬ C → Go k n0 Q kc ks T pT Ls st) : Go k n0 Q kc ks T pc Ls (.ref b :: .ref a :: st) :=
  g_acmp X hc hd pT ho hT pF hF K2 fun q => K1 (Classical.not_not.mp q)
/-! constants of the pool -/
theorem g_ldcI (X : Sd l Z n0 y B ml rt R k T h cc ss) {i : Nat} {v : Int32} (w : (Jvm.Cond.constant y.cls i v).before a0 Z = true) (hd : decode B pc = .ok (.ldc i, 2)) (pc' : Nat) (hp : pc + 2 = pc') (K : Go k n0 Q kc ks T pc' Ls (.int v :: st)) : Go k n0 Q kc ks T pc Ls st := by
  subst hp; obtain ⟨⟨locs, Y, N⟩, eh, hx, hZ, hown, hby, -⟩ := X
  exact K.of fun _ q => Y.ldcI hx hown (mv hZ w) rfl (Jvm.hb hby hd) q
theorem g_ldc2J (X : Sd l Z n0 y B ml rt R k T h cc ss) {i : Nat} {v : Int64} (w : (Jvm.Cond.constantLong y.cls i v).before a0 Z = true) (hd : decode B pc = .ok (.ldc2_w i, 3)) (pc' : Nat) (hp : pc + 3 = pc') (K : Go k n0 Q kc ks T pc' Ls (.long v :: st)) : Go k n0 Q kc ks T pc Ls st := by
  subst hp; obtain ⟨⟨locs, Y, N⟩, eh, hx, hZ, hown, hby, -⟩ := X
  exact K.of fun _ q => Y.ldc2J hx hown (mv hZ w) rfl (Jvm.hb hby hd) q
/-! returns -/
theorem g_retI (X : Sd l Z n0 y B ml (some .int) R k T h cc ss) {z : Int32} (hd : decode B pc = .ok (.ireturn, 1)) (hk : cc ≤ kc) (hs : ss ≤ ks) (hQ : Q (some (.int z)) h) : Go k n0 Q kc ks T pc Ls [.int z] :=
  Go.end X hk hs (fun q => nomatch q) (fun fs hr => by obtain ⟨⟨locs, Y, N⟩, eh, hx, hZ, hown, hby, hml, hnm, hrt, hlk⟩ := X; exact Y.ireturnOut hx hrt rfl (Or.inl rfl) (Jvm.hb hby hd) hr) hQ
theorem g_retN (X : Sd l Z n0 y B ml rt R k T h cc ss) {z : Int32} {t : FieldType} (hrt : rt = some t) (ht : t = .boolean ∨ t = .byte ∨ t = .char ∨ t = .short) (hd : decode B pc = .ok (.ireturn, 1)) (hk : cc ≤ kc) (hs : ss ≤ ks) (hQ : Q (some (.int (nar t z))) h) : Go k n0 Q kc ks T pc Ls [.int z] :=
  Go.end X hk hs (fun q => by rw [hrt] at q; cases q) (fun fs hr => by obtain ⟨⟨locs, Y, N⟩, eh, hx, hZ, hown, hby, hml, hnm, hrt', hlk⟩ := X; exact retN Y hx (hrt'.trans hrt) ht (Jvm.hb hby hd) hr) hQ
theorem g_retZ (X : Sd l Z n0 y B ml (some .boolean) R k T h cc ss) {z : Int32} (hd : decode B pc = .ok (.ireturn, 1)) (hk : cc ≤ kc) (hs : ss ≤ ks) (hQ : Q (some (.int (z &&& 1))) h) : Go k n0 Q kc ks T pc Ls [.int z] := g_retN X rfl (Or.inl rfl) hd hk hs hQ
theorem g_retL (X : Sd l Z n0 y B ml (some .long) R k T h cc ss) {z : Int64} (hd : decode B pc = .ok (.lreturn, 1)) (hk : cc ≤ kc) (hs : ss ≤ ks) (hQ : Q (some (.long z)) h) : Go k n0 Q kc ks T pc Ls [.long z] :=
  Go.end X hk hs (fun q => nomatch q) (fun fs hr => by obtain ⟨⟨locs, Y, N⟩, eh, hx, hZ, hown, hby, hml, hnm, hrt, hlk⟩ := X; exact Y.lreturnOut hx hrt (Jvm.hb hby hd) hr) hQ
theorem g_retA (X : Sd l Z n0 y B ml rt R k T h cc ss) {v : Value} {t : FieldType} (hrt : rt = some t) (ht : t.isReference = true) (hv : v.isRef = true) (hd : decode B pc = .ok (.areturn, 1)) (hk : cc ≤ kc) (hs : ss ≤ ks) (hQ : Q (some v) h) : Go k n0 Q kc ks T pc Ls [v] :=
  Go.end X hk hs (fun q => by rw [hrt] at q; cases q) (fun fs hr => by obtain ⟨⟨locs, Y, N⟩, eh, hx, hZ, hown, hby, hml, hnm, hrt', hlk⟩ := X; exact Y.areturnOut hx hv (hrt'.trans hrt) ht (Jvm.hb hby hd) hr) hQ
theorem g_ret (X : Sd l Z n0 y B ml none R k T h cc ss) (hd : decode B pc = .ok (.return_, 1)) (hk : cc ≤ kc) (hs : ss ≤ ks) (hQ : Q none h) : Go k n0 Q kc ks T pc Ls [] :=
  Go.end X hk hs (fun _ => rfl) (fun fs hr => by obtain ⟨⟨locs, Y, N⟩, eh, hx, hZ, hown, hby, hml, hnm, hrt, hlk⟩ := X; exact Y.returnOut hx hrt (Jvm.hb hby hd) hr) hQ
/-! objects -/
theorem g_new (X : Sd l Z n0 y B ml rt R k T h cc ss) {i n : Nat} {C : String} (w : (Jvm.Cond.classLink y.cls i C).before a0 Z = true) (wi : (Jvm.Cond.instantiable C n).before a0 Z = true) (wz : (Jvm.Cond.initialized C).before a0 Z = true) (hd : decode B pc = .ok (.new i, 3)) (hc : cc + 1 ≤ R.cells) (hl : ss + n ≤ R.slots) (pc' : Nat) (hp : pc + 3 = pc')
    (K : ∀ T' h' a, Sd l Z n0 y B ml rt R k T' h' (cc + 1) (ss + n) → a = h.size → Ext h h' → Exa Z h' a C → (∀ {O nm d : String} {ty : FieldType}, Laid Z a0 C O nm d → parseFieldDescriptor d = some ty → Fld Z h' a O nm d (defaultValue ty)) → Go k n0 Q kc ks T' pc' Ls (.ref a :: st)) : Go k n0 Q kc ks T pc Ls st := by
  subst hp; obtain ⟨⟨locs, Y, N⟩, eh, hx, hZ, hown, hby, hr⟩ := X
  obtain ⟨T2, h2, X2, e2, E2, A2, D2, -, st2⟩ := newO Y hx hZ hown w wi wz eh (g := mkF (owm k) pc Ls st) rfl (Jvm.hb hby hd) hc hl
  exact (K T2 h2 h.size ⟨⟨locs, X2, N⟩, e2, hx, hZ, hown, hby, hr⟩ rfl E2 A2 D2).of st2
theorem g_getF (X : Sd l Z n0 y B ml rt R k T h cc ss) {i : Nat} {R0 O n d : String} (w : (Jvm.Cond.fieldLink y.cls i R0 n d).before a0 Z = true) (via : Via Z R0 O n d) {a : Addr} {v : Value} (F : Fld Z h a O n d v) (hd : decode B pc = .ok (.getfield i, 3)) (pc' : Nat) (hp : pc + 3 = pc')
    (K : ∀ T', Sd l Z n0 y B ml rt R k T' h cc ss → Go k n0 Q kc ks T' pc' Ls (v :: st)) : Go k n0 Q kc ks T pc Ls (.ref a :: st) := by
  subst hp; obtain ⟨⟨locs, Y, N⟩, eh, hx, hZ, hown, hby, hr⟩ := X
  obtain ⟨T2, X2, e2, st2⟩ := getF Y hx hZ hown (host := "") (Or.inl w) via eh F (g := mkF (owm k) pc Ls (.ref a :: st)) rfl rfl (Jvm.hb hby hd)
  exact (K T2 ⟨⟨locs, X2, N⟩, e2, hx, hZ, hown, hby, hr⟩).of st2
theorem g_getFH (X : Sd l Z n0 y B ml rt R k T h cc ss) {i : Nat} {R0 O n d host : String} (w : (Jvm.Cond.fieldLinkNest y.cls i R0 n d host).before a0 Z = true) (via : Via Z R0 O n d) {a : Addr} {v : Value} (F : Fld Z h a O n d v) (hd : decode B pc = .ok (.getfield i, 3)) (pc' : Nat) (hp : pc + 3 = pc')
    (K : ∀ T', Sd l Z n0 y B ml rt R k T' h cc ss → Go k n0 Q kc ks T' pc' Ls (v :: st)) : Go k n0 Q kc ks T pc Ls (.ref a :: st) := by
  subst hp; obtain ⟨⟨locs, Y, N⟩, eh, hx, hZ, hown, hby, hr⟩ := X
  obtain ⟨T2, X2, e2, st2⟩ := getF Y hx hZ hown (Or.inr w) via eh F (g := mkF (owm k) pc Ls (.ref a :: st)) rfl rfl (Jvm.hb hby hd)
  exact (K T2 ⟨⟨locs, X2, N⟩, e2, hx, hZ, hown, hby, hr⟩).of st2
theorem g_getS (X : Sd l Z n0 y B ml rt R k T h cc ss) {i : Nat} {R0 O n d : String} (w : (Jvm.Cond.fieldLink y.cls i R0 n d).before a0 Z = true) (via : Via Z R0 O n d) {v : Value} (F : Sta Z h O n d v) (hd : decode B pc = .ok (.getstatic i, 3)) (pc' : Nat) (hp : pc + 3 = pc')
    (K : ∀ T', Sd l Z n0 y B ml rt R k T' h cc ss → Go k n0 Q kc ks T' pc' Ls (v :: st)) : Go k n0 Q kc ks T pc Ls st := by
  subst hp; obtain ⟨⟨locs, Y, N⟩, eh, hx, hZ, hown, hby, hr⟩ := X
  obtain ⟨T2, X2, e2, st2⟩ := getS2 Y hx hZ hown (host := "") (Or.inl w) via eh F (g := mkF (owm k) pc Ls st) rfl (Jvm.hb hby hd)
  exact (K T2 ⟨⟨locs, X2, N⟩, e2, hx, hZ, hown, hby, hr⟩).of st2
/-- a final field in a constructor of its class -/
theorem g_putFin (X : Sd l Z n0 y B ml rt R k T h cc ss) {i kk : Nat} {O n d C : String} (w : (Jvm.Cond.fieldLink y.cls i O n d).before a0 Z = true) {a : Addr} {v old : Value} (F : Fld Z h a O n d old) (E : Exa Z h a C) (L : (Jvm.Cond.laysFinal C O n d).before a0 Z = true) (ho : y.cls = O) (hi : y.name = "<init>") (wi : (Jvm.Cond.instantiable C kk).before a0 Z = true)
    (g0 : n0 ≤ a) (ty : FieldType) (hty : parseFieldDescriptor d = some ty) (hn : narrow ty v = v) (hf : fits ty v = true) (hd : decode B pc = .ok (.putfield i, 3)) (pc' : Nat) (hp : pc + 3 = pc')
    (K : ∀ T' h', Sd l Z n0 y B ml rt R k T' h' cc ss → Wr h h' a (Jvm.RoadKit.slotOf Z O n d) v → Go k n0 Q kc ks T' pc' Ls st) : Go k n0 Q kc ks T pc Ls (v :: .ref a :: st) := by
  subst hp; obtain ⟨⟨locs, Y, N⟩, eh, hx, hZ, hown, hby, hml, hnm, hr⟩ := X
  obtain ⟨T2, h2, X2, e2, W2, st2⟩ := putF Y hx hZ hown (host := "") (Or.inl w) Via.refl eh F E (Or.inr ⟨L, ho, hnm.trans hi⟩) wi hty hn hf (g := mkF (owm k) pc Ls (v :: .ref a :: st)) rfl rfl (Jvm.hb hby hd)
  exact (K T2 h2 ⟨⟨_, X2, Fr.snoc X2 N g0⟩, e2, hx, hZ, hown, hby, hml, hnm, hr⟩ W2).of st2
theorem g_putF (X : Sd l Z n0 y B ml rt R k T h cc ss) {i kk : Nat} {R0 O n d C : String} (w : (Jvm.Cond.fieldLink y.cls i R0 n d).before a0 Z = true) (via : Via Z R0 O n d) {a : Addr} {v old : Value} (F : Fld Z h a O n d old) (E : Exa Z h a C) (L : (Jvm.Cond.lays C O n d).before a0 Z = true) (wi : (Jvm.Cond.instantiable C kk).before a0 Z = true)
    (g0 : n0 ≤ a) (ty : FieldType) (hty : parseFieldDescriptor d = some ty) (hn : narrow ty v = v) (hf : fits ty v = true) (hd : decode B pc = .ok (.putfield i, 3)) (pc' : Nat) (hp : pc + 3 = pc')
    (K : ∀ T' h', Sd l Z n0 y B ml rt R k T' h' cc ss → Wr h h' a (Jvm.RoadKit.slotOf Z O n d) v → Go k n0 Q kc ks T' pc' Ls st) : Go k n0 Q kc ks T pc Ls (v :: .ref a :: st) := by
  subst hp; obtain ⟨⟨locs, Y, N⟩, eh, hx, hZ, hown, hby, hr⟩ := X
  obtain ⟨T2, h2, X2, e2, W2, st2⟩ := putF Y hx hZ hown (host := "") (Or.inl w) via eh F E (Or.inl L) wi hty hn hf (g := mkF (owm k) pc Ls (v :: .ref a :: st)) rfl rfl (Jvm.hb hby hd)
  exact (K T2 h2 ⟨⟨_, X2, Fr.snoc X2 N g0⟩, e2, hx, hZ, hown, hby, hr⟩ W2).of st2
theorem g_putFinN (X : Sd l Z n0 y B ml rt R k T h cc ss) {i kk : Nat} {O n d C : String} (w : (Jvm.Cond.fieldLink y.cls i O n d).before a0 Z = true) {a : Addr} {v old : Value} (v' : Value) (F : Fld Z h a O n d old) (E : Exa Z h a C) (L : (Jvm.Cond.laysFinal C O n d).before a0 Z = true) (ho : y.cls = O) (hi : y.name = "<init>") (wi : (Jvm.Cond.instantiable C kk).before a0 Z = true)
    (g0 : n0 ≤ a) (ty : FieldType) (hty : parseFieldDescriptor d = some ty) (hn : narrow ty v = v') (hf : fits ty v' = true) (hd : decode B pc = .ok (.putfield i, 3)) (pc' : Nat) (hp : pc + 3 = pc')
    (K : ∀ T' h', Sd l Z n0 y B ml rt R k T' h' cc ss → Wr h h' a (Jvm.RoadKit.slotOf Z O n d) v' → Go k n0 Q kc ks T' pc' Ls st) : Go k n0 Q kc ks T pc Ls (v :: .ref a :: st) := by
  subst hp; obtain ⟨⟨locs, Y, N⟩, eh, hx, hZ, hown, hby, hml, hnm, hr⟩ := X
  obtain ⟨T2, h2, X2, e2, W2, st2⟩ := putFN Y hx hZ hown w Via.refl eh F E (Or.inr ⟨L, ho, hnm.trans hi⟩) wi hty hn hf (g := mkF (owm k) pc Ls (v :: .ref a :: st)) rfl rfl (Jvm.hb hby hd)
  exact (K T2 h2 ⟨⟨_, X2, Fr.snoc X2 N g0⟩, e2, hx, hZ, hown, hby, hml, hnm, hr⟩ W2).of st2
theorem g_initO (X : Sd l Z n0 y B ml rt R k T h cc ss) {i : Nat} {a : Addr} (w1 : (Jvm.Cond.methodLink y.cls i Lib.objectInit).before a0 Z = true) (w2 : (Jvm.Cond.instanceMethod Lib.objectInit).before a0 Z = true) (w3 : (Jvm.Cond.code Lib.objectInit ⟨#[0xb1]⟩ 1 none).before a0 Z = true) (hsz : Ls.size = ml) (hf : 1 ≤ R.frames) (hl : (st.map fun v => v.category).sum + 12 ≤ R.locals) (hd : decode B pc = .ok (.invokespecial i, 3)) (pc' : Nat) (hp : pc + 3 = pc')
    (K : ∀ T', Sd l Z n0 y B ml rt R k T' h cc ss → Go k n0 Q kc ks T' pc' Ls st) : Go k n0 Q kc ks T pc Ls (.ref a :: st) := by
  subst hp; obtain ⟨⟨locs, Y, N⟩, eh, hx, hZ, hown, hby, hml, hr⟩ := X
  obtain ⟨T2, X2, e2, st2⟩ := initO Y hx hZ hown w1 w2 w3 eh (g := mkF (owm k) pc Ls (.ref a :: st)) rfl (hsz.trans hml.symm) rfl (Jvm.hb hby hd) hf (W := (st.map fun v => v.category).sum) (by show 2 * 0 + _ ≤ _; omega) hl
  exact (K T2 ⟨⟨locs, X2, N⟩, e2, hx, hZ, hown, hby, hml, hr⟩).of st2
/-! calls -/
theorem g_callS (X : Sd l Z n0 y B ml rt R k T h cc ss) {i : Nat} {z : MethodName} {Bz : ByteArray} {mz : Nat} {rz : Option FieldType} {rm : Room} {Qz : Option Value → Heap → Prop} (argsL rest : List Value) {ps : List FieldType} {pr : Option FieldType} (M : Met l Z n0 z Bz mz rz [] rm argsL.toArray h Qz rm.cells rm.slots)
    (w1 : (Jvm.Cond.methodLink y.cls i z).before a0 Z = true) (w2 : (Jvm.Cond.static z).before a0 Z = true) (w3 : (Jvm.Cond.initialized z.cls).before a0 Z = true) (w4 : (Jvm.Cond.code z Bz mz rz).before a0 Z = true) (hy : z.cls ≠ "java/lang/invoke/MethodHandle" ∧ z.cls ≠ "java/lang/invoke/VarHandle") (pd : parseMethodDescriptor z.desc = some ⟨ps, pr⟩) (hlen : argsL.length = ps.length)
    (hsz : Ls.size = ml) (hf : rm.frames + 1 ≤ R.frames) (hlo : (rest.map fun v => v.category).sum + (mz + 11) + rm.locals ≤ R.locals) (hc : cc + rm.cells ≤ R.cells) (hs : ss + rm.slots ≤ R.slots) (hd : decode B pc = .ok (.invokestatic i, 3)) (hst : st = argsL.reverse ++ rest) (pc' : Nat) (hp : pc + 3 = pc')
    (K : ∀ v T' h', Sd l Z n0 y B ml rt R k T' h' (cc + rm.cells) (ss + rm.slots) → Qz v h' → Go k n0 Q kc ks T' pc' Ls (v.toList ++ rest)) : Go k n0 Q kc ks T pc Ls st := by
  subst hp; obtain ⟨⟨locs, Y, N⟩, eh, hx, hZ, hown, hby, hml, hr⟩ := X
  obtain ⟨v, _, ⟨T', L', c', n'⟩, -, X', ⟨Lc, hQ, l1, y1, z1⟩, stp⟩ := Jvm.LawKit.callS Y hx (y := z) hown (mvT hZ w1) (mvT hZ w2) (mvT hZ w3) (mvT hZ w4) hy (backOf (W := (rest.map fun v => v.category).sum) (Q := fun v h L => Fr n0 L ∧ Qz v h) M hZ w4 w3 hf hlo) (g := mkF (owm k) pc Ls st) rfl (hsz.trans hml.symm) (argsL := argsL) (rest := rest) (lenOf pd hlen) hst (by show 2 * 0 + _ ≤ _; omega) (Jvm.hb hby hd) (fun _ _ => ⟨rfl, eh, hc, hs⟩)
  dsimp only [Pt.U, Pt.locs, Pt.cells, Pt.slots] at X' l1 y1 z1 stp hQ
  subst l1 y1 z1
  exact (K v T' _ ⟨⟨_, X', N.app hQ.1⟩, rfl, hx, hZ, hown, hby, hml, hr⟩ hQ.2).of stp
theorem g_callI (X : Sd l Z n0 y B ml rt R k T h cc ss) {i : Nat} {z : MethodName} {Bz : ByteArray} {mz : Nat} {rm : Room} {Qz : Option Value → Heap → Prop} (a : Addr) (argsL rest : List Value) {ps : List FieldType} {pr : Option FieldType} (M : Met l Z n0 z Bz mz none [] rm (Value.ref a :: argsL).toArray h Qz rm.cells rm.slots) (hi : z.name = "<init>")
    (w1 : (Jvm.Cond.methodLink y.cls i z).before a0 Z = true) (w2 : (Jvm.Cond.instanceMethod z).before a0 Z = true) (w3 : (Jvm.Cond.initialized z.cls).before a0 Z = true) (w4 : (Jvm.Cond.code z Bz mz none).before a0 Z = true) (hy : z.cls ≠ "java/lang/invoke/MethodHandle" ∧ z.cls ≠ "java/lang/invoke/VarHandle") (pd : parseMethodDescriptor z.desc = some ⟨ps, pr⟩) (hlen : argsL.length = ps.length)
    (hsz : Ls.size = ml) (hf : rm.frames + 1 ≤ R.frames) (hlo : (rest.map fun v => v.category).sum + (mz + 11) + rm.locals ≤ R.locals) (hc : cc + rm.cells ≤ R.cells) (hs : ss + rm.slots ≤ R.slots) (hd : decode B pc = .ok (.invokespecial i, 3)) (hst : st = argsL.reverse ++ .ref a :: rest) (pc' : Nat) (hp : pc + 3 = pc')
    (K : ∀ v T' h', Sd l Z n0 y B ml rt R k T' h' (cc + rm.cells) (ss + rm.slots) → Qz v h' → Go k n0 Q kc ks T' pc' Ls (v.toList ++ rest)) : Go k n0 Q kc ks T pc Ls st := by
  subst hp; obtain ⟨⟨locs, Y, N⟩, eh, hx, hZ, hown, hby, hml, hr⟩ := X
  obtain ⟨v, _, ⟨T', L', c', n'⟩, -, X', ⟨Lc, hQ, l1, y1, z1⟩, stp⟩ := Y.specialBack hx (y := z) hi hown (mvT hZ w1) (mvT hZ w2) (mvT hZ w4) hy (backOf (W := (rest.map fun v => v.category).sum) (Q := fun v h L => Fr n0 L ∧ Qz v h) M hZ w4 w3 hf hlo) (g := mkF (owm k) pc Ls st) rfl (hsz.trans hml.symm) (Steps.refl _) (a := a) (argsL := argsL) (rest := rest) (lenOf pd hlen) hst (by show 2 * 0 + _ ≤ _; omega) (Jvm.hb hby hd) (fun _ _ => ⟨rfl, eh, hc, hs⟩)
  dsimp only [Pt.U, Pt.locs, Pt.cells, Pt.slots] at X' l1 y1 z1 stp hQ
  subst l1 y1 z1
  exact (K v T' _ ⟨⟨_, X', N.app hQ.1⟩, rfl, hx, hZ, hown, hby, hml, hr⟩ hQ.2).of fun _ q => stp.trans q
/-- an instance method, found where it is named -/
theorem g_callV (X : Sd l Z n0 y B ml rt R k T h cc ss) {i : Nat} {z : MethodName} {C : String} {Bz : ByteArray} {mz : Nat} {rz : Option FieldType} {rm : Room} {Qz : Option Value → Heap → Prop} (a : Addr) (argsL rest : List Value) {ps : List FieldType} {pr : Option FieldType} (M : Met l Z n0 z Bz mz rz [] rm (Value.ref a :: argsL).toArray h Qz rm.cells rm.slots) (E : Exa Z h a C)
    (w1 : (Jvm.Cond.methodLink y.cls i z).before a0 Z = true) (w2 : (Jvm.Cond.declares z).before a0 Z = true) (w5 : (Jvm.Cond.selects C z z).before a0 Z = true) (w6 : (Jvm.Cond.instanceMethod z).before a0 Z = true) (w3 : (Jvm.Cond.initialized z.cls).before a0 Z = true) (w4 : (Jvm.Cond.code z Bz mz rz).before a0 Z = true) (hy : z.cls ≠ "java/lang/invoke/MethodHandle" ∧ z.cls ≠ "java/lang/invoke/VarHandle") (pd : parseMethodDescriptor z.desc = some ⟨ps, pr⟩) (hlen : argsL.length = ps.length)
    (hsz : Ls.size = ml) (hf : rm.frames + 1 ≤ R.frames) (hlo : (rest.map fun v => v.category).sum + (mz + 11) + rm.locals ≤ R.locals) (hc : cc + rm.cells ≤ R.cells) (hs : ss + rm.slots ≤ R.slots) (hd : decode B pc = .ok (.invokevirtual i, 3)) (hst : st = argsL.reverse ++ .ref a :: rest) (pc' : Nat) (hp : pc + 3 = pc')
    (K : ∀ v T' h', Sd l Z n0 y B ml rt R k T' h' (cc + rm.cells) (ss + rm.slots) → Qz v h' → Go k n0 Q kc ks T' pc' Ls (v.toList ++ rest)) : Go k n0 Q kc ks T pc Ls st := by
  subst hp; obtain ⟨⟨locs, Y, N⟩, eh, hx, hZ, hown, hby, hml, hr⟩ := X
  obtain ⟨cq, kq, qa, qb, qc⟩ := isOf hZ eh E
  obtain ⟨v, _, ⟨T', L', c', n'⟩, -, X', ⟨Lc, hQ, l1, y1, z1⟩, stp⟩ := Y.virtualBack hx (y := z) (z := z) hown (mvT hZ w1) (mvT hZ w2) (notFace_of_selects (args := #[]) (mvT hZ w5)) (mvT hZ w5) (mvT hZ w6) hy (backOf (W := (rest.map fun v => v.category).sum) (Q := fun v h L => Fr n0 L ∧ Qz v h) M hZ w4 w3 hf hlo) qa qc (g := mkF (owm k) pc Ls st) rfl (hsz.trans hml.symm) (Steps.refl _) (argsL := argsL) (rest := rest) (lenOf pd hlen) hst (by show 2 * 0 + _ ≤ _; omega) (Jvm.hb hby hd) (fun _ _ => ⟨rfl, eh, hc, hs⟩)
  dsimp only [Pt.U, Pt.locs, Pt.cells, Pt.slots] at X' l1 y1 z1 stp hQ
  subst l1 y1 z1
  exact (K v T' _ ⟨⟨_, X', N.app hQ.1⟩, rfl, hx, hZ, hown, hby, hml, hr⟩ hQ.2).of fun _ q => stp.trans q
/-- a private instance method by invokevirtual -/
theorem g_callP (X : Sd l Z n0 y B ml rt R k T h cc ss) {i : Nat} {z : MethodName} {C : String} {Bz : ByteArray} {mz : Nat} {rz : Option FieldType} {rm : Room} {Qz : Option Value → Heap → Prop} (a : Addr) (argsL rest : List Value) {ps : List FieldType} {pr : Option FieldType} (M : Met l Z n0 z Bz mz rz [] rm (Value.ref a :: argsL).toArray h Qz rm.cells rm.slots) (E : Exa Z h a C)
    (w1 : (Jvm.Cond.methodLink y.cls i z).before a0 Z = true) (w2 : (Jvm.Cond.privateMethod z).before a0 Z = true) (w5 : (Jvm.Cond.selects z.cls z z).before a0 Z = true) (w6 : (Jvm.Cond.instanceMethod z).before a0 Z = true) (w3 : (Jvm.Cond.initialized z.cls).before a0 Z = true) (w4 : (Jvm.Cond.code z Bz mz rz).before a0 Z = true) (hy : z.cls ≠ "java/lang/invoke/MethodHandle" ∧ z.cls ≠ "java/lang/invoke/VarHandle") (pd : parseMethodDescriptor z.desc = some ⟨ps, pr⟩) (hlen : argsL.length = ps.length)
    (hsz : Ls.size = ml) (hf : rm.frames + 1 ≤ R.frames) (hlo : (rest.map fun v => v.category).sum + (mz + 11) + rm.locals ≤ R.locals) (hc : cc + rm.cells ≤ R.cells) (hs : ss + rm.slots ≤ R.slots) (hd : decode B pc = .ok (.invokevirtual i, 3)) (hst : st = argsL.reverse ++ .ref a :: rest) (pc' : Nat) (hp : pc + 3 = pc')
    (K : ∀ v T' h', Sd l Z n0 y B ml rt R k T' h' (cc + rm.cells) (ss + rm.slots) → Qz v h' → Go k n0 Q kc ks T' pc' Ls (v.toList ++ rest)) : Go k n0 Q kc ks T pc Ls st := by
  subst hp; obtain ⟨⟨locs, Y, N⟩, eh, hx, hZ, hown, hby, hml, hr⟩ := X
  obtain ⟨cl, qa, qb⟩ := E.cell
  obtain ⟨v, _, ⟨T', L', c', n'⟩, -, X', ⟨Lc, hQ, l1, y1, z1⟩, stp⟩ := Y.privateBack hx (y := z) hown (mvT hZ w1) (mvT hZ w6) (mvT hZ w5) (Cond.privateMethod_at (mvP (args := #[]) hZ w2)) (mvT hZ w4) hy (backOf (W := (rest.map fun v => v.category).sum) (Q := fun v h L => Fr n0 L ∧ Qz v h) M hZ w4 w3 hf hlo) (g := mkF (owm k) pc Ls st) rfl (hsz.trans hml.symm) (Steps.refl _) (by rw [eh]; exact qa) qb (argsL := argsL) (rest := rest) (lenOf pd hlen) hst (by show 2 * 0 + _ ≤ _; omega) (Jvm.hb hby hd) (fun _ _ => ⟨rfl, eh, hc, hs⟩)
  dsimp only [Pt.U, Pt.locs, Pt.cells, Pt.slots] at X' l1 y1 z1 stp hQ
  subst l1 y1 z1
  exact (K v T' _ ⟨⟨_, X', N.app hQ.1⟩, rfl, hx, hZ, hown, hby, hml, hr⟩ hQ.2).of fun _ q => stp.trans q
/-! arrays: n places, f says what each holds -/
def AI (Z : State) (h : Heap) (a : Addr) (ty : FieldType) (n : Nat) (f : Nat → Value) : Prop := ∃ c : Cell, Arr Z h a c ty ∧ c.slots.size = n ∧ n < 2147483648 ∧ ∀ i, i < n → c.slots[i]? = some (f i)
theorem AI.lt {a : Addr} {ty : FieldType} {n : Nat} {f : Nat → Value} (A : AI Z h a ty n f) : a < h.size := by obtain ⟨c, A, -⟩ := A; exact A.lt
theorem AI.ext {h' : Heap} {a : Addr} {ty : FieldType} {n : Nat} {f : Nat → Value} (A : AI Z h a ty n f) (E : Ext h h') : AI Z h' a ty n f := by obtain ⟨c, A, r⟩ := A; exact ⟨c, A.ext E, r⟩
theorem AI.other {h' : Heap} {a b : Addr} {sl : Nat} {v : Value} {ty : FieldType} {n : Nat} {f : Nat → Value} (A : AI Z h a ty n f) (W : Wr h h' b sl v) (q : a ≠ b) : AI Z h' a ty n f := by obtain ⟨c, A, r⟩ := A; exact ⟨c, A.other W q, r⟩
theorem AI.keep {h' : Heap} {ws : List Addr} {a : Addr} {ty : FieldType} {n : Nat} {f : Nat → Value} (A : AI Z h a ty n f) (K : Keep h h' ws) (q : a ∉ ws) : AI Z h' a ty n f := by obtain ⟨c, A, r⟩ := A; exact ⟨c, ⟨K.2.1 a c A.1 q, A.2⟩, r⟩
theorem AI.to {a : Addr} {ty : FieldType} {n : Nat} {f g : Nat → Value} (A : AI Z h a ty n f) (e : ∀ i, i < n → f i = g i) : AI Z h a ty n g := by obtain ⟨c, A, r1, r2, r3⟩ := A; exact ⟨c, A, r1, r2, fun i hi => by rw [r3 i hi, e i hi]⟩
theorem AI.set {h' : Heap} {a : Addr} {ty : FieldType} {n i : Nat} {v : Value} {f : Nat → Value} (A : AI Z h a ty n f) (W : Wr h h' a i v) : AI Z h' a ty n (fun j => if j = i then v else f j) := by
  obtain ⟨c, A, r1, r2, r3⟩ := A
  refine ⟨_, A.same W, by rw [sz_set]; exact r1, r2, fun j hj => ?_⟩
  obtain ⟨c', q1, -, q3, -⟩ := W
  cases A.1.symm.trans q1
  by_cases e : j = i
  · subst e; simp [Cell.setSlot, r1, hj]
  · have e' : ¬ i = j := fun z => e z.symm
    simp [Cell.setSlot, Array.getElem?_setIfInBounds, e', e, r3 j hj]
theorem AI.new {a : Addr} {ty : FieldType} {cA : ClassId} {m : Int32} (A : Arr Z h a (newA cA ty m) ty) (q : ¬ m < 0) {n : Nat} (e : m.toInt = n) : AI Z h a ty n (fun _ => defaultValue ty) := by
  have e1 : m.toNatClampNeg = n := by simp [Int32.toNatClampNeg, e]
  have e2 : n < 2147483648 := by have := m.toInt_lt; omega
  refine ⟨_, A, by rw [sz_new]; exact e1, e2, fun i hi => ?_⟩
  simp [newA, e1, hi]
theorem ix_of {j : Int32} {i n : Nat} (hj : j.toInt = i) (hi : i < n) : ¬ (j < 0 ∨ n ≤ j.toNatClampNeg) ∧ j.toNatClampNeg = i := by
  have e1 : j.toNatClampNeg = i := by simp [Int32.toNatClampNeg, hj]
  refine ⟨fun q => ?_, e1⟩
  rcases q with q | q
  · rw [Int32.lt_iff_toInt_lt, hj] at q; simp at q; omega
  · omega
theorem g_iaload (X : Sd l Z n0 y B ml rt R k T h cc ss) {a : Addr} {n : Nat} {f : Nat → Value} (A : AI Z h a .int n f) {j : Int32} (i : Nat) (hj : j.toInt = i) (hi : i < n) (v : Value) (hv : f i = v) (hd : decode B pc = .ok (.iaload, 1)) (pc' : Nat) (hp : pc + 1 = pc') (K : Go k n0 Q kc ks T pc' Ls (v :: st)) : Go k n0 Q kc ks T pc Ls (.int j :: .ref a :: st) := by
  subst hp hv; obtain ⟨⟨locs, Y, N⟩, eh, hx, hZ, hown, hby, hr⟩ := X
  obtain ⟨c, A, r1, r2, r3⟩ := A; obtain ⟨q1, q2⟩ := ix_of hj hi
  exact K.of fun t q => Y.iaload hx (by rw [eh]; exact A.1) (State.isArrayOf_alike hZ.alike A.2.1) A.2.2 (by rw [r1]; exact q1) (by rw [q2]; exact r3 i hi) (g := mkF (owm k) pc Ls (.int j :: .ref a :: st)) rfl rfl (Jvm.hb hby hd) t q
theorem g_baload (X : Sd l Z n0 y B ml rt R k T h cc ss) {a : Addr} {n : Nat} {f : Nat → Value} (A : AI Z h a .byte n f) {j : Int32} (i : Nat) (hj : j.toInt = i) (hi : i < n) (v : Value) (hv : f i = v) (hd : decode B pc = .ok (.baload, 1)) (pc' : Nat) (hp : pc + 1 = pc') (K : Go k n0 Q kc ks T pc' Ls (v :: st)) : Go k n0 Q kc ks T pc Ls (.int j :: .ref a :: st) := by
  subst hp hv; obtain ⟨⟨locs, Y, N⟩, eh, hx, hZ, hown, hby, hr⟩ := X
  obtain ⟨c, A, r1, r2, r3⟩ := A; obtain ⟨q1, q2⟩ := ix_of hj hi
  exact K.of fun t q => Y.baloadBytes hx (by rw [eh]; exact A.1) (State.isArrayOf_alike hZ.alike A.2.1) A.2.2 (by rw [r1]; exact q1) (by rw [q2]; exact r3 i hi) (g := mkF (owm k) pc Ls (.int j :: .ref a :: st)) rfl rfl (Jvm.hb hby hd) t q
theorem g_laload (X : Sd l Z n0 y B ml rt R k T h cc ss) {a : Addr} {n : Nat} {f : Nat → Value} (A : AI Z h a .long n f) {j : Int32} (i : Nat) (hj : j.toInt = i) (hi : i < n) (v : Value) (hv : f i = v) (hd : decode B pc = .ok (.laload, 1)) (pc' : Nat) (hp : pc + 1 = pc') (K : Go k n0 Q kc ks T pc' Ls (v :: st)) : Go k n0 Q kc ks T pc Ls (.int j :: .ref a :: st) := by
  subst hp hv; obtain ⟨⟨locs, Y, N⟩, eh, hx, hZ, hown, hby, hr⟩ := X
  obtain ⟨c, A, r1, r2, r3⟩ := A; obtain ⟨q1, q2⟩ := ix_of hj hi
  exact K.of fun t q => Y.laload hx (by rw [eh]; exact A.1) (State.isArrayOf_alike hZ.alike A.2.1) A.2.2 (by rw [r1]; exact q1) (by rw [q2]; exact r3 i hi) (g := mkF (owm k) pc Ls (.int j :: .ref a :: st)) rfl rfl (Jvm.hb hby hd) t q
theorem g_aaload (X : Sd l Z n0 y B ml rt R k T h cc ss) {a : Addr} {ty : FieldType} {n : Nat} {f : Nat → Value} (A : AI Z h a ty n f) (hty : ty.isReference = true) {j : Int32} (i : Nat) (hj : j.toInt = i) (hi : i < n) (v : Value) (hv : f i = v) (hd : decode B pc = .ok (.aaload, 1)) (pc' : Nat) (hp : pc + 1 = pc') (K : Go k n0 Q kc ks T pc' Ls (v :: st)) : Go k n0 Q kc ks T pc Ls (.int j :: .ref a :: st) := by
  subst hp hv; obtain ⟨⟨locs, Y, N⟩, eh, hx, hZ, hown, hby, hr⟩ := X
  obtain ⟨c, A, r1, r2, r3⟩ := A; obtain ⟨q1, q2⟩ := ix_of hj hi
  exact K.of fun t q => Y.aaload hx (by rw [eh]; exact A.1) (State.isArrayOf_alike hZ.alike A.2.1) hty A.2.2 (by rw [r1]; exact q1) (by rw [q2]; exact r3 i hi) (g := mkF (owm k) pc Ls (.int j :: .ref a :: st)) rfl rfl (Jvm.hb hby hd) t q
theorem g_alen (X : Sd l Z n0 y B ml rt R k T h cc ss) {a : Addr} {ty : FieldType} {n : Nat} {f : Nat → Value} (A : AI Z h a ty n f) (v : Int32) (hv : v.toInt = n) (hd : decode B pc = .ok (.arraylength, 1)) (pc' : Nat) (hp : pc + 1 = pc') (K : Go k n0 Q kc ks T pc' Ls (.int v :: st)) : Go k n0 Q kc ks T pc Ls (.ref a :: st) := by
  subst hp; obtain ⟨⟨locs, Y, N⟩, eh, hx, hZ, hown, hby, hr⟩ := X
  obtain ⟨c, A, r1, r2, r3⟩ := A
  have ev : c.slots.size.toInt32 = v := by
    rw [r1]; apply Int32.toInt_inj.mp; rw [hv]
    show (Int32.ofNat n).toInt = _
    rw [Int32.toInt_ofNat_of_lt (by omega)]
  exact K.of fun t q => Y.arraylength hx (by rw [eh]; exact A.1) (State.isArrayOf_alike hZ.alike A.2.1) (g := mkF (owm k) pc Ls (.ref a :: st)) rfl rfl (Jvm.hb hby hd) t (by rw [ev]; exact q)
theorem g_newP (X : Sd l Z n0 y B ml rt R k T h cc ss) {aty : ArrayType} (w : (Jvm.Cond.arrayClass (newarray.typeOf aty)).before a0 Z = true) {m : Int32} (n cap : Nat) (hm : m.toInt = n) (hn : n ≤ cap) (hb : cap * 8 ≤ 536870912) (hd : decode B pc = .ok (.newarray aty, 2)) (hc : cc + 1 ≤ R.cells) (hl : ss + cap ≤ R.slots) (pc' : Nat) (hp : pc + 2 = pc')
    (K : ∀ T' h' a, Sd l Z n0 y B ml rt R k T' h' (cc + 1) (ss + cap) → a = h.size → Ext h h' → AI Z h' a (newarray.typeOf aty) n (fun _ => defaultValue (newarray.typeOf aty)) → Go k n0 Q kc ks T' pc' Ls (.ref a :: st)) : Go k n0 Q kc ks T pc Ls (.int m :: st) := by
  subst hp; obtain ⟨⟨locs, Y, N⟩, eh, hx, hZ, hown, hby, hr⟩ := X
  have q : ¬ m < 0 := by
    have e : (0 : Int32).toInt = 0 := by decide
    rw [Int32.lt_iff_toInt_lt, hm]; omega
  have e1 : m.toNatClampNeg = n := by simp [Int32.toNatClampNeg, hm]
  obtain ⟨T2, h2, cA, X2, e2, E2, A2, st2⟩ := newP Y hx hZ w eh (g := mkF (owm k) pc Ls (.int m :: st)) rfl (Jvm.hb hby hd) rfl q (cap := cap) (by omega) hb hc hl
  exact (K T2 h2 h.size ⟨⟨locs, X2, N⟩, e2, hx, hZ, hown, hby, hr⟩ rfl E2 (AI.new A2 q hm)).of st2
theorem g_iastore (X : Sd l Z n0 y B ml rt R k T h cc ss) {a : Addr} {n : Nat} {f : Nat → Value} (A : AI Z h a .int n f) {j x : Int32} (i : Nat) (hj : j.toInt = i) (hi : i < n) (g0 : n0 ≤ a) (hd : decode B pc = .ok (.iastore, 1)) (pc' : Nat) (hp : pc + 1 = pc')
    (K : ∀ T' h', Sd l Z n0 y B ml rt R k T' h' cc ss → Wr h h' a i (.int x) → Go k n0 Q kc ks T' pc' Ls st) : Go k n0 Q kc ks T pc Ls (.int x :: .int j :: .ref a :: st) := by
  subst hp; obtain ⟨⟨locs, Y, N⟩, eh, hx, hZ, hown, hby, hr⟩ := X
  obtain ⟨c, A, r1, r2, r3⟩ := A; obtain ⟨q1, q2⟩ := ix_of hj hi
  obtain ⟨T2, h2, X2, e2, W2, st2⟩ := stI Y hx hZ eh A (j := j) (x := x) (by rw [r1]; exact q1) (g := mkF (owm k) pc Ls (.int x :: .int j :: .ref a :: st)) rfl rfl (Jvm.hb hby hd)
  rw [q2] at X2 W2
  exact (K T2 h2 ⟨⟨_, X2, Fr.snoc X2 N g0⟩, e2, hx, hZ, hown, hby, hr⟩ W2).of st2
theorem g_lastore (X : Sd l Z n0 y B ml rt R k T h cc ss) {a : Addr} {n : Nat} {f : Nat → Value} (A : AI Z h a .long n f) {j : Int32} {x : Int64} (i : Nat) (hj : j.toInt = i) (hi : i < n) (g0 : n0 ≤ a) (hd : decode B pc = .ok (.lastore, 1)) (pc' : Nat) (hp : pc + 1 = pc')
    (K : ∀ T' h', Sd l Z n0 y B ml rt R k T' h' cc ss → Wr h h' a i (.long x) → Go k n0 Q kc ks T' pc' Ls st) : Go k n0 Q kc ks T pc Ls (.long x :: .int j :: .ref a :: st) := by
  subst hp; obtain ⟨⟨locs, Y, N⟩, eh, hx, hZ, hown, hby, hr⟩ := X
  obtain ⟨c, A, r1, r2, r3⟩ := A; obtain ⟨q1, q2⟩ := ix_of hj hi
  obtain ⟨T2, h2, X2, e2, W2, st2⟩ := stJ Y hx hZ eh A (j := j) (x := x) (by rw [r1]; exact q1) (g := mkF (owm k) pc Ls (.long x :: .int j :: .ref a :: st)) rfl rfl (Jvm.hb hby hd)
  rw [q2] at X2 W2
  exact (K T2 h2 ⟨⟨_, X2, Fr.snoc X2 N g0⟩, e2, hx, hZ, hown, hby, hr⟩ W2).of st2
theorem g_bastore (X : Sd l Z n0 y B ml rt R k T h cc ss) {a : Addr} {n : Nat} {f : Nat → Value} (A : AI Z h a .byte n f) {j x : Int32} (i : Nat) (hj : j.toInt = i) (hi : i < n) (g0 : n0 ≤ a) (hd : decode B pc = .ok (.bastore, 1)) (pc' : Nat) (hp : pc + 1 = pc')
    (K : ∀ T' h', Sd l Z n0 y B ml rt R k T' h' cc ss → Wr h h' a i (.int x.toInt8.toInt32) → Go k n0 Q kc ks T' pc' Ls st) : Go k n0 Q kc ks T pc Ls (.int x :: .int j :: .ref a :: st) := by
  subst hp; obtain ⟨⟨locs, Y, N⟩, eh, hx, hZ, hown, hby, hr⟩ := X
  obtain ⟨c, A, r1, r2, r3⟩ := A; obtain ⟨q1, q2⟩ := ix_of hj hi
  obtain ⟨T2, h2, X2, e2, W2, st2⟩ := stB Y hx hZ eh A (j := j) (x := x) (by rw [r1]; exact q1) (g := mkF (owm k) pc Ls (.int x :: .int j :: .ref a :: st)) rfl rfl (Jvm.hb hby hd)
  rw [q2] at X2 W2
  exact (K T2 h2 ⟨⟨_, X2, Fr.snoc X2 N g0⟩, e2, hx, hZ, hown, hby, hr⟩ W2).of st2
end Ow
theorem own_b1 : ((1 : Int32) &&& 1) = 1 := by decide
theorem own_b0 : ((0 : Int32) &&& 1) = 0 := by decide
theorem own_one : (some (Value.int ((1 : Int32) &&& 1))) = some (.int 1) := congrArg (fun z => some (Value.int z)) own_b1
theorem w0 {Z : State} {a0 : Array Value} (hw : ∀ d ∈ tables_1, d.before a0 Z = true) : (Jvm.Cond.constant "com/example/libaxes/libaxes/tree/XmlNamesIsNameStartPinLaw" (20 : Nat) (1048575 : Int32)).before a0 Z = true := hw _ (List.mem_of_getElem? (i := 0) rfl)
theorem w1 {Z : State} {a0 : Array Value} (hw : ∀ d ∈ tables_1, d.before a0 Z = true) : (Jvm.Cond.methodLink "com/example/libaxes/libaxes/tree/XmlNamesIsNameStartPinLaw" (21 : Nat) ({ cls := "com/example/libaxes/libaxes/tree/XmlNames", name := "isNameStart", desc := "(I)Z" } : Jvm.MethodName)).before a0 Z = true := hw _ (List.mem_of_getElem? (i := 1) rfl)
theorem w2 {Z : State} {a0 : Array Value} (hw : ∀ d ∈ tables_1, d.before a0 Z = true) : (Jvm.Cond.static ({ cls := "com/example/libaxes/libaxes/tree/XmlNames", name := "isNameStart", desc := "(I)Z" } : Jvm.MethodName)).before a0 Z = true := hw _ (List.mem_of_getElem? (i := 2) rfl)
theorem w3 {Z : State} {a0 : Array Value} (hw : ∀ d ∈ tables_1, d.before a0 Z = true) : (Jvm.Cond.initialized "com/example/libaxes/libaxes/tree/XmlNames").before a0 Z = true := hw _ (List.mem_of_getElem? (i := 3) rfl)
theorem w4 {Z : State} {a0 : Array Value} (hw : ∀ d ∈ tables_1, d.before a0 Z = true) : (Jvm.Cond.code ({ cls := "com/example/libaxes/libaxes/tree/XmlNames", name := "isNameStart", desc := "(I)Z" } : Jvm.MethodName) prog_43_method_4_code (1 : Nat) (Option.some Jvm.ClassFile.FieldType.boolean)).before a0 Z = true := hw _ (List.mem_of_getElem? (i := 4) rfl)
theorem w5 {Z : State} {a0 : Array Value} (hw : ∀ d ∈ tables_1, d.before a0 Z = true) : (Jvm.Cond.constant "com/example/libaxes/libaxes/tree/XmlNames" (40 : Nat) (63744 : Int32)).before a0 Z = true := hw _ (List.mem_of_getElem? (i := 5) rfl)
theorem w6 {Z : State} {a0 : Array Value} (hw : ∀ d ∈ tables_1, d.before a0 Z = true) : (Jvm.Cond.constant "com/example/libaxes/libaxes/tree/XmlNames" (42 : Nat) (65008 : Int32)).before a0 Z = true := hw _ (List.mem_of_getElem? (i := 6) rfl)
theorem w7 {Z : State} {a0 : Array Value} (hw : ∀ d ∈ tables_1, d.before a0 Z = true) : (Jvm.Cond.constant "com/example/libaxes/libaxes/tree/XmlNames" (44 : Nat) (65536 : Int32)).before a0 Z = true := hw _ (List.mem_of_getElem? (i := 7) rfl)
theorem w8 {Z : State} {a0 : Array Value} (hw : ∀ d ∈ tables_1, d.before a0 Z = true) : (Jvm.Cond.methodLink "com/example/libaxes/libaxes/tree/XmlNamesIsNameStartPinLaw" (27 : Nat) ({ cls := "com/example/libaxes/libaxes/tree/XmlNamesIsNameStartPinLaw", name := "excluded", desc := "(I)Z" } : Jvm.MethodName)).before a0 Z = true := hw _ (List.mem_of_getElem? (i := 8) rfl)
theorem w9 {Z : State} {a0 : Array Value} (hw : ∀ d ∈ tables_1, d.before a0 Z = true) : (Jvm.Cond.static ({ cls := "com/example/libaxes/libaxes/tree/XmlNamesIsNameStartPinLaw", name := "excluded", desc := "(I)Z" } : Jvm.MethodName)).before a0 Z = true := hw _ (List.mem_of_getElem? (i := 9) rfl)
theorem w10 {Z : State} {a0 : Array Value} (hw : ∀ d ∈ tables_1, d.before a0 Z = true) : (Jvm.Cond.initialized "com/example/libaxes/libaxes/tree/XmlNamesIsNameStartPinLaw").before a0 Z = true := hw _ (List.mem_of_getElem? (i := 10) rfl)
theorem w11 {Z : State} {a0 : Array Value} (hw : ∀ d ∈ tables_1, d.before a0 Z = true) : (Jvm.Cond.code ({ cls := "com/example/libaxes/libaxes/tree/XmlNamesIsNameStartPinLaw", name := "excluded", desc := "(I)Z" } : Jvm.MethodName) method_3_code (1 : Nat) (Option.some Jvm.ClassFile.FieldType.boolean)).before a0 Z = true := hw _ (List.mem_of_getElem? (i := 11) rfl)
theorem w12 {Z : State} {a0 : Array Value} (hw : ∀ d ∈ tables_1, d.before a0 Z = true) : (Jvm.Cond.methodLink "com/example/libaxes/libaxes/tree/XmlNamesIsNameStartPinLaw" (7 : Nat) ({ cls := "com/example/libaxes/libaxes/tree/XmlNamesIsNameStartPinLaw", name := "in", desc := "(III)Z" } : Jvm.MethodName)).before a0 Z = true := hw _ (List.mem_of_getElem? (i := 12) rfl)
theorem w13 {Z : State} {a0 : Array Value} (hw : ∀ d ∈ tables_1, d.before a0 Z = true) : (Jvm.Cond.static ({ cls := "com/example/libaxes/libaxes/tree/XmlNamesIsNameStartPinLaw", name := "in", desc := "(III)Z" } : Jvm.MethodName)).before a0 Z = true := hw _ (List.mem_of_getElem? (i := 13) rfl)
theorem w14 {Z : State} {a0 : Array Value} (hw : ∀ d ∈ tables_1, d.before a0 Z = true) : (Jvm.Cond.code ({ cls := "com/example/libaxes/libaxes/tree/XmlNamesIsNameStartPinLaw", name := "in", desc := "(III)Z" } : Jvm.MethodName) method_2_code (3 : Nat) (Option.some Jvm.ClassFile.FieldType.boolean)).before a0 Z = true := hw _ (List.mem_of_getElem? (i := 14) rfl)
theorem w15 {Z : State} {a0 : Array Value} (hw : ∀ d ∈ tables_1, d.before a0 Z = true) : (Jvm.Cond.constant "com/example/libaxes/libaxes/tree/XmlNamesIsNameStartPinLaw" (13 : Nat) (55296 : Int32)).before a0 Z = true := hw _ (List.mem_of_getElem? (i := 15) rfl)
theorem w16 {Z : State} {a0 : Array Value} (hw : ∀ d ∈ tables_1, d.before a0 Z = true) : (Jvm.Cond.constant "com/example/libaxes/libaxes/tree/XmlNamesIsNameStartPinLaw" (14 : Nat) (63743 : Int32)).before a0 Z = true := hw _ (List.mem_of_getElem? (i := 16) rfl)
theorem w17 {Z : State} {a0 : Array Value} (hw : ∀ d ∈ tables_1, d.before a0 Z = true) : (Jvm.Cond.constant "com/example/libaxes/libaxes/tree/XmlNamesIsNameStartPinLaw" (15 : Nat) (64976 : Int32)).before a0 Z = true := hw _ (List.mem_of_getElem? (i := 17) rfl)
theorem w18 {Z : State} {a0 : Array Value} (hw : ∀ d ∈ tables_1, d.before a0 Z = true) : (Jvm.Cond.constant "com/example/libaxes/libaxes/tree/XmlNamesIsNameStartPinLaw" (16 : Nat) (65007 : Int32)).before a0 Z = true := hw _ (List.mem_of_getElem? (i := 18) rfl)
theorem w19 {Z : State} {a0 : Array Value} (hw : ∀ d ∈ tables_1, d.before a0 Z = true) : (Jvm.Cond.constant "com/example/libaxes/libaxes/tree/XmlNamesIsNameStartPinLaw" (17 : Nat) (65534 : Int32)).before a0 Z = true := hw _ (List.mem_of_getElem? (i := 19) rfl)
theorem w20 {Z : State} {a0 : Array Value} (hw : ∀ d ∈ tables_1, d.before a0 Z = true) : (Jvm.Cond.constant "com/example/libaxes/libaxes/tree/XmlNamesIsNameStartPinLaw" (18 : Nat) (65535 : Int32)).before a0 Z = true := hw _ (List.mem_of_getElem? (i := 20) rfl)
theorem w21 {Z : State} {a0 : Array Value} (hw : ∀ d ∈ tables_1, d.before a0 Z = true) : (Jvm.Cond.constant "com/example/libaxes/libaxes/tree/XmlNamesIsNameStartPinLaw" (19 : Nat) (983039 : Int32)).before a0 Z = true := hw _ (List.mem_of_getElem? (i := 21) rfl)
theorem w22 {Z : State} {a0 : Array Value} (hw : ∀ d ∈ tables_1, d.before a0 Z = true) : (Jvm.Cond.constant "com/example/libaxes/libaxes/tree/XmlNames" (39 : Nat) (55295 : Int32)).before a0 Z = true := hw _ (List.mem_of_getElem? (i := 22) rfl)
theorem w23 {Z : State} {a0 : Array Value} (hw : ∀ d ∈ tables_1, d.before a0 Z = true) : (Jvm.Cond.constant "com/example/libaxes/libaxes/tree/XmlNames" (41 : Nat) (64975 : Int32)).before a0 Z = true := hw _ (List.mem_of_getElem? (i := 23) rfl)
theorem w24 {Z : State} {a0 : Array Value} (hw : ∀ d ∈ tables_1, d.before a0 Z = true) : (Jvm.Cond.constant "com/example/libaxes/libaxes/tree/XmlNames" (43 : Nat) (65533 : Int32)).before a0 Z = true := hw _ (List.mem_of_getElem? (i := 24) rfl)
theorem w25 {Z : State} {a0 : Array Value} (hw : ∀ d ∈ tables_1, d.before a0 Z = true) : (Jvm.Cond.constant "com/example/libaxes/libaxes/tree/XmlNames" (45 : Nat) (983039 : Int32)).before a0 Z = true := hw _ (List.mem_of_getElem? (i := 25) rfl)
theorem pd0 : parseMethodDescriptor "(III)Z" = some ⟨[.int, .int, .int], some .boolean⟩ := by decide +kernel
theorem pd1 : parseMethodDescriptor "(I)Z" = some ⟨[.int], some .boolean⟩ := by decide +kernel
theorem pn0 : Jvm.plainName "com/example/libaxes/libaxes/tree/XmlNames" = true := by first | (simp [Jvm.plainName, overriddenIn]; done) | decide +kernel
theorem pn1 : Jvm.plainName "com/example/libaxes/libaxes/tree/XmlNamesIsNameStartPinLaw" = true := by first | (simp [Jvm.plainName, overriddenIn]; done) | decide +kernel
theorem own_n65 : (65 : Int32).toInt = 65 := by decide
theorem own_n90 : (90 : Int32).toInt = 90 := by decide
theorem own_n91 : (91 : Int32).toInt = 91 := by decide
theorem own_n94 : (94 : Int32).toInt = 94 := by decide
theorem own_n95 : (95 : Int32).toInt = 95 := by decide
theorem own_n96 : (96 : Int32).toInt = 96 := by decide
theorem own_n97 : (97 : Int32).toInt = 97 := by decide
theorem own_n122 : (122 : Int32).toInt = 122 := by decide
theorem own_n123 : (123 : Int32).toInt = 123 := by decide
theorem own_n191 : (191 : Int32).toInt = 191 := by decide
theorem own_n192 : (192 : Int32).toInt = 192 := by decide
theorem own_n214 : (214 : Int32).toInt = 214 := by decide
theorem own_n215 : (215 : Int32).toInt = 215 := by decide
theorem own_n216 : (216 : Int32).toInt = 216 := by decide
theorem own_n246 : (246 : Int32).toInt = 246 := by decide
theorem own_n247 : (247 : Int32).toInt = 247 := by decide
theorem own_n248 : (248 : Int32).toInt = 248 := by decide
theorem own_n767 : (767 : Int32).toInt = 767 := by decide
theorem own_n768 : (768 : Int32).toInt = 768 := by decide
theorem own_n879 : (879 : Int32).toInt = 879 := by decide
theorem own_n880 : (880 : Int32).toInt = 880 := by decide
theorem own_n893 : (893 : Int32).toInt = 893 := by decide
theorem own_n894 : (894 : Int32).toInt = 894 := by decide
theorem own_n895 : (895 : Int32).toInt = 895 := by decide
theorem own_n8191 : (8191 : Int32).toInt = 8191 := by decide
theorem own_n8192 : (8192 : Int32).toInt = 8192 := by decide
theorem own_n8203 : (8203 : Int32).toInt = 8203 := by decide
theorem own_n8204 : (8204 : Int32).toInt = 8204 := by decide
theorem own_n8205 : (8205 : Int32).toInt = 8205 := by decide
theorem own_n8206 : (8206 : Int32).toInt = 8206 := by decide
theorem own_n8303 : (8303 : Int32).toInt = 8303 := by decide
theorem own_n8304 : (8304 : Int32).toInt = 8304 := by decide
theorem own_n8591 : (8591 : Int32).toInt = 8591 := by decide
theorem own_n8592 : (8592 : Int32).toInt = 8592 := by decide
theorem own_n11263 : (11263 : Int32).toInt = 11263 := by decide
theorem own_n11264 : (11264 : Int32).toInt = 11264 := by decide
theorem own_n12271 : (12271 : Int32).toInt = 12271 := by decide
theorem own_n12272 : (12272 : Int32).toInt = 12272 := by decide
theorem own_n12288 : (12288 : Int32).toInt = 12288 := by decide
theorem own_n12289 : (12289 : Int32).toInt = 12289 := by decide
theorem own_n55295 : (55295 : Int32).toInt = 55295 := by decide
theorem own_n55296 : (55296 : Int32).toInt = 55296 := by decide
theorem own_n63743 : (63743 : Int32).toInt = 63743 := by decide
theorem own_n63744 : (63744 : Int32).toInt = 63744 := by decide
theorem own_n64975 : (64975 : Int32).toInt = 64975 := by decide
theorem own_n64976 : (64976 : Int32).toInt = 64976 := by decide
theorem own_n65007 : (65007 : Int32).toInt = 65007 := by decide
theorem own_n65008 : (65008 : Int32).toInt = 65008 := by decide
theorem own_n65533 : (65533 : Int32).toInt = 65533 := by decide
theorem own_n65534 : (65534 : Int32).toInt = 65534 := by decide
theorem own_n65535 : (65535 : Int32).toInt = 65535 := by decide
theorem own_n65536 : (65536 : Int32).toInt = 65536 := by decide
theorem own_n983039 : (983039 : Int32).toInt = 983039 := by decide
abbrev pName (c : Int32) : Prop := c = 95 ∨ (¬ c < 65 ∧ ¬ 90 < c) ∨ (¬ c < 97 ∧ ¬ 122 < c) ∨ (¬ c < 192 ∧ ¬ 214 < c) ∨ (¬ c < 216 ∧ ¬ 246 < c) ∨ (¬ c < 248 ∧ ¬ 767 < c) ∨ (¬ c < 880 ∧ ¬ 893 < c) ∨ (¬ c < 895 ∧ ¬ 8191 < c) ∨ (¬ c < 8204 ∧ ¬ 8205 < c) ∨ (¬ c < 8304 ∧ ¬ 8591 < c) ∨ (¬ c < 11264 ∧ ¬ 12271 < c) ∨ (¬ c < 12289 ∧ ¬ 55295 < c) ∨ (¬ c < 63744 ∧ ¬ 64975 < c) ∨ (¬ c < 65008 ∧ ¬ 65533 < c) ∨ (¬ c < 65536 ∧ ¬ 983039 < c)
abbrev pExc (c : Int32) : Prop := c < 65 ∨ 983039 < c ∨ c = 96 ∨ c = 215 ∨ c = 247 ∨ c = 894 ∨ (¬ c < 91 ∧ ¬ 94 < c) ∨ (¬ c < 123 ∧ ¬ 191 < c) ∨ (¬ c < 768 ∧ ¬ 879 < c) ∨ (¬ c < 8192 ∧ ¬ 8203 < c) ∨ (¬ c < 8206 ∧ ¬ 8303 < c) ∨ (¬ c < 8592 ∧ ¬ 11263 < c) ∨ (¬ c < 12272 ∧ ¬ 12288 < c) ∨ (¬ c < 55296 ∧ ¬ 63743 < c) ∨ (¬ c < 64976 ∧ ¬ 65007 < c) ∨ (¬ c < 65534 ∧ ¬ 65535 < c)
def fName (c : Int32) : Int32 := if pName c then 1 else 0
def fExc (c : Int32) : Int32 := if pExc c then 1 else 0
def fIn (c a b : Int32) : Int32 := if c < a then 0 else if b < c then 0 else 1
theorem own_in0 {c a b : Int32} : fIn c a b = 0 ↔ (c < a ∨ b < c) := by unfold fIn; (repeat' split) <;> simp_all
theorem own_in1 {c a b : Int32} (h : ¬ fIn c a b = 0) : ¬ c < a ∧ ¬ b < c := ⟨fun q => h (own_in0.mpr (Or.inl q)), fun q => h (own_in0.mpr (Or.inr q))⟩
theorem own_N1 {c : Int32} (h : pName c) : (some (Value.int ((1 : Int32) &&& 1))) = some (.int (fName c)) := by unfold fName; rw [if_pos h, own_b1]
theorem own_N0 {c : Int32} (h : ¬ pName c) : (some (Value.int ((0 : Int32) &&& 1))) = some (.int (fName c)) := by unfold fName; rw [if_neg h, own_b0]
theorem own_E1 {c : Int32} (h : pExc c) : (some (Value.int ((1 : Int32) &&& 1))) = some (.int (fExc c)) := by unfold fExc; rw [if_pos h, own_b1]
theorem own_E0 {c : Int32} (h : ¬ pExc c) : (some (Value.int ((0 : Int32) &&& 1))) = some (.int (fExc c)) := by unfold fExc; rw [if_neg h, own_b0]
theorem own_iff (c : Int32) : pName c ↔ ¬ pExc c := by
  simp only [pName, pExc, Int32.lt_iff_toInt_lt, ← Int32.toInt_inj, own_n65, own_n90, own_n91, own_n94, own_n95, own_n96, own_n97, own_n122, own_n123, own_n191, own_n192, own_n214, own_n215, own_n216, own_n246, own_n247, own_n248, own_n767, own_n768, own_n879, own_n880, own_n893, own_n894, own_n895, own_n8191, own_n8192, own_n8203, own_n8204, own_n8205, own_n8206, own_n8303, own_n8304, own_n8591, own_n8592, own_n11263, own_n11264, own_n12271, own_n12272, own_n12288, own_n12289, own_n55295, own_n55296, own_n63743, own_n63744, own_n64975, own_n64976, own_n65007, own_n65008, own_n65533, own_n65534, own_n65535, own_n65536, own_n983039]
  omega
theorem own_law (c : Int32) : fName c = if fExc c = 0 then 1 else 0 := by
  unfold fName fExc
  by_cases h : pExc c
  · have h2 : ¬ pName c := fun q => (own_iff c).mp q h
    simp [h, h2]
  · have h2 : pName c := (own_iff c).mpr h
    simp [h, h2]
theorem d1_0 : decode prog_43_method_4_code 0 = .ok (.iload_n 0, 1) := by decide +kernel
theorem d1_1 : decode prog_43_method_4_code 1 = .ok (.bipush 65, 2) := by decide +kernel
theorem d1_3 : decode prog_43_method_4_code 3 = .ok (.if_icmp .lt 9, 3) := by decide +kernel
theorem d1_6 : decode prog_43_method_4_code 6 = .ok (.iload_n 0, 1) := by decide +kernel
theorem d1_7 : decode prog_43_method_4_code 7 = .ok (.bipush 90, 2) := by decide +kernel
theorem d1_9 : decode prog_43_method_4_code 9 = .ok (.if_icmp .le 182, 3) := by decide +kernel
theorem d1_12 : decode prog_43_method_4_code 12 = .ok (.iload_n 0, 1) := by decide +kernel
theorem d1_13 : decode prog_43_method_4_code 13 = .ok (.bipush 95, 2) := by decide +kernel
theorem d1_15 : decode prog_43_method_4_code 15 = .ok (.if_icmp .eq 176, 3) := by decide +kernel
theorem d1_18 : decode prog_43_method_4_code 18 = .ok (.iload_n 0, 1) := by decide +kernel
theorem d1_19 : decode prog_43_method_4_code 19 = .ok (.bipush 97, 2) := by decide +kernel
theorem d1_21 : decode prog_43_method_4_code 21 = .ok (.if_icmp .lt 9, 3) := by decide +kernel
theorem d1_24 : decode prog_43_method_4_code 24 = .ok (.iload_n 0, 1) := by decide +kernel
theorem d1_25 : decode prog_43_method_4_code 25 = .ok (.bipush 122, 2) := by decide +kernel
theorem d1_27 : decode prog_43_method_4_code 27 = .ok (.if_icmp .le 164, 3) := by decide +kernel
theorem d1_30 : decode prog_43_method_4_code 30 = .ok (.iload_n 0, 1) := by decide +kernel
theorem d1_31 : decode prog_43_method_4_code 31 = .ok (.sipush 192, 3) := by decide +kernel
theorem d1_34 : decode prog_43_method_4_code 34 = .ok (.if_icmp .lt 10, 3) := by decide +kernel
theorem d1_37 : decode prog_43_method_4_code 37 = .ok (.iload_n 0, 1) := by decide +kernel
theorem d1_38 : decode prog_43_method_4_code 38 = .ok (.sipush 214, 3) := by decide +kernel
theorem d1_41 : decode prog_43_method_4_code 41 = .ok (.if_icmp .le 150, 3) := by decide +kernel
theorem d1_44 : decode prog_43_method_4_code 44 = .ok (.iload_n 0, 1) := by decide +kernel
theorem d1_45 : decode prog_43_method_4_code 45 = .ok (.sipush 216, 3) := by decide +kernel
theorem d1_48 : decode prog_43_method_4_code 48 = .ok (.if_icmp .lt 10, 3) := by decide +kernel
theorem d1_51 : decode prog_43_method_4_code 51 = .ok (.iload_n 0, 1) := by decide +kernel
theorem d1_52 : decode prog_43_method_4_code 52 = .ok (.sipush 246, 3) := by decide +kernel
theorem d1_55 : decode prog_43_method_4_code 55 = .ok (.if_icmp .le 136, 3) := by decide +kernel
theorem d1_58 : decode prog_43_method_4_code 58 = .ok (.iload_n 0, 1) := by decide +kernel
theorem d1_59 : decode prog_43_method_4_code 59 = .ok (.sipush 248, 3) := by decide +kernel
theorem d1_62 : decode prog_43_method_4_code 62 = .ok (.if_icmp .lt 10, 3) := by decide +kernel
theorem d1_65 : decode prog_43_method_4_code 65 = .ok (.iload_n 0, 1) := by decide +kernel
theorem d1_66 : decode prog_43_method_4_code 66 = .ok (.sipush 767, 3) := by decide +kernel
theorem d1_69 : decode prog_43_method_4_code 69 = .ok (.if_icmp .le 122, 3) := by decide +kernel
theorem d1_72 : decode prog_43_method_4_code 72 = .ok (.iload_n 0, 1) := by decide +kernel
theorem d1_73 : decode prog_43_method_4_code 73 = .ok (.sipush 880, 3) := by decide +kernel
theorem d1_76 : decode prog_43_method_4_code 76 = .ok (.if_icmp .lt 10, 3) := by decide +kernel
theorem d1_79 : decode prog_43_method_4_code 79 = .ok (.iload_n 0, 1) := by decide +kernel
theorem d1_80 : decode prog_43_method_4_code 80 = .ok (.sipush 893, 3) := by decide +kernel
theorem d1_83 : decode prog_43_method_4_code 83 = .ok (.if_icmp .le 108, 3) := by decide +kernel
theorem d1_86 : decode prog_43_method_4_code 86 = .ok (.iload_n 0, 1) := by decide +kernel
theorem d1_87 : decode prog_43_method_4_code 87 = .ok (.sipush 895, 3) := by decide +kernel
theorem d1_90 : decode prog_43_method_4_code 90 = .ok (.if_icmp .lt 10, 3) := by decide +kernel
theorem d1_93 : decode prog_43_method_4_code 93 = .ok (.iload_n 0, 1) := by decide +kernel
theorem d1_94 : decode prog_43_method_4_code 94 = .ok (.sipush 8191, 3) := by decide +kernel
theorem d1_97 : decode prog_43_method_4_code 97 = .ok (.if_icmp .le 94, 3) := by decide +kernel
theorem d1_100 : decode prog_43_method_4_code 100 = .ok (.iload_n 0, 1) := by decide +kernel
theorem d1_101 : decode prog_43_method_4_code 101 = .ok (.sipush 8204, 3) := by decide +kernel
theorem d1_104 : decode prog_43_method_4_code 104 = .ok (.if_icmp .lt 10, 3) := by decide +kernel
theorem d1_107 : decode prog_43_method_4_code 107 = .ok (.iload_n 0, 1) := by decide +kernel
theorem d1_108 : decode prog_43_method_4_code 108 = .ok (.sipush 8205, 3) := by decide +kernel
theorem d1_111 : decode prog_43_method_4_code 111 = .ok (.if_icmp .le 80, 3) := by decide +kernel
theorem d1_114 : decode prog_43_method_4_code 114 = .ok (.iload_n 0, 1) := by decide +kernel
theorem d1_115 : decode prog_43_method_4_code 115 = .ok (.sipush 8304, 3) := by decide +kernel
theorem d1_118 : decode prog_43_method_4_code 118 = .ok (.if_icmp .lt 10, 3) := by decide +kernel
theorem d1_121 : decode prog_43_method_4_code 121 = .ok (.iload_n 0, 1) := by decide +kernel
theorem d1_122 : decode prog_43_method_4_code 122 = .ok (.sipush 8591, 3) := by decide +kernel
theorem d1_125 : decode prog_43_method_4_code 125 = .ok (.if_icmp .le 66, 3) := by decide +kernel
theorem d1_128 : decode prog_43_method_4_code 128 = .ok (.iload_n 0, 1) := by decide +kernel
theorem d1_129 : decode prog_43_method_4_code 129 = .ok (.sipush 11264, 3) := by decide +kernel
theorem d1_132 : decode prog_43_method_4_code 132 = .ok (.if_icmp .lt 10, 3) := by decide +kernel
theorem d1_135 : decode prog_43_method_4_code 135 = .ok (.iload_n 0, 1) := by decide +kernel
theorem d1_136 : decode prog_43_method_4_code 136 = .ok (.sipush 12271, 3) := by decide +kernel
theorem d1_139 : decode prog_43_method_4_code 139 = .ok (.if_icmp .le 52, 3) := by decide +kernel
theorem d1_142 : decode prog_43_method_4_code 142 = .ok (.iload_n 0, 1) := by decide +kernel
theorem d1_143 : decode prog_43_method_4_code 143 = .ok (.sipush 12289, 3) := by decide +kernel
theorem d1_146 : decode prog_43_method_4_code 146 = .ok (.if_icmp .lt 9, 3) := by decide +kernel
theorem d1_149 : decode prog_43_method_4_code 149 = .ok (.iload_n 0, 1) := by decide +kernel
theorem d1_150 : decode prog_43_method_4_code 150 = .ok (.ldc 39, 2) := by decide +kernel
theorem d1_152 : decode prog_43_method_4_code 152 = .ok (.if_icmp .le 39, 3) := by decide +kernel
theorem d1_155 : decode prog_43_method_4_code 155 = .ok (.iload_n 0, 1) := by decide +kernel
theorem d1_156 : decode prog_43_method_4_code 156 = .ok (.ldc 40, 2) := by decide +kernel
theorem d1_158 : decode prog_43_method_4_code 158 = .ok (.if_icmp .lt 9, 3) := by decide +kernel
theorem d1_161 : decode prog_43_method_4_code 161 = .ok (.iload_n 0, 1) := by decide +kernel
theorem d1_162 : decode prog_43_method_4_code 162 = .ok (.ldc 41, 2) := by decide +kernel
theorem d1_164 : decode prog_43_method_4_code 164 = .ok (.if_icmp .le 27, 3) := by decide +kernel
theorem d1_167 : decode prog_43_method_4_code 167 = .ok (.iload_n 0, 1) := by decide +kernel
theorem d1_168 : decode prog_43_method_4_code 168 = .ok (.ldc 42, 2) := by decide +kernel
theorem d1_170 : decode prog_43_method_4_code 170 = .ok (.if_icmp .lt 9, 3) := by decide +kernel
theorem d1_173 : decode prog_43_method_4_code 173 = .ok (.iload_n 0, 1) := by decide +kernel
theorem d1_174 : decode prog_43_method_4_code 174 = .ok (.ldc 43, 2) := by decide +kernel
theorem d1_176 : decode prog_43_method_4_code 176 = .ok (.if_icmp .le 15, 3) := by decide +kernel
theorem d1_179 : decode prog_43_method_4_code 179 = .ok (.iload_n 0, 1) := by decide +kernel
theorem d1_180 : decode prog_43_method_4_code 180 = .ok (.ldc 44, 2) := by decide +kernel
theorem d1_182 : decode prog_43_method_4_code 182 = .ok (.if_icmp .lt 13, 3) := by decide +kernel
theorem d1_185 : decode prog_43_method_4_code 185 = .ok (.iload_n 0, 1) := by decide +kernel
theorem d1_186 : decode prog_43_method_4_code 186 = .ok (.ldc 45, 2) := by decide +kernel
theorem d1_188 : decode prog_43_method_4_code 188 = .ok (.if_icmp .gt 7, 3) := by decide +kernel
theorem d1_191 : decode prog_43_method_4_code 191 = .ok (.iconst 1, 1) := by decide +kernel
theorem d1_192 : decode prog_43_method_4_code 192 = .ok (.goto 4, 3) := by decide +kernel
theorem d1_195 : decode prog_43_method_4_code 195 = .ok (.iconst 0, 1) := by decide +kernel
theorem d1_196 : decode prog_43_method_4_code 196 = .ok (.ireturn, 1) := by decide +kernel
abbrev Q1 (c : Int32)  (h0 : Heap) : Option Value → Heap → Prop := fun v h => v = some (.int (fName c)) ∧ h0 = h
set_option maxRecDepth 65536 in
set_option maxHeartbeats 40000000 in
theorem rm1 {l : Launch} {Z : State} {a0 : Array Value} (hw : ∀ d ∈ tables_1, d.before a0 Z = true) (n0 : Nat) (c : Int32)  (h0 : Heap)  :
    Met l Z n0 (⟨"com/example/libaxes/libaxes/tree/XmlNames", "isNameStart", "(I)Z"⟩ : MethodName) prog_43_method_4_code 1 (some .boolean) [] ({ frames := 0, cells := 0, slots := 0, locals := 0 } : Room) #[(.int c)] h0 (Q1 c h0) 0 0 := by
  refine Met.of pn0 (Ls := #[.val (.int c)]) (fun m => by first | rfl | (simp [entryFrame, mkF, argsToLocals, Value.category, maxLocals]; done)) (fun k T0 X0 => ?_)
  refine g_iloadN X0 d1_0 rfl 1 rfl ?_
  refine g_bipush X0 (65 : Int32) d1_1 rfl 3 rfl ?_
  have k196_1 : ∀ (v1 : Int32), (Q1 c h0) (some (.int (v1 &&& 1))) h0 → Go k n0 (Q1 c h0) 0 0 T0 196 #[.val (.int c)] [(.int v1)] := by
    intro v1 hQ
    exact g_retZ X0 d1_196 (by decide) (by decide) hQ
  have k12_2 : ((c < (65 : Int32)) ∨ ((90 : Int32) < c)) → Go k n0 (Q1 c h0) 0 0 T0 12 #[.val (.int c)] [] := by
    intro r2
    refine g_iloadN X0 d1_12 rfl 13 rfl ?_
    refine g_bipush X0 (95 : Int32) d1_13 rfl 15 rfl ?_
    refine g_icmp X0 i_eq d1_15 191 (by decide) (by decide) 18 rfl (fun h3 => ?_) (fun h3 => ?_)
    · skip
      refine g_iconst X0 (1 : Int32) d1_191 rfl 192 rfl ?_
      refine g_goto X0 d1_192 196 (by decide) (by decide) ?_
      exact k196_1 ((1 : Int32)) ⟨own_N1 (by simp [pName, h3]), rfl⟩
    · skip
      refine g_iloadN X0 d1_18 rfl 19 rfl ?_
      refine g_bipush X0 (97 : Int32) d1_19 rfl 21 rfl ?_
      have k30_3 : ((c < (97 : Int32)) ∨ ((122 : Int32) < c)) → Go k n0 (Q1 c h0) 0 0 T0 30 #[.val (.int c)] [] := by
        intro r4
        refine g_iloadN X0 d1_30 rfl 31 rfl ?_
        refine g_sipush X0 (192 : Int32) d1_31 rfl 34 rfl ?_
        have k44_4 : ((c < (192 : Int32)) ∨ ((214 : Int32) < c)) → Go k n0 (Q1 c h0) 0 0 T0 44 #[.val (.int c)] [] := by
          intro r5
          refine g_iloadN X0 d1_44 rfl 45 rfl ?_
          refine g_sipush X0 (216 : Int32) d1_45 rfl 48 rfl ?_
          have k58_5 : ((c < (216 : Int32)) ∨ ((246 : Int32) < c)) → Go k n0 (Q1 c h0) 0 0 T0 58 #[.val (.int c)] [] := by
            intro r6
            refine g_iloadN X0 d1_58 rfl 59 rfl ?_
            refine g_sipush X0 (248 : Int32) d1_59 rfl 62 rfl ?_
            have k72_6 : ((c < (248 : Int32)) ∨ ((767 : Int32) < c)) → Go k n0 (Q1 c h0) 0 0 T0 72 #[.val (.int c)] [] := by
              intro r7
              refine g_iloadN X0 d1_72 rfl 73 rfl ?_
              refine g_sipush X0 (880 : Int32) d1_73 rfl 76 rfl ?_
              have k86_7 : ((c < (880 : Int32)) ∨ ((893 : Int32) < c)) → Go k n0 (Q1 c h0) 0 0 T0 86 #[.val (.int c)] [] := by
                intro r8
                refine g_iloadN X0 d1_86 rfl 87 rfl ?_
                refine g_sipush X0 (895 : Int32) d1_87 rfl 90 rfl ?_
                have k100_8 : ((c < (895 : Int32)) ∨ ((8191 : Int32) < c)) → Go k n0 (Q1 c h0) 0 0 T0 100 #[.val (.int c)] [] := by
                  intro r9
                  refine g_iloadN X0 d1_100 rfl 101 rfl ?_
                  refine g_sipush X0 (8204 : Int32) d1_101 rfl 104 rfl ?_
                  have k114_9 : ((c < (8204 : Int32)) ∨ ((8205 : Int32) < c)) → Go k n0 (Q1 c h0) 0 0 T0 114 #[.val (.int c)] [] := by
                    intro r10
                    refine g_iloadN X0 d1_114 rfl 115 rfl ?_
                    refine g_sipush X0 (8304 : Int32) d1_115 rfl 118 rfl ?_
                    have k128_10 : ((c < (8304 : Int32)) ∨ ((8591 : Int32) < c)) → Go k n0 (Q1 c h0) 0 0 T0 128 #[.val (.int c)] [] := by
                      intro r11
                      refine g_iloadN X0 d1_128 rfl 129 rfl ?_
                      refine g_sipush X0 (11264 : Int32) d1_129 rfl 132 rfl ?_
                      have k142_11 : ((c < (11264 : Int32)) ∨ ((12271 : Int32) < c)) → Go k n0 (Q1 c h0) 0 0 T0 142 #[.val (.int c)] [] := by
                        intro r12
                        refine g_iloadN X0 d1_142 rfl 143 rfl ?_
                        refine g_sipush X0 (12289 : Int32) d1_143 rfl 146 rfl ?_
                        have k155_12 : ((c < (12289 : Int32)) ∨ ((55295 : Int32) < c)) → Go k n0 (Q1 c h0) 0 0 T0 155 #[.val (.int c)] [] := by
                          intro r13
                          refine g_iloadN X0 d1_155 rfl 156 rfl ?_
                          refine g_ldcI X0 (w5 hw) d1_156 158 rfl ?_
                          have k167_13 : ((c < (63744 : Int32)) ∨ ((64975 : Int32) < c)) → Go k n0 (Q1 c h0) 0 0 T0 167 #[.val (.int c)] [] := by
                            intro r14
                            refine g_iloadN X0 d1_167 rfl 168 rfl ?_
                            refine g_ldcI X0 (w6 hw) d1_168 170 rfl ?_
                            have k179_14 : ((c < (65008 : Int32)) ∨ ((65533 : Int32) < c)) → Go k n0 (Q1 c h0) 0 0 T0 179 #[.val (.int c)] [] := by
                              intro r15
                              refine g_iloadN X0 d1_179 rfl 180 rfl ?_
                              refine g_ldcI X0 (w7 hw) d1_180 182 rfl ?_
                              refine g_icmp X0 i_lt d1_182 195 (by decide) (by decide) 185 rfl (fun h16 => ?_) (fun h16 => ?_)
                              · skip
                                refine g_iconst X0 (0 : Int32) d1_195 rfl 196 rfl ?_
                                exact k196_1 ((0 : Int32)) ⟨own_N0 (by intro hp; simp only [pName, Int32.lt_iff_toInt_lt, ← Int32.toInt_inj, own_n65, own_n90, own_n91, own_n94, own_n95, own_n96, own_n97, own_n122, own_n123, own_n191, own_n192, own_n214, own_n215, own_n216, own_n246, own_n247, own_n248, own_n767, own_n768, own_n879, own_n880, own_n893, own_n894, own_n895, own_n8191, own_n8192, own_n8203, own_n8204, own_n8205, own_n8206, own_n8303, own_n8304, own_n8591, own_n8592, own_n11263, own_n11264, own_n12271, own_n12272, own_n12288, own_n12289, own_n55295, own_n55296, own_n63743, own_n63744, own_n64975, own_n64976, own_n65007, own_n65008, own_n65533, own_n65534, own_n65535, own_n65536, own_n983039] at hp h3 h16 r2 r4 r5 r6 r7 r8 r9 r10 r11 r12 r13 r14 r15; omega), rfl⟩
                              · skip
                                refine g_iloadN X0 d1_185 rfl 186 rfl ?_
                                refine g_ldcI X0 (w25 hw) d1_186 188 rfl ?_
                                refine g_icmp X0 i_gt d1_188 195 (by decide) (by decide) 191 rfl (fun h17 => ?_) (fun h17 => ?_)
                                · skip
                                  refine g_iconst X0 (0 : Int32) d1_195 rfl 196 rfl ?_
                                  exact k196_1 ((0 : Int32)) ⟨own_N0 (by intro hp; simp only [pName, Int32.lt_iff_toInt_lt, ← Int32.toInt_inj, own_n65, own_n90, own_n91, own_n94, own_n95, own_n96, own_n97, own_n122, own_n123, own_n191, own_n192, own_n214, own_n215, own_n216, own_n246, own_n247, own_n248, own_n767, own_n768, own_n879, own_n880, own_n893, own_n894, own_n895, own_n8191, own_n8192, own_n8203, own_n8204, own_n8205, own_n8206, own_n8303, own_n8304, own_n8591, own_n8592, own_n11263, own_n11264, own_n12271, own_n12272, own_n12288, own_n12289, own_n55295, own_n55296, own_n63743, own_n63744, own_n64975, own_n64976, own_n65007, own_n65008, own_n65533, own_n65534, own_n65535, own_n65536, own_n983039] at hp h3 h16 h17 r2 r4 r5 r6 r7 r8 r9 r10 r11 r12 r13 r14 r15; omega), rfl⟩
                                · skip
                                  refine g_iconst X0 (1 : Int32) d1_191 rfl 192 rfl ?_
                                  refine g_goto X0 d1_192 196 (by decide) (by decide) ?_
                                  exact k196_1 ((1 : Int32)) ⟨own_N1 (by simp [pName, h16, h17]), rfl⟩
                            refine g_icmp X0 i_lt d1_170 179 (by decide) (by decide) 173 rfl (fun h18 => ?_) (fun h18 => ?_)
                            · skip
                              exact k179_14  (by first | (simp only [h3, h18, if_true, if_false, true_or, or_true, true_and, and_true, not_true_eq_false, not_false_eq_true, false_or, or_false, false_and, and_false]; done) | (simp only [h3, h18, r2, r4, r5, r6, r7, r8, r9, r10, r11, r12, r13, r14, if_true, if_false, true_or, or_true, true_and, and_true, not_true_eq_false, not_false_eq_true, false_or, or_false, false_and, and_false]; done))
                            · skip
                              refine g_iloadN X0 d1_173 rfl 174 rfl ?_
                              refine g_ldcI X0 (w24 hw) d1_174 176 rfl ?_
                              refine g_icmpN X0 i_le d1_176 191 (by decide) (by decide) 179 rfl (fun h19 => ?_) (fun h19 => ?_)
                              · skip
                                exact k179_14  (by first | (simp only [h3, h18, h19, if_true, if_false, true_or, or_true, true_and, and_true, not_true_eq_false, not_false_eq_true, false_or, or_false, false_and, and_false]; done) | (simp only [h3, h18, h19, r2, r4, r5, r6, r7, r8, r9, r10, r11, r12, r13, r14, if_true, if_false, true_or, or_true, true_and, and_true, not_true_eq_false, not_false_eq_true, false_or, or_false, false_and, and_false]; done))
                              · skip
                                refine g_iconst X0 (1 : Int32) d1_191 rfl 192 rfl ?_
                                refine g_goto X0 d1_192 196 (by decide) (by decide) ?_
                                exact k196_1 ((1 : Int32)) ⟨own_N1 (by simp [pName, h18, h19]), rfl⟩
                          refine g_icmp X0 i_lt d1_158 167 (by decide) (by decide) 161 rfl (fun h20 => ?_) (fun h20 => ?_)
                          · skip
                            exact k167_13  (by first | (simp only [h3, h20, if_true, if_false, true_or, or_true, true_and, and_true, not_true_eq_false, not_false_eq_true, false_or, or_false, false_and, and_false]; done) | (simp only [h3, h20, r2, r4, r5, r6, r7, r8, r9, r10, r11, r12, r13, if_true, if_false, true_or, or_true, true_and, and_true, not_true_eq_false, not_false_eq_true, false_or, or_false, false_and, and_false]; done))
                          · skip
                            refine g_iloadN X0 d1_161 rfl 162 rfl ?_
                            refine g_ldcI X0 (w23 hw) d1_162 164 rfl ?_
                            refine g_icmpN X0 i_le d1_164 191 (by decide) (by decide) 167 rfl (fun h21 => ?_) (fun h21 => ?_)
                            · skip
                              exact k167_13  (by first | (simp only [h3, h20, h21, if_true, if_false, true_or, or_true, true_and, and_true, not_true_eq_false, not_false_eq_true, false_or, or_false, false_and, and_false]; done) | (simp only [h3, h20, h21, r2, r4, r5, r6, r7, r8, r9, r10, r11, r12, r13, if_true, if_false, true_or, or_true, true_and, and_true, not_true_eq_false, not_false_eq_true, false_or, or_false, false_and, and_false]; done))
                            · skip
                              refine g_iconst X0 (1 : Int32) d1_191 rfl 192 rfl ?_
                              refine g_goto X0 d1_192 196 (by decide) (by decide) ?_
                              exact k196_1 ((1 : Int32)) ⟨own_N1 (by simp [pName, h20, h21]), rfl⟩
                        refine g_icmp X0 i_lt d1_146 155 (by decide) (by decide) 149 rfl (fun h22 => ?_) (fun h22 => ?_)
                        · skip
                          exact k155_12  (by first | (simp only [h3, h22, if_true, if_false, true_or, or_true, true_and, and_true, not_true_eq_false, not_false_eq_true, false_or, or_false, false_and, and_false]; done) | (simp only [h3, h22, r2, r4, r5, r6, r7, r8, r9, r10, r11, r12, if_true, if_false, true_or, or_true, true_and, and_true, not_true_eq_false, not_false_eq_true, false_or, or_false, false_and, and_false]; done))
                        · skip
                          refine g_iloadN X0 d1_149 rfl 150 rfl ?_
                          refine g_ldcI X0 (w22 hw) d1_150 152 rfl ?_
                          refine g_icmpN X0 i_le d1_152 191 (by decide) (by decide) 155 rfl (fun h23 => ?_) (fun h23 => ?_)
                          · skip
                            exact k155_12  (by first | (simp only [h3, h22, h23, if_true, if_false, true_or, or_true, true_and, and_true, not_true_eq_false, not_false_eq_true, false_or, or_false, false_and, and_false]; done) | (simp only [h3, h22, h23, r2, r4, r5, r6, r7, r8, r9, r10, r11, r12, if_true, if_false, true_or, or_true, true_and, and_true, not_true_eq_false, not_false_eq_true, false_or, or_false, false_and, and_false]; done))
                          · skip
                            refine g_iconst X0 (1 : Int32) d1_191 rfl 192 rfl ?_
                            refine g_goto X0 d1_192 196 (by decide) (by decide) ?_
                            exact k196_1 ((1 : Int32)) ⟨own_N1 (by simp [pName, h22, h23]), rfl⟩
                      refine g_icmp X0 i_lt d1_132 142 (by decide) (by decide) 135 rfl (fun h24 => ?_) (fun h24 => ?_)
                      · skip
                        exact k142_11  (by first | (simp only [h3, h24, if_true, if_false, true_or, or_true, true_and, and_true, not_true_eq_false, not_false_eq_true, false_or, or_false, false_and, and_false]; done) | (simp only [h3, h24, r2, r4, r5, r6, r7, r8, r9, r10, r11, if_true, if_false, true_or, or_true, true_and, and_true, not_true_eq_false, not_false_eq_true, false_or, or_false, false_and, and_false]; done))
                      · skip
                        refine g_iloadN X0 d1_135 rfl 136 rfl ?_
                        refine g_sipush X0 (12271 : Int32) d1_136 rfl 139 rfl ?_
                        refine g_icmpN X0 i_le d1_139 191 (by decide) (by decide) 142 rfl (fun h25 => ?_) (fun h25 => ?_)
                        · skip
                          exact k142_11  (by first | (simp only [h3, h24, h25, if_true, if_false, true_or, or_true, true_and, and_true, not_true_eq_false, not_false_eq_true, false_or, or_false, false_and, and_false]; done) | (simp only [h3, h24, h25, r2, r4, r5, r6, r7, r8, r9, r10, r11, if_true, if_false, true_or, or_true, true_and, and_true, not_true_eq_false, not_false_eq_true, false_or, or_false, false_and, and_false]; done))
                        · skip
                          refine g_iconst X0 (1 : Int32) d1_191 rfl 192 rfl ?_
                          refine g_goto X0 d1_192 196 (by decide) (by decide) ?_
                          exact k196_1 ((1 : Int32)) ⟨own_N1 (by simp [pName, h24, h25]), rfl⟩
                    refine g_icmp X0 i_lt d1_118 128 (by decide) (by decide) 121 rfl (fun h26 => ?_) (fun h26 => ?_)
                    · skip
                      exact k128_10  (by first | (simp only [h3, h26, if_true, if_false, true_or, or_true, true_and, and_true, not_true_eq_false, not_false_eq_true, false_or, or_false, false_and, and_false]; done) | (simp only [h3, h26, r2, r4, r5, r6, r7, r8, r9, r10, if_true, if_false, true_or, or_true, true_and, and_true, not_true_eq_false, not_false_eq_true, false_or, or_false, false_and, and_false]; done))
                    · skip
                      refine g_iloadN X0 d1_121 rfl 122 rfl ?_
                      refine g_sipush X0 (8591 : Int32) d1_122 rfl 125 rfl ?_
                      refine g_icmpN X0 i_le d1_125 191 (by decide) (by decide) 128 rfl (fun h27 => ?_) (fun h27 => ?_)
                      · skip
                        exact k128_10  (by first | (simp only [h3, h26, h27, if_true, if_false, true_or, or_true, true_and, and_true, not_true_eq_false, not_false_eq_true, false_or, or_false, false_and, and_false]; done) | (simp only [h3, h26, h27, r2, r4, r5, r6, r7, r8, r9, r10, if_true, if_false, true_or, or_true, true_and, and_true, not_true_eq_false, not_false_eq_true, false_or, or_false, false_and, and_false]; done))
                      · skip
                        refine g_iconst X0 (1 : Int32) d1_191 rfl 192 rfl ?_
                        refine g_goto X0 d1_192 196 (by decide) (by decide) ?_
                        exact k196_1 ((1 : Int32)) ⟨own_N1 (by simp [pName, h26, h27]), rfl⟩
                  refine g_icmp X0 i_lt d1_104 114 (by decide) (by decide) 107 rfl (fun h28 => ?_) (fun h28 => ?_)
                  · skip
                    exact k114_9  (by first | (simp only [h3, h28, if_true, if_false, true_or, or_true, true_and, and_true, not_true_eq_false, not_false_eq_true, false_or, or_false, false_and, and_false]; done) | (simp only [h3, h28, r2, r4, r5, r6, r7, r8, r9, if_true, if_false, true_or, or_true, true_and, and_true, not_true_eq_false, not_false_eq_true, false_or, or_false, false_and, and_false]; done))
                  · skip
                    refine g_iloadN X0 d1_107 rfl 108 rfl ?_
                    refine g_sipush X0 (8205 : Int32) d1_108 rfl 111 rfl ?_
                    refine g_icmpN X0 i_le d1_111 191 (by decide) (by decide) 114 rfl (fun h29 => ?_) (fun h29 => ?_)
                    · skip
                      exact k114_9  (by first | (simp only [h3, h28, h29, if_true, if_false, true_or, or_true, true_and, and_true, not_true_eq_false, not_false_eq_true, false_or, or_false, false_and, and_false]; done) | (simp only [h3, h28, h29, r2, r4, r5, r6, r7, r8, r9, if_true, if_false, true_or, or_true, true_and, and_true, not_true_eq_false, not_false_eq_true, false_or, or_false, false_and, and_false]; done))
                    · skip
                      refine g_iconst X0 (1 : Int32) d1_191 rfl 192 rfl ?_
                      refine g_goto X0 d1_192 196 (by decide) (by decide) ?_
                      exact k196_1 ((1 : Int32)) ⟨own_N1 (by simp [pName, h28, h29]), rfl⟩
                refine g_icmp X0 i_lt d1_90 100 (by decide) (by decide) 93 rfl (fun h30 => ?_) (fun h30 => ?_)
                · skip
                  exact k100_8  (by first | (simp only [h3, h30, if_true, if_false, true_or, or_true, true_and, and_true, not_true_eq_false, not_false_eq_true, false_or, or_false, false_and, and_false]; done) | (simp only [h3, h30, r2, r4, r5, r6, r7, r8, if_true, if_false, true_or, or_true, true_and, and_true, not_true_eq_false, not_false_eq_true, false_or, or_false, false_and, and_false]; done))
                · skip
                  refine g_iloadN X0 d1_93 rfl 94 rfl ?_
                  refine g_sipush X0 (8191 : Int32) d1_94 rfl 97 rfl ?_
                  refine g_icmpN X0 i_le d1_97 191 (by decide) (by decide) 100 rfl (fun h31 => ?_) (fun h31 => ?_)
                  · skip
                    exact k100_8  (by first | (simp only [h3, h30, h31, if_true, if_false, true_or, or_true, true_and, and_true, not_true_eq_false, not_false_eq_true, false_or, or_false, false_and, and_false]; done) | (simp only [h3, h30, h31, r2, r4, r5, r6, r7, r8, if_true, if_false, true_or, or_true, true_and, and_true, not_true_eq_false, not_false_eq_true, false_or, or_false, false_and, and_false]; done))
                  · skip
                    refine g_iconst X0 (1 : Int32) d1_191 rfl 192 rfl ?_
                    refine g_goto X0 d1_192 196 (by decide) (by decide) ?_
                    exact k196_1 ((1 : Int32)) ⟨own_N1 (by simp [pName, h30, h31]), rfl⟩
              refine g_icmp X0 i_lt d1_76 86 (by decide) (by decide) 79 rfl (fun h32 => ?_) (fun h32 => ?_)
              · skip
                exact k86_7  (by first | (simp only [h3, h32, if_true, if_false, true_or, or_true, true_and, and_true, not_true_eq_false, not_false_eq_true, false_or, or_false, false_and, and_false]; done) | (simp only [h3, h32, r2, r4, r5, r6, r7, if_true, if_false, true_or, or_true, true_and, and_true, not_true_eq_false, not_false_eq_true, false_or, or_false, false_and, and_false]; done))
              · skip
                refine g_iloadN X0 d1_79 rfl 80 rfl ?_
                refine g_sipush X0 (893 : Int32) d1_80 rfl 83 rfl ?_
                refine g_icmpN X0 i_le d1_83 191 (by decide) (by decide) 86 rfl (fun h33 => ?_) (fun h33 => ?_)
                · skip
                  exact k86_7  (by first | (simp only [h3, h32, h33, if_true, if_false, true_or, or_true, true_and, and_true, not_true_eq_false, not_false_eq_true, false_or, or_false, false_and, and_false]; done) | (simp only [h3, h32, h33, r2, r4, r5, r6, r7, if_true, if_false, true_or, or_true, true_and, and_true, not_true_eq_false, not_false_eq_true, false_or, or_false, false_and, and_false]; done))
                · skip
                  refine g_iconst X0 (1 : Int32) d1_191 rfl 192 rfl ?_
                  refine g_goto X0 d1_192 196 (by decide) (by decide) ?_
                  exact k196_1 ((1 : Int32)) ⟨own_N1 (by simp [pName, h32, h33]), rfl⟩
            refine g_icmp X0 i_lt d1_62 72 (by decide) (by decide) 65 rfl (fun h34 => ?_) (fun h34 => ?_)
            · skip
              exact k72_6  (by first | (simp only [h3, h34, if_true, if_false, true_or, or_true, true_and, and_true, not_true_eq_false, not_false_eq_true, false_or, or_false, false_and, and_false]; done) | (simp only [h3, h34, r2, r4, r5, r6, if_true, if_false, true_or, or_true, true_and, and_true, not_true_eq_false, not_false_eq_true, false_or, or_false, false_and, and_false]; done))
            · skip
              refine g_iloadN X0 d1_65 rfl 66 rfl ?_
              refine g_sipush X0 (767 : Int32) d1_66 rfl 69 rfl ?_
              refine g_icmpN X0 i_le d1_69 191 (by decide) (by decide) 72 rfl (fun h35 => ?_) (fun h35 => ?_)
              · skip
                exact k72_6  (by first | (simp only [h3, h34, h35, if_true, if_false, true_or, or_true, true_and, and_true, not_true_eq_false, not_false_eq_true, false_or, or_false, false_and, and_false]; done) | (simp only [h3, h34, h35, r2, r4, r5, r6, if_true, if_false, true_or, or_true, true_and, and_true, not_true_eq_false, not_false_eq_true, false_or, or_false, false_and, and_false]; done))
              · skip
                refine g_iconst X0 (1 : Int32) d1_191 rfl 192 rfl ?_
                refine g_goto X0 d1_192 196 (by decide) (by decide) ?_
                exact k196_1 ((1 : Int32)) ⟨own_N1 (by simp [pName, h34, h35]), rfl⟩
          refine g_icmp X0 i_lt d1_48 58 (by decide) (by decide) 51 rfl (fun h36 => ?_) (fun h36 => ?_)
          · skip
            exact k58_5  (by first | (simp only [h3, h36, if_true, if_false, true_or, or_true, true_and, and_true, not_true_eq_false, not_false_eq_true, false_or, or_false, false_and, and_false]; done) | (simp only [h3, h36, r2, r4, r5, if_true, if_false, true_or, or_true, true_and, and_true, not_true_eq_false, not_false_eq_true, false_or, or_false, false_and, and_false]; done))
          · skip
            refine g_iloadN X0 d1_51 rfl 52 rfl ?_
            refine g_sipush X0 (246 : Int32) d1_52 rfl 55 rfl ?_
            refine g_icmpN X0 i_le d1_55 191 (by decide) (by decide) 58 rfl (fun h37 => ?_) (fun h37 => ?_)
            · skip
              exact k58_5  (by first | (simp only [h3, h36, h37, if_true, if_false, true_or, or_true, true_and, and_true, not_true_eq_false, not_false_eq_true, false_or, or_false, false_and, and_false]; done) | (simp only [h3, h36, h37, r2, r4, r5, if_true, if_false, true_or, or_true, true_and, and_true, not_true_eq_false, not_false_eq_true, false_or, or_false, false_and, and_false]; done))
            · skip
              refine g_iconst X0 (1 : Int32) d1_191 rfl 192 rfl ?_
              refine g_goto X0 d1_192 196 (by decide) (by decide) ?_
              exact k196_1 ((1 : Int32)) ⟨own_N1 (by simp [pName, h36, h37]), rfl⟩
        refine g_icmp X0 i_lt d1_34 44 (by decide) (by decide) 37 rfl (fun h38 => ?_) (fun h38 => ?_)
        · skip
          exact k44_4  (by first | (simp only [h3, h38, if_true, if_false, true_or, or_true, true_and, and_true, not_true_eq_false, not_false_eq_true, false_or, or_false, false_and, and_false]; done) | (simp only [h3, h38, r2, r4, if_true, if_false, true_or, or_true, true_and, and_true, not_true_eq_false, not_false_eq_true, false_or, or_false, false_and, and_false]; done))
        · skip
          refine g_iloadN X0 d1_37 rfl 38 rfl ?_
          refine g_sipush X0 (214 : Int32) d1_38 rfl 41 rfl ?_
          refine g_icmpN X0 i_le d1_41 191 (by decide) (by decide) 44 rfl (fun h39 => ?_) (fun h39 => ?_)
          · skip
            exact k44_4  (by first | (simp only [h3, h38, h39, if_true, if_false, true_or, or_true, true_and, and_true, not_true_eq_false, not_false_eq_true, false_or, or_false, false_and, and_false]; done) | (simp only [h3, h38, h39, r2, r4, if_true, if_false, true_or, or_true, true_and, and_true, not_true_eq_false, not_false_eq_true, false_or, or_false, false_and, and_false]; done))
          · skip
            refine g_iconst X0 (1 : Int32) d1_191 rfl 192 rfl ?_
            refine g_goto X0 d1_192 196 (by decide) (by decide) ?_
            exact k196_1 ((1 : Int32)) ⟨own_N1 (by simp [pName, h38, h39]), rfl⟩
      refine g_icmp X0 i_lt d1_21 30 (by decide) (by decide) 24 rfl (fun h40 => ?_) (fun h40 => ?_)
      · skip
        exact k30_3  (by first | (simp only [h3, h40, if_true, if_false, true_or, or_true, true_and, and_true, not_true_eq_false, not_false_eq_true, false_or, or_false, false_and, and_false]; done) | (simp only [h3, h40, r2, if_true, if_false, true_or, or_true, true_and, and_true, not_true_eq_false, not_false_eq_true, false_or, or_false, false_and, and_false]; done))
      · skip
        refine g_iloadN X0 d1_24 rfl 25 rfl ?_
        refine g_bipush X0 (122 : Int32) d1_25 rfl 27 rfl ?_
        refine g_icmpN X0 i_le d1_27 191 (by decide) (by decide) 30 rfl (fun h41 => ?_) (fun h41 => ?_)
        · skip
          exact k30_3  (by first | (simp only [h3, h40, h41, if_true, if_false, true_or, or_true, true_and, and_true, not_true_eq_false, not_false_eq_true, false_or, or_false, false_and, and_false]; done) | (simp only [h3, h40, h41, r2, if_true, if_false, true_or, or_true, true_and, and_true, not_true_eq_false, not_false_eq_true, false_or, or_false, false_and, and_false]; done))
        · skip
          refine g_iconst X0 (1 : Int32) d1_191 rfl 192 rfl ?_
          refine g_goto X0 d1_192 196 (by decide) (by decide) ?_
          exact k196_1 ((1 : Int32)) ⟨own_N1 (by simp [pName, h40, h41]), rfl⟩
  refine g_icmp X0 i_lt d1_3 12 (by decide) (by decide) 6 rfl (fun h42 => ?_) (fun h42 => ?_)
  · skip
    exact k12_2  (by first | (simp only [h42, if_true, if_false, true_or, or_true, true_and, and_true, not_true_eq_false, not_false_eq_true, false_or, or_false, false_and, and_false]; done) | (simp only [h42, if_true, if_false, true_or, or_true, true_and, and_true, not_true_eq_false, not_false_eq_true, false_or, or_false, false_and, and_false]; done))
  · skip
    refine g_iloadN X0 d1_6 rfl 7 rfl ?_
    refine g_bipush X0 (90 : Int32) d1_7 rfl 9 rfl ?_
    refine g_icmpN X0 i_le d1_9 191 (by decide) (by decide) 12 rfl (fun h43 => ?_) (fun h43 => ?_)
    · skip
      exact k12_2  (by first | (simp only [h42, h43, if_true, if_false, true_or, or_true, true_and, and_true, not_true_eq_false, not_false_eq_true, false_or, or_false, false_and, and_false]; done) | (simp only [h42, h43, if_true, if_false, true_or, or_true, true_and, and_true, not_true_eq_false, not_false_eq_true, false_or, or_false, false_and, and_false]; done))
    · skip
      refine g_iconst X0 (1 : Int32) d1_191 rfl 192 rfl ?_
      refine g_goto X0 d1_192 196 (by decide) (by decide) ?_
      exact k196_1 ((1 : Int32)) ⟨own_N1 (by simp [pName, h42, h43]), rfl⟩
theorem d3_0 : decode method_2_code 0 = .ok (.iload_n 0, 1) := by decide +kernel
theorem d3_1 : decode method_2_code 1 = .ok (.iload_n 1, 1) := by decide +kernel
theorem d3_2 : decode method_2_code 2 = .ok (.if_icmp .lt 12, 3) := by decide +kernel
theorem d3_5 : decode method_2_code 5 = .ok (.iload_n 0, 1) := by decide +kernel
theorem d3_6 : decode method_2_code 6 = .ok (.iload_n 2, 1) := by decide +kernel
theorem d3_7 : decode method_2_code 7 = .ok (.if_icmp .gt 7, 3) := by decide +kernel
theorem d3_10 : decode method_2_code 10 = .ok (.iconst 1, 1) := by decide +kernel
theorem d3_11 : decode method_2_code 11 = .ok (.goto 4, 3) := by decide +kernel
theorem d3_14 : decode method_2_code 14 = .ok (.iconst 0, 1) := by decide +kernel
theorem d3_15 : decode method_2_code 15 = .ok (.ireturn, 1) := by decide +kernel
abbrev Q3 (c : Int32) (a : Int32) (b : Int32)  (h0 : Heap) : Option Value → Heap → Prop := fun v h => v = some (.int (fIn c a b)) ∧ h0 = h
set_option maxRecDepth 65536 in
set_option maxHeartbeats 40000000 in
theorem rm3 {l : Launch} {Z : State} {a0 : Array Value} (hw : ∀ d ∈ tables_1, d.before a0 Z = true) (n0 : Nat) (c : Int32) (a : Int32) (b : Int32)  (h0 : Heap)  :
    Met l Z n0 (⟨"com/example/libaxes/libaxes/tree/XmlNamesIsNameStartPinLaw", "in", "(III)Z"⟩ : MethodName) method_2_code 3 (some .boolean) [] ({ frames := 0, cells := 0, slots := 0, locals := 0 } : Room) #[(.int c), (.int a), (.int b)] h0 (Q3 c a b h0) 0 0 := by
  refine Met.of pn1 (Ls := #[.val (.int c), .val (.int a), .val (.int b)]) (fun m => by first | rfl | (simp [entryFrame, mkF, argsToLocals, Value.category, maxLocals]; done)) (fun k T0 X0 => ?_)
  refine g_iloadN X0 d3_0 rfl 1 rfl ?_
  refine g_iloadN X0 d3_1 rfl 2 rfl ?_
  have k15_15 : ∀ (v1 : Int32), (Q3 c a b h0) (some (.int (v1 &&& 1))) h0 → Go k n0 (Q3 c a b h0) 0 0 T0 15 #[.val (.int c), .val (.int a), .val (.int b)] [(.int v1)] := by
    intro v1 hQ
    exact g_retZ X0 d3_15 (by decide) (by decide) hQ
  refine g_icmp X0 i_lt d3_2 14 (by decide) (by decide) 5 rfl (fun h2 => ?_) (fun h2 => ?_)
  · skip
    refine g_iconst X0 (0 : Int32) d3_14 rfl 15 rfl ?_
    exact k15_15 ((0 : Int32)) ⟨by simp [fIn, own_b0, own_b1, h2], rfl⟩
  · skip
    refine g_iloadN X0 d3_5 rfl 6 rfl ?_
    refine g_iloadN X0 d3_6 rfl 7 rfl ?_
    refine g_icmp X0 i_gt d3_7 14 (by decide) (by decide) 10 rfl (fun h3 => ?_) (fun h3 => ?_)
    · skip
      refine g_iconst X0 (0 : Int32) d3_14 rfl 15 rfl ?_
      exact k15_15 ((0 : Int32)) ⟨by simp [fIn, own_b0, own_b1, h2, h3], rfl⟩
    · skip
      refine g_iconst X0 (1 : Int32) d3_10 rfl 11 rfl ?_
      refine g_goto X0 d3_11 15 (by decide) (by decide) ?_
      exact k15_15 ((1 : Int32)) ⟨by simp [fIn, own_b0, own_b1, h2, h3], rfl⟩
theorem d2_0 : decode method_3_code 0 = .ok (.iload_n 0, 1) := by decide +kernel
theorem d2_1 : decode method_3_code 1 = .ok (.bipush 65, 2) := by decide +kernel
theorem d2_3 : decode method_3_code 3 = .ok (.if_icmp .lt 157, 3) := by decide +kernel
theorem d2_6 : decode method_3_code 6 = .ok (.iload_n 0, 1) := by decide +kernel
theorem d2_7 : decode method_3_code 7 = .ok (.bipush 91, 2) := by decide +kernel
theorem d2_9 : decode method_3_code 9 = .ok (.bipush 94, 2) := by decide +kernel
theorem d2_11 : decode method_3_code 11 = .ok (.invokestatic 7, 3) := by decide +kernel
theorem d2_14 : decode method_3_code 14 = .ok (.ifCond .ne 146, 3) := by decide +kernel
theorem d2_17 : decode method_3_code 17 = .ok (.iload_n 0, 1) := by decide +kernel
theorem d2_18 : decode method_3_code 18 = .ok (.bipush 96, 2) := by decide +kernel
theorem d2_20 : decode method_3_code 20 = .ok (.if_icmp .eq 140, 3) := by decide +kernel
theorem d2_23 : decode method_3_code 23 = .ok (.iload_n 0, 1) := by decide +kernel
theorem d2_24 : decode method_3_code 24 = .ok (.bipush 123, 2) := by decide +kernel
theorem d2_26 : decode method_3_code 26 = .ok (.sipush 191, 3) := by decide +kernel
theorem d2_29 : decode method_3_code 29 = .ok (.invokestatic 7, 3) := by decide +kernel
theorem d2_32 : decode method_3_code 32 = .ok (.ifCond .ne 128, 3) := by decide +kernel
theorem d2_35 : decode method_3_code 35 = .ok (.iload_n 0, 1) := by decide +kernel
theorem d2_36 : decode method_3_code 36 = .ok (.sipush 215, 3) := by decide +kernel
theorem d2_39 : decode method_3_code 39 = .ok (.if_icmp .eq 121, 3) := by decide +kernel
theorem d2_42 : decode method_3_code 42 = .ok (.iload_n 0, 1) := by decide +kernel
theorem d2_43 : decode method_3_code 43 = .ok (.sipush 247, 3) := by decide +kernel
theorem d2_46 : decode method_3_code 46 = .ok (.if_icmp .eq 114, 3) := by decide +kernel
theorem d2_49 : decode method_3_code 49 = .ok (.iload_n 0, 1) := by decide +kernel
theorem d2_50 : decode method_3_code 50 = .ok (.sipush 768, 3) := by decide +kernel
theorem d2_53 : decode method_3_code 53 = .ok (.sipush 879, 3) := by decide +kernel
theorem d2_56 : decode method_3_code 56 = .ok (.invokestatic 7, 3) := by decide +kernel
theorem d2_59 : decode method_3_code 59 = .ok (.ifCond .ne 101, 3) := by decide +kernel
theorem d2_62 : decode method_3_code 62 = .ok (.iload_n 0, 1) := by decide +kernel
theorem d2_63 : decode method_3_code 63 = .ok (.sipush 894, 3) := by decide +kernel
theorem d2_66 : decode method_3_code 66 = .ok (.if_icmp .eq 94, 3) := by decide +kernel
theorem d2_69 : decode method_3_code 69 = .ok (.iload_n 0, 1) := by decide +kernel
theorem d2_70 : decode method_3_code 70 = .ok (.sipush 8192, 3) := by decide +kernel
theorem d2_73 : decode method_3_code 73 = .ok (.sipush 8203, 3) := by decide +kernel
theorem d2_76 : decode method_3_code 76 = .ok (.invokestatic 7, 3) := by decide +kernel
theorem d2_79 : decode method_3_code 79 = .ok (.ifCond .ne 81, 3) := by decide +kernel
theorem d2_82 : decode method_3_code 82 = .ok (.iload_n 0, 1) := by decide +kernel
theorem d2_83 : decode method_3_code 83 = .ok (.sipush 8206, 3) := by decide +kernel
theorem d2_86 : decode method_3_code 86 = .ok (.sipush 8303, 3) := by decide +kernel
theorem d2_89 : decode method_3_code 89 = .ok (.invokestatic 7, 3) := by decide +kernel
theorem d2_92 : decode method_3_code 92 = .ok (.ifCond .ne 68, 3) := by decide +kernel
theorem d2_95 : decode method_3_code 95 = .ok (.iload_n 0, 1) := by decide +kernel
theorem d2_96 : decode method_3_code 96 = .ok (.sipush 8592, 3) := by decide +kernel
theorem d2_99 : decode method_3_code 99 = .ok (.sipush 11263, 3) := by decide +kernel
theorem d2_102 : decode method_3_code 102 = .ok (.invokestatic 7, 3) := by decide +kernel
theorem d2_105 : decode method_3_code 105 = .ok (.ifCond .ne 55, 3) := by decide +kernel
theorem d2_108 : decode method_3_code 108 = .ok (.iload_n 0, 1) := by decide +kernel
theorem d2_109 : decode method_3_code 109 = .ok (.sipush 12272, 3) := by decide +kernel
theorem d2_112 : decode method_3_code 112 = .ok (.sipush 12288, 3) := by decide +kernel
theorem d2_115 : decode method_3_code 115 = .ok (.invokestatic 7, 3) := by decide +kernel
theorem d2_118 : decode method_3_code 118 = .ok (.ifCond .ne 42, 3) := by decide +kernel
theorem d2_121 : decode method_3_code 121 = .ok (.iload_n 0, 1) := by decide +kernel
theorem d2_122 : decode method_3_code 122 = .ok (.ldc 13, 2) := by decide +kernel
theorem d2_124 : decode method_3_code 124 = .ok (.ldc 14, 2) := by decide +kernel
theorem d2_126 : decode method_3_code 126 = .ok (.invokestatic 7, 3) := by decide +kernel
theorem d2_129 : decode method_3_code 129 = .ok (.ifCond .ne 31, 3) := by decide +kernel
theorem d2_132 : decode method_3_code 132 = .ok (.iload_n 0, 1) := by decide +kernel
theorem d2_133 : decode method_3_code 133 = .ok (.ldc 15, 2) := by decide +kernel
theorem d2_135 : decode method_3_code 135 = .ok (.ldc 16, 2) := by decide +kernel
theorem d2_137 : decode method_3_code 137 = .ok (.invokestatic 7, 3) := by decide +kernel
theorem d2_140 : decode method_3_code 140 = .ok (.ifCond .ne 20, 3) := by decide +kernel
theorem d2_143 : decode method_3_code 143 = .ok (.iload_n 0, 1) := by decide +kernel
theorem d2_144 : decode method_3_code 144 = .ok (.ldc 17, 2) := by decide +kernel
theorem d2_146 : decode method_3_code 146 = .ok (.ldc 18, 2) := by decide +kernel
theorem d2_148 : decode method_3_code 148 = .ok (.invokestatic 7, 3) := by decide +kernel
theorem d2_151 : decode method_3_code 151 = .ok (.ifCond .ne 9, 3) := by decide +kernel
theorem d2_154 : decode method_3_code 154 = .ok (.iload_n 0, 1) := by decide +kernel
theorem d2_155 : decode method_3_code 155 = .ok (.ldc 19, 2) := by decide +kernel
theorem d2_157 : decode method_3_code 157 = .ok (.if_icmp .le 7, 3) := by decide +kernel
theorem d2_160 : decode method_3_code 160 = .ok (.iconst 1, 1) := by decide +kernel
theorem d2_161 : decode method_3_code 161 = .ok (.goto 4, 3) := by decide +kernel
theorem d2_164 : decode method_3_code 164 = .ok (.iconst 0, 1) := by decide +kernel
theorem d2_165 : decode method_3_code 165 = .ok (.ireturn, 1) := by decide +kernel
abbrev Q2 (c : Int32)  (h0 : Heap) : Option Value → Heap → Prop := fun v h => v = some (.int (fExc c)) ∧ h0 = h
set_option maxRecDepth 65536 in
set_option maxHeartbeats 40000000 in
theorem rm2 {l : Launch} {Z : State} {a0 : Array Value} (hw : ∀ d ∈ tables_1, d.before a0 Z = true) (n0 : Nat) (c : Int32)  (h0 : Heap)  :
    Met l Z n0 (⟨"com/example/libaxes/libaxes/tree/XmlNamesIsNameStartPinLaw", "excluded", "(I)Z"⟩ : MethodName) method_3_code 1 (some .boolean) [] ({ frames := 1, cells := 0, slots := 0, locals := 14 } : Room) #[(.int c)] h0 (Q2 c h0) 0 0 := by
  refine Met.of pn1 (Ls := #[.val (.int c)]) (fun m => by first | rfl | (simp [entryFrame, mkF, argsToLocals, Value.category, maxLocals]; done)) (fun k T0 X0 => ?_)
  refine g_iloadN X0 d2_0 rfl 1 rfl ?_
  refine g_bipush X0 (65 : Int32) d2_1 rfl 3 rfl ?_
  refine g_icmp X0 i_lt d2_3 160 (by decide) (by decide) 6 rfl (fun h1 => ?_) (fun h1 => ?_)
  · skip
    refine g_iconst X0 (1 : Int32) d2_160 rfl 161 rfl ?_
    refine g_goto X0 d2_161 165 (by decide) (by decide) ?_
    exact g_retZ X0 d2_165 (by decide) (by decide) ⟨own_E1 (by first | (have q := own_in1 h1; simp [pExc, q]; done) | (simp [pExc, h1]; done)), rfl⟩
  · skip
    refine g_iloadN X0 d2_6 rfl 7 rfl ?_
    refine g_bipush X0 (91 : Int32) d2_7 rfl 9 rfl ?_
    refine g_bipush X0 (94 : Int32) d2_9 rfl 11 rfl ?_
    refine g_callS X0 [(.int c), (.int (91 : Int32)), (.int (94 : Int32))] [] (rm3 hw n0 c (91 : Int32) (94 : Int32) h0) (w12 hw) (w13 hw) (w10 hw) (w14 hw) (by decide) pd0 rfl rfl (by decide) (Nat.le_of_ble_eq_true rfl) (by decide) (by decide) d2_11 rfl 14 rfl (fun v2 T2 h2 X2 q2 => ?_)
    obtain ⟨rfl, rfl⟩ := q2
    show Go k n0 (Q2 c h0) 0 0 T2 14 #[.val (.int c)] [(.int (fIn c (91 : Int32) (94 : Int32)))]
    refine g_ifN X2 z_ne d2_14 160 (by decide) (by decide) 17 rfl (fun h3 => ?_) (fun h3 => ?_)
    · skip
      refine g_iloadN X2 d2_17 rfl 18 rfl ?_
      refine g_bipush X2 (96 : Int32) d2_18 rfl 20 rfl ?_
      refine g_icmp X2 i_eq d2_20 160 (by decide) (by decide) 23 rfl (fun h4 => ?_) (fun h4 => ?_)
      · skip
        refine g_iconst X2 (1 : Int32) d2_160 rfl 161 rfl ?_
        refine g_goto X2 d2_161 165 (by decide) (by decide) ?_
        exact g_retZ X2 d2_165 (by decide) (by decide) ⟨own_E1 (by first | (have q := own_in1 h4; simp [pExc, q]; done) | (simp [pExc, h4]; done)), rfl⟩
      · skip
        refine g_iloadN X2 d2_23 rfl 24 rfl ?_
        refine g_bipush X2 (123 : Int32) d2_24 rfl 26 rfl ?_
        refine g_sipush X2 (191 : Int32) d2_26 rfl 29 rfl ?_
        refine g_callS X2 [(.int c), (.int (123 : Int32)), (.int (191 : Int32))] [] (rm3 hw n0 c (123 : Int32) (191 : Int32) h0) (w12 hw) (w13 hw) (w10 hw) (w14 hw) (by decide) pd0 rfl rfl (by decide) (Nat.le_of_ble_eq_true rfl) (by decide) (by decide) d2_29 rfl 32 rfl (fun v5 T5 h5 X5 q5 => ?_)
        obtain ⟨rfl, rfl⟩ := q5
        show Go k n0 (Q2 c h0) 0 0 T5 32 #[.val (.int c)] [(.int (fIn c (123 : Int32) (191 : Int32)))]
        refine g_ifN X5 z_ne d2_32 160 (by decide) (by decide) 35 rfl (fun h6 => ?_) (fun h6 => ?_)
        · skip
          refine g_iloadN X5 d2_35 rfl 36 rfl ?_
          refine g_sipush X5 (215 : Int32) d2_36 rfl 39 rfl ?_
          refine g_icmp X5 i_eq d2_39 160 (by decide) (by decide) 42 rfl (fun h7 => ?_) (fun h7 => ?_)
          · skip
            refine g_iconst X5 (1 : Int32) d2_160 rfl 161 rfl ?_
            refine g_goto X5 d2_161 165 (by decide) (by decide) ?_
            exact g_retZ X5 d2_165 (by decide) (by decide) ⟨own_E1 (by first | (have q := own_in1 h7; simp [pExc, q]; done) | (simp [pExc, h7]; done)), rfl⟩
          · skip
            refine g_iloadN X5 d2_42 rfl 43 rfl ?_
            refine g_sipush X5 (247 : Int32) d2_43 rfl 46 rfl ?_
            refine g_icmp X5 i_eq d2_46 160 (by decide) (by decide) 49 rfl (fun h8 => ?_) (fun h8 => ?_)
            · skip
              refine g_iconst X5 (1 : Int32) d2_160 rfl 161 rfl ?_
              refine g_goto X5 d2_161 165 (by decide) (by decide) ?_
              exact g_retZ X5 d2_165 (by decide) (by decide) ⟨own_E1 (by first | (have q := own_in1 h8; simp [pExc, q]; done) | (simp [pExc, h8]; done)), rfl⟩
            · skip
              refine g_iloadN X5 d2_49 rfl 50 rfl ?_
              refine g_sipush X5 (768 : Int32) d2_50 rfl 53 rfl ?_
              refine g_sipush X5 (879 : Int32) d2_53 rfl 56 rfl ?_
              refine g_callS X5 [(.int c), (.int (768 : Int32)), (.int (879 : Int32))] [] (rm3 hw n0 c (768 : Int32) (879 : Int32) h0) (w12 hw) (w13 hw) (w10 hw) (w14 hw) (by decide) pd0 rfl rfl (by decide) (Nat.le_of_ble_eq_true rfl) (by decide) (by decide) d2_56 rfl 59 rfl (fun v9 T9 h9 X9 q9 => ?_)
              obtain ⟨rfl, rfl⟩ := q9
              show Go k n0 (Q2 c h0) 0 0 T9 59 #[.val (.int c)] [(.int (fIn c (768 : Int32) (879 : Int32)))]
              refine g_ifN X9 z_ne d2_59 160 (by decide) (by decide) 62 rfl (fun h10 => ?_) (fun h10 => ?_)
              · skip
                refine g_iloadN X9 d2_62 rfl 63 rfl ?_
                refine g_sipush X9 (894 : Int32) d2_63 rfl 66 rfl ?_
                refine g_icmp X9 i_eq d2_66 160 (by decide) (by decide) 69 rfl (fun h11 => ?_) (fun h11 => ?_)
                · skip
                  refine g_iconst X9 (1 : Int32) d2_160 rfl 161 rfl ?_
                  refine g_goto X9 d2_161 165 (by decide) (by decide) ?_
                  exact g_retZ X9 d2_165 (by decide) (by decide) ⟨own_E1 (by first | (have q := own_in1 h11; simp [pExc, q]; done) | (simp [pExc, h11]; done)), rfl⟩
                · skip
                  refine g_iloadN X9 d2_69 rfl 70 rfl ?_
                  refine g_sipush X9 (8192 : Int32) d2_70 rfl 73 rfl ?_
                  refine g_sipush X9 (8203 : Int32) d2_73 rfl 76 rfl ?_
                  refine g_callS X9 [(.int c), (.int (8192 : Int32)), (.int (8203 : Int32))] [] (rm3 hw n0 c (8192 : Int32) (8203 : Int32) h0) (w12 hw) (w13 hw) (w10 hw) (w14 hw) (by decide) pd0 rfl rfl (by decide) (Nat.le_of_ble_eq_true rfl) (by decide) (by decide) d2_76 rfl 79 rfl (fun v12 T12 h12 X12 q12 => ?_)
                  obtain ⟨rfl, rfl⟩ := q12
                  show Go k n0 (Q2 c h0) 0 0 T12 79 #[.val (.int c)] [(.int (fIn c (8192 : Int32) (8203 : Int32)))]
                  refine g_ifN X12 z_ne d2_79 160 (by decide) (by decide) 82 rfl (fun h13 => ?_) (fun h13 => ?_)
                  · skip
                    refine g_iloadN X12 d2_82 rfl 83 rfl ?_
                    refine g_sipush X12 (8206 : Int32) d2_83 rfl 86 rfl ?_
                    refine g_sipush X12 (8303 : Int32) d2_86 rfl 89 rfl ?_
                    refine g_callS X12 [(.int c), (.int (8206 : Int32)), (.int (8303 : Int32))] [] (rm3 hw n0 c (8206 : Int32) (8303 : Int32) h0) (w12 hw) (w13 hw) (w10 hw) (w14 hw) (by decide) pd0 rfl rfl (by decide) (Nat.le_of_ble_eq_true rfl) (by decide) (by decide) d2_89 rfl 92 rfl (fun v14 T14 h14 X14 q14 => ?_)
                    obtain ⟨rfl, rfl⟩ := q14
                    show Go k n0 (Q2 c h0) 0 0 T14 92 #[.val (.int c)] [(.int (fIn c (8206 : Int32) (8303 : Int32)))]
                    refine g_ifN X14 z_ne d2_92 160 (by decide) (by decide) 95 rfl (fun h15 => ?_) (fun h15 => ?_)
                    · skip
                      refine g_iloadN X14 d2_95 rfl 96 rfl ?_
                      refine g_sipush X14 (8592 : Int32) d2_96 rfl 99 rfl ?_
                      refine g_sipush X14 (11263 : Int32) d2_99 rfl 102 rfl ?_
                      refine g_callS X14 [(.int c), (.int (8592 : Int32)), (.int (11263 : Int32))] [] (rm3 hw n0 c (8592 : Int32) (11263 : Int32) h0) (w12 hw) (w13 hw) (w10 hw) (w14 hw) (by decide) pd0 rfl rfl (by decide) (Nat.le_of_ble_eq_true rfl) (by decide) (by decide) d2_102 rfl 105 rfl (fun v16 T16 h16 X16 q16 => ?_)
                      obtain ⟨rfl, rfl⟩ := q16
                      show Go k n0 (Q2 c h0) 0 0 T16 105 #[.val (.int c)] [(.int (fIn c (8592 : Int32) (11263 : Int32)))]
                      refine g_ifN X16 z_ne d2_105 160 (by decide) (by decide) 108 rfl (fun h17 => ?_) (fun h17 => ?_)
                      · skip
                        refine g_iloadN X16 d2_108 rfl 109 rfl ?_
                        refine g_sipush X16 (12272 : Int32) d2_109 rfl 112 rfl ?_
                        refine g_sipush X16 (12288 : Int32) d2_112 rfl 115 rfl ?_
                        refine g_callS X16 [(.int c), (.int (12272 : Int32)), (.int (12288 : Int32))] [] (rm3 hw n0 c (12272 : Int32) (12288 : Int32) h0) (w12 hw) (w13 hw) (w10 hw) (w14 hw) (by decide) pd0 rfl rfl (by decide) (Nat.le_of_ble_eq_true rfl) (by decide) (by decide) d2_115 rfl 118 rfl (fun v18 T18 h18 X18 q18 => ?_)
                        obtain ⟨rfl, rfl⟩ := q18
                        show Go k n0 (Q2 c h0) 0 0 T18 118 #[.val (.int c)] [(.int (fIn c (12272 : Int32) (12288 : Int32)))]
                        refine g_ifN X18 z_ne d2_118 160 (by decide) (by decide) 121 rfl (fun h19 => ?_) (fun h19 => ?_)
                        · skip
                          refine g_iloadN X18 d2_121 rfl 122 rfl ?_
                          refine g_ldcI X18 (w15 hw) d2_122 124 rfl ?_
                          refine g_ldcI X18 (w16 hw) d2_124 126 rfl ?_
                          refine g_callS X18 [(.int c), (.int (55296 : Int32)), (.int (63743 : Int32))] [] (rm3 hw n0 c (55296 : Int32) (63743 : Int32) h0) (w12 hw) (w13 hw) (w10 hw) (w14 hw) (by decide) pd0 rfl rfl (by decide) (Nat.le_of_ble_eq_true rfl) (by decide) (by decide) d2_126 rfl 129 rfl (fun v20 T20 h20 X20 q20 => ?_)
                          obtain ⟨rfl, rfl⟩ := q20
                          show Go k n0 (Q2 c h0) 0 0 T20 129 #[.val (.int c)] [(.int (fIn c (55296 : Int32) (63743 : Int32)))]
                          refine g_ifN X20 z_ne d2_129 160 (by decide) (by decide) 132 rfl (fun h21 => ?_) (fun h21 => ?_)
                          · skip
                            refine g_iloadN X20 d2_132 rfl 133 rfl ?_
                            refine g_ldcI X20 (w17 hw) d2_133 135 rfl ?_
                            refine g_ldcI X20 (w18 hw) d2_135 137 rfl ?_
                            refine g_callS X20 [(.int c), (.int (64976 : Int32)), (.int (65007 : Int32))] [] (rm3 hw n0 c (64976 : Int32) (65007 : Int32) h0) (w12 hw) (w13 hw) (w10 hw) (w14 hw) (by decide) pd0 rfl rfl (by decide) (Nat.le_of_ble_eq_true rfl) (by decide) (by decide) d2_137 rfl 140 rfl (fun v22 T22 h22 X22 q22 => ?_)
                            obtain ⟨rfl, rfl⟩ := q22
                            show Go k n0 (Q2 c h0) 0 0 T22 140 #[.val (.int c)] [(.int (fIn c (64976 : Int32) (65007 : Int32)))]
                            refine g_ifN X22 z_ne d2_140 160 (by decide) (by decide) 143 rfl (fun h23 => ?_) (fun h23 => ?_)
                            · skip
                              refine g_iloadN X22 d2_143 rfl 144 rfl ?_
                              refine g_ldcI X22 (w19 hw) d2_144 146 rfl ?_
                              refine g_ldcI X22 (w20 hw) d2_146 148 rfl ?_
                              refine g_callS X22 [(.int c), (.int (65534 : Int32)), (.int (65535 : Int32))] [] (rm3 hw n0 c (65534 : Int32) (65535 : Int32) h0) (w12 hw) (w13 hw) (w10 hw) (w14 hw) (by decide) pd0 rfl rfl (by decide) (Nat.le_of_ble_eq_true rfl) (by decide) (by decide) d2_148 rfl 151 rfl (fun v24 T24 h24 X24 q24 => ?_)
                              obtain ⟨rfl, rfl⟩ := q24
                              show Go k n0 (Q2 c h0) 0 0 T24 151 #[.val (.int c)] [(.int (fIn c (65534 : Int32) (65535 : Int32)))]
                              refine g_ifN X24 z_ne d2_151 160 (by decide) (by decide) 154 rfl (fun h25 => ?_) (fun h25 => ?_)
                              · skip
                                refine g_iloadN X24 d2_154 rfl 155 rfl ?_
                                refine g_ldcI X24 (w21 hw) d2_155 157 rfl ?_
                                refine g_icmpN X24 i_le d2_157 164 (by decide) (by decide) 160 rfl (fun h26 => ?_) (fun h26 => ?_)
                                · skip
                                  refine g_iconst X24 (1 : Int32) d2_160 rfl 161 rfl ?_
                                  refine g_goto X24 d2_161 165 (by decide) (by decide) ?_
                                  exact g_retZ X24 d2_165 (by decide) (by decide) ⟨own_E1 (by first | (have q := own_in1 h26; simp [pExc, q]; done) | (simp [pExc, h26]; done)), rfl⟩
                                · skip
                                  refine g_iconst X24 (0 : Int32) d2_164 rfl 165 rfl ?_
                                  exact g_retZ X24 d2_165 (by decide) (by decide) ⟨own_E0 (by intro hp; simp only [own_in0] at h1 h3 h4 h6 h7 h8 h10 h11 h13 h15 h17 h19 h21 h23 h25 h26; simp only [pExc, Int32.lt_iff_toInt_lt, ← Int32.toInt_inj, own_n65, own_n90, own_n91, own_n94, own_n95, own_n96, own_n97, own_n122, own_n123, own_n191, own_n192, own_n214, own_n215, own_n216, own_n246, own_n247, own_n248, own_n767, own_n768, own_n879, own_n880, own_n893, own_n894, own_n895, own_n8191, own_n8192, own_n8203, own_n8204, own_n8205, own_n8206, own_n8303, own_n8304, own_n8591, own_n8592, own_n11263, own_n11264, own_n12271, own_n12272, own_n12288, own_n12289, own_n55295, own_n55296, own_n63743, own_n63744, own_n64975, own_n64976, own_n65007, own_n65008, own_n65533, own_n65534, own_n65535, own_n65536, own_n983039] at hp h1 h3 h4 h6 h7 h8 h10 h11 h13 h15 h17 h19 h21 h23 h25 h26; omega), rfl⟩
                              · skip
                                refine g_iconst X24 (1 : Int32) d2_160 rfl 161 rfl ?_
                                refine g_goto X24 d2_161 165 (by decide) (by decide) ?_
                                exact g_retZ X24 d2_165 (by decide) (by decide) ⟨own_E1 (by first | (have q := own_in1 h25; simp [pExc, q]; done) | (simp [pExc, h25]; done)), rfl⟩
                            · skip
                              refine g_iconst X22 (1 : Int32) d2_160 rfl 161 rfl ?_
                              refine g_goto X22 d2_161 165 (by decide) (by decide) ?_
                              exact g_retZ X22 d2_165 (by decide) (by decide) ⟨own_E1 (by first | (have q := own_in1 h23; simp [pExc, q]; done) | (simp [pExc, h23]; done)), rfl⟩
                          · skip
                            refine g_iconst X20 (1 : Int32) d2_160 rfl 161 rfl ?_
                            refine g_goto X20 d2_161 165 (by decide) (by decide) ?_
                            exact g_retZ X20 d2_165 (by decide) (by decide) ⟨own_E1 (by first | (have q := own_in1 h21; simp [pExc, q]; done) | (simp [pExc, h21]; done)), rfl⟩
                        · skip
                          refine g_iconst X18 (1 : Int32) d2_160 rfl 161 rfl ?_
                          refine g_goto X18 d2_161 165 (by decide) (by decide) ?_
                          exact g_retZ X18 d2_165 (by decide) (by decide) ⟨own_E1 (by first | (have q := own_in1 h19; simp [pExc, q]; done) | (simp [pExc, h19]; done)), rfl⟩
                      · skip
                        refine g_iconst X16 (1 : Int32) d2_160 rfl 161 rfl ?_
                        refine g_goto X16 d2_161 165 (by decide) (by decide) ?_
                        exact g_retZ X16 d2_165 (by decide) (by decide) ⟨own_E1 (by first | (have q := own_in1 h17; simp [pExc, q]; done) | (simp [pExc, h17]; done)), rfl⟩
                    · skip
                      refine g_iconst X14 (1 : Int32) d2_160 rfl 161 rfl ?_
                      refine g_goto X14 d2_161 165 (by decide) (by decide) ?_
                      exact g_retZ X14 d2_165 (by decide) (by decide) ⟨own_E1 (by first | (have q := own_in1 h15; simp [pExc, q]; done) | (simp [pExc, h15]; done)), rfl⟩
                  · skip
                    refine g_iconst X12 (1 : Int32) d2_160 rfl 161 rfl ?_
                    refine g_goto X12 d2_161 165 (by decide) (by decide) ?_
                    exact g_retZ X12 d2_165 (by decide) (by decide) ⟨own_E1 (by first | (have q := own_in1 h13; simp [pExc, q]; done) | (simp [pExc, h13]; done)), rfl⟩
              · skip
                refine g_iconst X9 (1 : Int32) d2_160 rfl 161 rfl ?_
                refine g_goto X9 d2_161 165 (by decide) (by decide) ?_
                exact g_retZ X9 d2_165 (by decide) (by decide) ⟨own_E1 (by first | (have q := own_in1 h10; simp [pExc, q]; done) | (simp [pExc, h10]; done)), rfl⟩
        · skip
          refine g_iconst X5 (1 : Int32) d2_160 rfl 161 rfl ?_
          refine g_goto X5 d2_161 165 (by decide) (by decide) ?_
          exact g_retZ X5 d2_165 (by decide) (by decide) ⟨own_E1 (by first | (have q := own_in1 h6; simp [pExc, q]; done) | (simp [pExc, h6]; done)), rfl⟩
    · skip
      refine g_iconst X2 (1 : Int32) d2_160 rfl 161 rfl ?_
      refine g_goto X2 d2_161 165 (by decide) (by decide) ?_
      exact g_retZ X2 d2_165 (by decide) (by decide) ⟨own_E1 (by first | (have q := own_in1 h3; simp [pExc, q]; done) | (simp [pExc, h3]; done)), rfl⟩
abbrev Q0 (x0 : Int32)  (h0 : Heap) : Option Value → Heap → Prop := fun v h => v = some (.int 1)
set_option maxRecDepth 65536 in
set_option maxHeartbeats 40000000 in
theorem rm0 {l : Launch} {Z : State} {a0 : Array Value} (hw : ∀ d ∈ tables_1, d.before a0 Z = true) (n0 : Nat) (x0 : Int32)  (h0 : Heap)  :
    Met l Z n0 x code maxLocals ret tables_1 room_1 #[(.int x0)] h0 (Q0 x0 h0) 0 0 := by
  refine Met.of pn1 (Ls := #[.val (.int x0), .unset, .unset, .unset]) (fun m => by first | rfl | (simp [entryFrame, mkF, argsToLocals, Value.category, maxLocals]; done)) (fun k T0 X0 => ?_)
  refine g_iloadN X0 at_0 rfl 1 rfl ?_
  refine g_ldcI X0 (w0 hw) at_1 3 rfl ?_
  refine g_iand X0 at_3 4 rfl ?_
  refine g_istoreN X0 at_4 #[.val (.int x0), .val (.int (x0 &&& (1048575 : Int32))), .unset, .unset] rfl 5 rfl ?_
  refine g_iloadN X0 at_5 rfl 6 rfl ?_
  refine g_callS X0 [(.int x0)] [] (rm1 hw n0 x0 h0) (w1 hw) (w2 hw) (w3 hw) (w4 hw) (by decide) pd1 rfl rfl (by decide) (Nat.le_of_ble_eq_true rfl) (by decide) (by decide) at_6 rfl 9 rfl (fun v1 T1 h1 X1 q1 => ?_)
  obtain ⟨rfl, rfl⟩ := q1
  show Go k n0 (Q0 x0 h0) 0 0 T1 9 #[.val (.int x0), .val (.int (x0 &&& (1048575 : Int32))), .unset, .unset] [(.int (fName x0))]
  refine g_iloadN X1 at_9 rfl 10 rfl ?_
  refine g_callS X1 [(.int x0)] [(.int (fName x0))] (rm2 hw n0 x0 h0) (w8 hw) (w9 hw) (w10 hw) (w11 hw) (by decide) pd1 rfl rfl (by decide) (Nat.le_of_ble_eq_true rfl) (by decide) (by decide) at_10 rfl 13 rfl (fun v2 T2 h2 X2 q2 => ?_)
  obtain ⟨rfl, rfl⟩ := q2
  show Go k n0 (Q0 x0 h0) 0 0 T2 13 #[.val (.int x0), .val (.int (x0 &&& (1048575 : Int32))), .unset, .unset] [(.int (fExc x0)), (.int (fName x0))]
  have k21_16 : ∀ (v3 : Int32), v3 = (if (fExc x0) = 0 then (1 : Int32) else (0 : Int32)) → Go k n0 (Q0 x0 h0) 0 0 T2 21 #[.val (.int x0), .val (.int (x0 &&& (1048575 : Int32))), .unset, .unset] [(.int v3), (.int (fName x0))] := by
    intro v3 hv3
    have k29_17 : ∀ (v4 : Int32), v4 = (if (fName x0) = v3 then (1 : Int32) else (0 : Int32)) → Go k n0 (Q0 x0 h0) 0 0 T2 29 #[.val (.int x0), .val (.int (x0 &&& (1048575 : Int32))), .unset, .unset] [(.int v4)] := by
      intro v4 hv4
      refine g_istoreN X2 at_29 #[.val (.int x0), .val (.int (x0 &&& (1048575 : Int32))), .val (.int v4), .unset] rfl 30 rfl ?_
      refine g_iloadN X2 at_30 rfl 31 rfl ?_
      refine g_callS X2 [(.int (x0 &&& (1048575 : Int32)))] [] (rm1 hw n0 (x0 &&& (1048575 : Int32)) h0) (w1 hw) (w2 hw) (w3 hw) (w4 hw) (by decide) pd1 rfl rfl (by decide) (Nat.le_of_ble_eq_true rfl) (by decide) (by decide) at_31 rfl 34 rfl (fun v5 T5 h5 X5 q5 => ?_)
      obtain ⟨rfl, rfl⟩ := q5
      show Go k n0 (Q0 x0 h0) 0 0 T5 34 #[.val (.int x0), .val (.int (x0 &&& (1048575 : Int32))), .val (.int v4), .unset] [(.int (fName (x0 &&& (1048575 : Int32))))]
      refine g_iloadN X5 at_34 rfl 35 rfl ?_
      refine g_callS X5 [(.int (x0 &&& (1048575 : Int32)))] [(.int (fName (x0 &&& (1048575 : Int32))))] (rm2 hw n0 (x0 &&& (1048575 : Int32)) h0) (w8 hw) (w9 hw) (w10 hw) (w11 hw) (by decide) pd1 rfl rfl (by decide) (Nat.le_of_ble_eq_true rfl) (by decide) (by decide) at_35 rfl 38 rfl (fun v6 T6 h6 X6 q6 => ?_)
      obtain ⟨rfl, rfl⟩ := q6
      show Go k n0 (Q0 x0 h0) 0 0 T6 38 #[.val (.int x0), .val (.int (x0 &&& (1048575 : Int32))), .val (.int v4), .unset] [(.int (fExc (x0 &&& (1048575 : Int32)))), (.int (fName (x0 &&& (1048575 : Int32))))]
      have k46_18 : ∀ (v7 : Int32), v7 = (if (fExc (x0 &&& (1048575 : Int32))) = 0 then (1 : Int32) else (0 : Int32)) → Go k n0 (Q0 x0 h0) 0 0 T6 46 #[.val (.int x0), .val (.int (x0 &&& (1048575 : Int32))), .val (.int v4), .unset] [(.int v7), (.int (fName (x0 &&& (1048575 : Int32))))] := by
        intro v7 hv7
        have k54_19 : ∀ (v8 : Int32), v8 = (if (fName (x0 &&& (1048575 : Int32))) = v7 then (1 : Int32) else (0 : Int32)) → Go k n0 (Q0 x0 h0) 0 0 T6 54 #[.val (.int x0), .val (.int (x0 &&& (1048575 : Int32))), .val (.int v4), .unset] [(.int v8)] := by
          intro v8 hv8
          refine g_istoreN X6 at_54 #[.val (.int x0), .val (.int (x0 &&& (1048575 : Int32))), .val (.int v4), .val (.int v8)] rfl 55 rfl ?_
          refine g_iloadN X6 at_55 rfl 56 rfl ?_
          have k68_20 : ∀ (v9 : Int32), (Q0 x0 h0) (some (.int (v9 &&& 1))) h0 → Go k n0 (Q0 x0 h0) 0 0 T6 68 #[.val (.int x0), .val (.int (x0 &&& (1048575 : Int32))), .val (.int v4), .val (.int v8)] [(.int v9)] := by
            intro v9 hQ
            exact g_retZ X6 at_68 (by decide) (by decide) hQ
          refine g_if X6 z_eq at_56 67 (by decide) (by decide) 59 rfl (fun h10 => ?_) (fun h10 => ?_)
          · skip
            refine g_iconst X6 (0 : Int32) at_67 rfl 68 rfl ?_
            exact k68_20 ((0 : Int32)) (absurd h10 (by rw [hv4, if_pos (by rw [hv3]; exact own_law _)]; decide))
          · skip
            refine g_iloadN X6 at_59 rfl 60 rfl ?_
            refine g_if X6 z_eq at_60 67 (by decide) (by decide) 63 rfl (fun h11 => ?_) (fun h11 => ?_)
            · skip
              refine g_iconst X6 (0 : Int32) at_67 rfl 68 rfl ?_
              exact k68_20 ((0 : Int32)) (absurd h11 (by rw [hv8, if_pos (by rw [hv7]; exact own_law _)]; decide))
            · skip
              refine g_iconst X6 (1 : Int32) at_63 rfl 64 rfl ?_
              refine g_goto X6 at_64 68 (by decide) (by decide) ?_
              exact k68_20 ((1 : Int32)) own_one
        refine g_icmpN X6 i_ne at_46 53 (by decide) (by decide) 49 rfl (fun h12 => ?_) (fun h12 => ?_)
        · skip
          refine g_iconst X6 (1 : Int32) at_49 rfl 50 rfl ?_
          refine g_goto X6 at_50 54 (by decide) (by decide) ?_
          exact k54_19 ((1 : Int32)) (by first | (simp only [h12, if_true, if_false, true_or, or_true, true_and, and_true, not_true_eq_false, not_false_eq_true, false_or, or_false, false_and, and_false]; done) | (simp only [h12, hv3, hv4, hv7, if_true, if_false, true_or, or_true, true_and, and_true, not_true_eq_false, not_false_eq_true, false_or, or_false, false_and, and_false]; done))
        · skip
          refine g_iconst X6 (0 : Int32) at_53 rfl 54 rfl ?_
          exact k54_19 ((0 : Int32)) (by first | (simp only [h12, if_true, if_false, true_or, or_true, true_and, and_true, not_true_eq_false, not_false_eq_true, false_or, or_false, false_and, and_false]; done) | (simp only [h12, hv3, hv4, hv7, if_true, if_false, true_or, or_true, true_and, and_true, not_true_eq_false, not_false_eq_true, false_or, or_false, false_and, and_false]; done))
      refine g_ifN X6 z_ne at_38 45 (by decide) (by decide) 41 rfl (fun h13 => ?_) (fun h13 => ?_)
      · skip
        refine g_iconst X6 (1 : Int32) at_41 rfl 42 rfl ?_
        refine g_goto X6 at_42 46 (by decide) (by decide) ?_
        exact k46_18 ((1 : Int32)) (by first | (simp only [h13, if_true, if_false, true_or, or_true, true_and, and_true, not_true_eq_false, not_false_eq_true, false_or, or_false, false_and, and_false]; done) | (simp only [h13, hv3, hv4, if_true, if_false, true_or, or_true, true_and, and_true, not_true_eq_false, not_false_eq_true, false_or, or_false, false_and, and_false]; done))
      · skip
        refine g_iconst X6 (0 : Int32) at_45 rfl 46 rfl ?_
        exact k46_18 ((0 : Int32)) (by first | (simp only [h13, if_true, if_false, true_or, or_true, true_and, and_true, not_true_eq_false, not_false_eq_true, false_or, or_false, false_and, and_false]; done) | (simp only [h13, hv3, hv4, if_true, if_false, true_or, or_true, true_and, and_true, not_true_eq_false, not_false_eq_true, false_or, or_false, false_and, and_false]; done))
    refine g_icmpN X2 i_ne at_21 28 (by decide) (by decide) 24 rfl (fun h14 => ?_) (fun h14 => ?_)
    · skip
      refine g_iconst X2 (1 : Int32) at_24 rfl 25 rfl ?_
      refine g_goto X2 at_25 29 (by decide) (by decide) ?_
      exact k29_17 ((1 : Int32)) (by first | (simp only [h14, if_true, if_false, true_or, or_true, true_and, and_true, not_true_eq_false, not_false_eq_true, false_or, or_false, false_and, and_false]; done) | (simp only [h14, hv3, if_true, if_false, true_or, or_true, true_and, and_true, not_true_eq_false, not_false_eq_true, false_or, or_false, false_and, and_false]; done))
    · skip
      refine g_iconst X2 (0 : Int32) at_28 rfl 29 rfl ?_
      exact k29_17 ((0 : Int32)) (by first | (simp only [h14, if_true, if_false, true_or, or_true, true_and, and_true, not_true_eq_false, not_false_eq_true, false_or, or_false, false_and, and_false]; done) | (simp only [h14, hv3, if_true, if_false, true_or, or_true, true_and, and_true, not_true_eq_false, not_false_eq_true, false_or, or_false, false_and, and_false]; done))
  refine g_ifN X2 z_ne at_13 20 (by decide) (by decide) 16 rfl (fun h15 => ?_) (fun h15 => ?_)
  · skip
    refine g_iconst X2 (1 : Int32) at_16 rfl 17 rfl ?_
    refine g_goto X2 at_17 21 (by decide) (by decide) ?_
    exact k21_16 ((1 : Int32)) (by first | (simp only [h15, if_true, if_false, true_or, or_true, true_and, and_true, not_true_eq_false, not_false_eq_true, false_or, or_false, false_and, and_false]; done) | (simp only [h15, if_true, if_false, true_or, or_true, true_and, and_true, not_true_eq_false, not_false_eq_true, false_or, or_false, false_and, and_false]; done))
  · skip
    refine g_iconst X2 (0 : Int32) at_20 rfl 21 rfl ?_
    exact k21_16 ((0 : Int32)) (by first | (simp only [h15, if_true, if_false, true_or, or_true, true_and, and_true, not_true_eq_false, not_false_eq_true, false_or, or_false, false_and, and_false]; done) | (simp only [h15, if_true, if_false, true_or, or_true, true_and, and_true, not_true_eq_false, not_false_eq_true, false_or, or_false, false_and, and_false]; done))
set_option maxRecDepth 65536 in
set_option maxHeartbeats 40000000 in
theorem comes_1 {Post : Tables → Env → Array Value → State → Outcome → State → Prop} (hpost : ∀ tb e args s v u, (limb_1_1.after args s (.returned v) u = true ∧ limb_1_2.after args s (.returned v) u = true ∧ True) → FrameEnd s (.returned v) u (Jvm.fieldLocs frame_1_writes args s ++ Jvm.arrayLocs frame_1_arrays args s ++ Jvm.staticLocs frame_1_statics s) 0 0 → Post tb e args s (.returned v) u) :
    ArmFor flags0 classFile x code maxLocals ret World_1 tables_1 room_1 Calls_1 rest_1 Pre_1 Post := by
  intro l hfl _ _ p e ha hc hk s m args below hf hA hF happ hP
  obtain ⟨hcalls, hrest, hpre⟩ := hP
  obtain ⟨-, -, -, hnamed, -, -, -, hat⟩ := (Spec.applies_iff hf).mp happ
  obtain ⟨hg, hn⟩ := and_e (Cond.before_iff.mp (show (Jvm.Cond.and given_1 narrow_1).before args s = true from hpre))
  obtain ⟨hcount, g0⟩ := and_e hg
  have q0 := g0
  obtain ⟨w0, rfl⟩ : ∃ w0 : Value, args = #[w0] := by
    have hs : args.size = 1 := by simpa [Cond.value, given_1] using hcount
    obtain ⟨L⟩ := args
    match L, hs with
    | [w0], _ => exact ⟨w0, rfl⟩
  have hw := fun d (hd : d ∈ tables_1) => atoms_spec (ws := Jvm.Cond.code x code maxLocals ret :: tables_1) hat d (List.mem_cons_of_mem _ hd)
  have hfit : Fit s := fun {y c} hc i hi => by
    obtain ⟨ha, rfl⟩ := Array.getElem?_eq_some_iff.mp hc
    have q := List.all_eq_true.mp ((Array.all_eq_true_iff_forall_mem.mp hF) _ (Array.getElem_mem ha)) i (List.mem_range.mpr hi)
    simpa [Array.getElem?_eq_getElem hi] using q
  obtain ⟨i0, e0⟩ := is_v q0
  obtain rfl : w0 = (.int i0) := Option.some.inj e0
  obtain ⟨n, o, h1, h2, h3, v, L, rfl, ⟨N, hQ⟩, hq⟩ := rm0 (l := l) hw s.heap.size i0 s.heap  p e ha hc hk s m _ below hf ((Spec.applies_iff_loose hf).mp happ).1 ⟨rfl, State.Warmed39.refl s, rfl⟩ trivial
  obtain rfl : v = some (.int 1) := hQ
  refine ⟨n, _, h1, h2, h3, hpost _ _ _ _ _ _ ⟨Cond.after_iff.mpr rfl, Cond.after_iff.mpr (eq_i res_at (Term.int_eval (1)) rfl), trivial⟩ ⟨hq.1, hq.2.1, (hq.2.2.sift fun y hy => Or.inr (N y hy)).mono (by decide) (by decide)⟩⟩
theorem main_1_1 : Claimed_1_1 := comes_1 fun _ _ _ _ _ _ h hF => ⟨h.1, hF⟩
theorem main_1_2 : Claimed_1_2 := comes_1 fun _ _ _ _ _ _ h hF => ⟨h.2.1, hF⟩
end Jvm.Pilot.@@N@@
namespace Jvm.Pilot.@@N@@
open Jvm Jvm.ClassFile Sem Op Lib Jvm.Free Jvm.Stand Jvm.Pilot.@@N@@.Jvm.D
/-! MADE BY PROGRAM (witnessworld.py) out of the Statement's table words and the real class files: 9 classes; the members and pool entries that the words name. The judged class is class 1, her method 3. -/
namespace start1
open Jvm.ClassFile
def u (s : String) : CpInfo := .utf8 (stringToUtf16 s)
/-- a pool by its gaps: so many unusable entries, then the entry; so many at the end -/
def gap : Nat → List CpInfo → List CpInfo
  | 0, r => r
  | n + 1, r => .unusable :: gap n r
def poolList (es : List (Nat × CpInfo)) (last : Nat) : List CpInfo := es.foldr (fun e r => gap e.1 (e.2 :: r)) (gap last [])
def pool (es : List (Nat × CpInfo)) (last : Nat) : Array CpInfo := ⟨poolList es last⟩
def fileOf (pool : Array CpInfo) (this : Nat) (attrs : Array Attribute := #[]) (ms : Array MethodInfo := #[]) (fl : Nat := 33) (sup : Nat := 0) (ifs : Array Nat := #[]) (fds : Array FieldInfo := #[]) : ClassFile where
  minorVersion := 0
  majorVersion := 65
  constantPool := pool
  accessFlags := fl
  thisClass := this
  superClass := sup
  interfaces := ifs
  fields := fds
  methods := ms
  attributes := attrs
def plain (name : String) (sup : Option ClassId) : Class where
  name := name
  kind := .ordinary
  loader := none
  accessFlags := 33
  super := sup
  interfaces := #[]
  cf := none
  fields := #[]
  methods := #[]
  instanceTypes := #[]
  staticTypes := #[]
  resolved := #[]
  callSites := []
  init := .initialized
  statics := none
  mirror := none

def pool0 : Array CpInfo := pool [(5, u "<init>"), (0, u "()V"), (1, .class_ 10), (1, u "java/lang/Object")] 113

def k0m0 : Method := { name := "<init>", desc := "()V", sig := { parameters := [], returnType := none }, accessFlags := 1, code := none }
/-- java/lang/Object -/
def k0 : Class := { plain "java/lang/Object" none with
  accessFlags := 33
  interfaces := #[]
  cf := some (fileOf pool0 8 #[] #[{ accessFlags := 1, nameIndex := 5, descriptorIndex := 6, attributes := #[] }] 33 0 #[] #[])
  fields := #[]
  methods := #[k0m0]
  instanceTypes := #[]
  staticTypes := #[]
  resolved := Array.replicate 124 none
  statics := none }

def pool1 : Array CpInfo := pool [(2, .class_ 4), (1, u "java/lang/Object"), (0, u "<init>"), (0, u "()V"), (0, .methodref 8 9), (0, .class_ 10), (0, .nameAndType 11 12), (0, u "com/example/libaxes/libaxes/tree/XmlNamesIsNameStartPinLaw"), (0, u "in"), (0, u "(III)Z"), (0, .integer 55296), (0, .integer 63743), (0, .integer 64976), (0, .integer 65007), (0, .integer 65534), (0, .integer 65535), (0, .integer 983039), (0, .integer 1048575), (0, .methodref 22 23), (0, .class_ 24), (0, .nameAndType 25 26), (0, u "com/example/libaxes/libaxes/tree/XmlNames"), (0, u "isNameStart"), (0, u "(I)Z"), (0, .methodref 8 28), (0, .nameAndType 29 26), (0, u "excluded"), (3, u "law")] 2

def k1m0 : Method := { name := "<init>", desc := "()V", sig := { parameters := [], returnType := none }, accessFlags := 2, code := none }
def k1c1 : Code := { maxStack := 2, maxLocals := 3, code := method_2_code, exceptionTable := #[], attributes := #[] }
def k1m1 : Method := { name := "in", desc := "(III)Z", sig := { parameters := [.int, .int, .int], returnType := some .boolean }, accessFlags := 10, code := some k1c1 }
def k1c2 : Code := { maxStack := 3, maxLocals := 1, code := method_3_code, exceptionTable := #[], attributes := #[] }
def k1m2 : Method := { name := "excluded", desc := "(I)Z", sig := { parameters := [.int], returnType := some .boolean }, accessFlags := 10, code := some k1c2 }
def k1c3 : Code := { maxStack := 2, maxLocals := 4, code := code, exceptionTable := #[], attributes := #[] }
def k1m3 : Method := { name := "law", desc := "(I)Z", sig := { parameters := [.int], returnType := some .boolean }, accessFlags := 9, code := some k1c3 }
/-- com/example/libaxes/libaxes/tree/XmlNamesIsNameStartPinLaw -/
def k1 : Class := { plain "com/example/libaxes/libaxes/tree/XmlNamesIsNameStartPinLaw" (some 0) with
  accessFlags := 49
  interfaces := #[]
  cf := some (fileOf pool1 8 #[] #[{ accessFlags := 2, nameIndex := 5, descriptorIndex := 6, attributes := #[] }, { accessFlags := 10, nameIndex := 11, descriptorIndex := 12, attributes := #[] }, { accessFlags := 10, nameIndex := 29, descriptorIndex := 26, attributes := #[] }, { accessFlags := 9, nameIndex := 33, descriptorIndex := 26, attributes := #[] }] 49 2 #[] #[])
  fields := #[]
  methods := #[k1m0, k1m1, k1m2, k1m3]
  instanceTypes := #[]
  staticTypes := #[]
  resolved := Array.replicate 36 none
  statics := none }

def pool2 : Array CpInfo := pool [(2, .class_ 4), (1, u "java/lang/Object"), (0, u "<init>"), (0, u "()V"), (11, .class_ 20), (1, u "com/example/libaxes/libaxes/tree/XmlNames"), (0, u "isNameStart"), (0, u "(I)Z"), (16, .integer 55295), (0, .integer 63744), (0, .integer 64975), (0, .integer 65008), (0, .integer 65533), (0, .integer 65536), (0, .integer 983039)] 7

def k2m0 : Method := { name := "<init>", desc := "()V", sig := { parameters := [], returnType := none }, accessFlags := 2, code := none }
def k2c1 : Code := { maxStack := 2, maxLocals := 1, code := prog_43_method_4_code, exceptionTable := #[], attributes := #[] }
def k2m1 : Method := { name := "isNameStart", desc := "(I)Z", sig := { parameters := [.int], returnType := some .boolean }, accessFlags := 9, code := some k2c1 }
/-- com/example/libaxes/libaxes/tree/XmlNames -/
def k2 : Class := { plain "com/example/libaxes/libaxes/tree/XmlNames" (some 0) with
  accessFlags := 49
  interfaces := #[]
  cf := some (fileOf pool2 18 #[] #[{ accessFlags := 2, nameIndex := 5, descriptorIndex := 6, attributes := #[] }, { accessFlags := 9, nameIndex := 21, descriptorIndex := 22, attributes := #[] }] 49 2 #[] #[])
  fields := #[]
  methods := #[k2m0, k2m1]
  instanceTypes := #[]
  staticTypes := #[]
  resolved := Array.replicate 53 none
  statics := none }

def pool3 : Array CpInfo := pool [(1, u "java/lang/Cloneable"), (0, .class_ 1), (0, u "java/lang/Object"), (0, .class_ 3)] 3

/-- java/lang/Cloneable -/
def k3 : Class := { plain "java/lang/Cloneable" (some 0) with
  accessFlags := 1537
  interfaces := #[]
  cf := some (fileOf pool3 2 #[] #[] 1537 4 #[] #[])
  fields := #[]
  methods := #[]
  instanceTypes := #[]
  staticTypes := #[]
  resolved := Array.replicate 8 none
  statics := none }

def pool4 : Array CpInfo := pool [(1, u "java/io/Serializable"), (0, .class_ 1), (0, u "java/lang/Object"), (0, .class_ 3)] 3

/-- java/io/Serializable -/
def k4 : Class := { plain "java/io/Serializable" (some 0) with
  accessFlags := 1537
  interfaces := #[]
  cf := some (fileOf pool4 2 #[] #[] 1537 4 #[] #[])
  fields := #[]
  methods := #[]
  instanceTypes := #[]
  staticTypes := #[]
  resolved := Array.replicate 8 none
  statics := none }

/-- the primitive byte -/
def k5 : Class := { plain "byte" none with kind := .primitive 'B', accessFlags := 0x411 }
/-- [B -/
def k6 : Class := { plain "[B" (some 0) with kind := .array 5 .byte, interfaces := #[3, 4], accessFlags := 1041 }

/-- the primitive int -/
def k7 : Class := { plain "int" none with kind := .primitive 'I', accessFlags := 0x411 }
/-- [I -/
def k8 : Class := { plain "[I" (some 0) with kind := .array 7 .int, interfaces := #[3, 4], accessFlags := 1041 }

def heap : Heap := #[]
def classes : Array Class := #[k0, k1, k2, k3, k4, k5, k6, k7, k8]
def interned : List (Array UInt16 × Addr) := []
def slotsUsed : Nat := 0
def theMethod : MethodId := ⟨1, 3⟩
def args0 : Array Value := #[.int 5]
def aboutOver (below : List Frame) : State where
  vm := { classes := classes, interned := interned.toArray }
  heap := heap
  slotsUsed := slotsUsed
  threads := #[{ frames := .invoking theMethod args0 :: below }]
def below0 : List Frame := [.native { method := ⟨0, 0⟩, args := #[] }]
def about1 : State := aboutOver below0
def p0 : Program := .bare "" "" ""
def e0 : Env := launch0.env 0 0 0
theorem w_frames : about1.frames = Frame.invoking theMethod args0 :: below0 := rfl
set_option maxRecDepth 65536 in
theorem w_args : argsFit about1.vm theMethod args0 = true := by decide +kernel
set_option maxRecDepth 65536 in
theorem w_heap : heapFits about1 = true := by decide +kernel
set_option maxRecDepth 65536 in
theorem w_runnable : about1.curStatus? = some .runnable := by decide +kernel
set_option maxRecDepth 65536 in
theorem w_alone : about1.alone = true := by decide +kernel
set_option maxRecDepth 65536 in
theorem w_named : about1.methodNamed? x = some theMethod := by decide +kernel
set_option maxRecDepth 65536 in
theorem w_hears : about1.hears theMethod below0 = true := by decide +kernel
set_option maxRecDepth 65536 in
theorem w_ripe : about1.ripe theMethod args0 below0 = true := by decide +kernel
theorem w_running : about1.status = .running := rfl
set_option maxRecDepth 65536 in
theorem w_room : about1.hasRoom e0.platform room_1 = true :=
  launch0.hasRoom_least _ room_1 (by decide +kernel) (by decide +kernel) (by decide +kernel) (by decide +kernel) (by decide +kernel) (by decide +kernel)
theorem allAtoms_all (ts : List Jvm.Cond) (a : Array Jvm.Value) (st : Jvm.State) : (allAtoms ts).before a st = ts.all (fun c => c.before a st) := by
  induction ts with
  | nil => rfl
  | cons c t ih =>
    show (Jvm.Cond.and c (allAtoms t)).before a st = _
    rw [Jvm.Cond.before_and, ih, List.all_cons]
def words1 : List Jvm.Cond := Jvm.Cond.code x code maxLocals ret :: tables_1
/-- a 'code' word, met by the world's own term for the bytes: nothing is compared byte by byte -/
theorem code_word {y : MethodName} {bytes : ByteArray} {mx : Nat} {rt : Option FieldType} {a : Array Value} {s : State} {m : MethodId} {meth : Method} {c : Code} (h1 : s.methodNamed? y = some m) (h2 : s.vm.method? m = some meth) (h3 : meth.code = some c) (h4 : c.code = bytes)
    (h5 : (c.maxLocals == mx && c.exceptionTable.isEmpty && decide (c.maxStack ≤ mostOperands) && decide (meth.sig.returnType = rt) && !meth.locks && decide (parseMethodDescriptor y.desc = some meth.sig)) = true) : (Jvm.Cond.code y bytes mx rt).before a s = true := by
  simp only [Bool.and_eq_true, beq_iff_eq, Bool.not_eq_true', decide_eq_true_eq] at h5
  obtain ⟨⟨⟨⟨⟨g1, g2⟩, g3⟩, g4⟩, g5⟩, g6⟩ := h5
  simp [Cond.before, Cond.holds, Cond.value, h1, h2, h3, h4, g1, g2, g3, g4, g5, g6]
def isCode : Jvm.Cond → Bool
  | .code _ _ _ _ => true
  | _ => false
theorem all_split {L : List Jvm.Cond} {P : Jvm.Cond → Bool} (h1 : L.all (fun c => isCode c || P c) = true) (h2 : ∀ c ∈ L.filter isCode, P c = true) : L.all P = true := by
  refine List.all_eq_true.mpr fun c hc => ?_
  have h := List.all_eq_true.mp h1 c hc
  rcases Bool.eq_false_or_eq_true (isCode c) with hi | hi
  · exact h2 c (List.mem_filter.mpr ⟨hc, hi⟩)
  · simpa [hi] using h
set_option maxRecDepth 65536 in
theorem w_c0 : (Jvm.Cond.code x code maxLocals ret).before args0 about1 = true := code_word (m := ⟨1, 3⟩) (meth := k1m3) (c := k1c3) (by decide +kernel) rfl rfl rfl (by decide +kernel)
set_option maxRecDepth 65536 in
theorem w_c1 : (Jvm.Cond.code ({ cls := "com/example/libaxes/libaxes/tree/XmlNames", name := "isNameStart", desc := "(I)Z" } : Jvm.MethodName) prog_43_method_4_code (1 : Nat) (Option.some Jvm.ClassFile.FieldType.boolean)).before args0 about1 = true := code_word (m := ⟨2, 1⟩) (meth := k2m1) (c := k2c1) (by decide +kernel) rfl rfl rfl (by decide +kernel)
set_option maxRecDepth 65536 in
theorem w_c2 : (Jvm.Cond.code ({ cls := "com/example/libaxes/libaxes/tree/XmlNamesIsNameStartPinLaw", name := "excluded", desc := "(I)Z" } : Jvm.MethodName) method_3_code (1 : Nat) (Option.some Jvm.ClassFile.FieldType.boolean)).before args0 about1 = true := code_word (m := ⟨1, 2⟩) (meth := k1m2) (c := k1c2) (by decide +kernel) rfl rfl rfl (by decide +kernel)
set_option maxRecDepth 65536 in
theorem w_c3 : (Jvm.Cond.code ({ cls := "com/example/libaxes/libaxes/tree/XmlNamesIsNameStartPinLaw", name := "in", desc := "(III)Z" } : Jvm.MethodName) method_2_code (3 : Nat) (Option.some Jvm.ClassFile.FieldType.boolean)).before args0 about1 = true := code_word (m := ⟨1, 1⟩) (meth := k1m1) (c := k1c1) (by decide +kernel) rfl rfl rfl (by decide +kernel)
def codes1 : List Jvm.Cond := [Jvm.Cond.code x code maxLocals ret, Jvm.Cond.code ({ cls := "com/example/libaxes/libaxes/tree/XmlNames", name := "isNameStart", desc := "(I)Z" } : Jvm.MethodName) prog_43_method_4_code (1 : Nat) (Option.some Jvm.ClassFile.FieldType.boolean), Jvm.Cond.code ({ cls := "com/example/libaxes/libaxes/tree/XmlNamesIsNameStartPinLaw", name := "excluded", desc := "(I)Z" } : Jvm.MethodName) method_3_code (1 : Nat) (Option.some Jvm.ClassFile.FieldType.boolean), Jvm.Cond.code ({ cls := "com/example/libaxes/libaxes/tree/XmlNamesIsNameStartPinLaw", name := "in", desc := "(III)Z" } : Jvm.MethodName) method_2_code (3 : Nat) (Option.some Jvm.ClassFile.FieldType.boolean)]
set_option maxRecDepth 65536 in
theorem codes_eq : words1.filter isCode = codes1 := rfl
theorem w_codes : ∀ c ∈ words1.filter isCode, c.before args0 about1 = true := by
  rw [codes_eq]
  intro c hc
  simp only [codes1, List.mem_cons, List.not_mem_nil, or_false] at hc
  rcases hc with rfl | rfl | rfl | rfl
  · exact w_c0
  · exact w_c1
  · exact w_c2
  · exact w_c3
set_option maxRecDepth 65536 in
theorem w_t1 : (words1.take 24).all (fun c => isCode c || c.before args0 about1) = true := by decide +kernel
set_option maxRecDepth 65536 in
theorem w_t2 : (words1.drop 24).all (fun c => isCode c || c.before args0 about1) = true := by decide +kernel
theorem w_tables : (allAtoms (Jvm.Cond.code x code maxLocals ret :: tables_1)).before args0 about1 = true := by
  rw [allAtoms_all]
  show words1.all (fun c => c.before args0 about1) = true
  refine all_split ?_ w_codes
  rw [← List.take_append_drop 24 words1, List.all_append, w_t1, w_t2]
  rfl
set_option maxRecDepth 65536 in
theorem w_case : (Jvm.Cond.and given_1 narrow_1).before args0 about1 = true := by decide +kernel
theorem w_applies : (headSpec (Jvm.Cond.code x code maxLocals ret :: tables_1) room_1).applies x e0.platform about1 = true :=
  (Spec.applies_iff w_frames).mpr ⟨w_running, w_runnable, w_alone, w_named, w_hears, w_ripe, w_room, w_tables⟩
theorem atStart : AtStart classFile x code maxLocals ret World_1 tables_1 room_1 Calls_1 rest_1 Pre_1 launch0 p0 e0 about1 theMethod args0 below0 :=
  ⟨lists_1, trivial, launch0.admits_env _ _ _, launch0.least_env, fairChoices_fair.cas, fairChoices_fair.clock, w_frames, w_args, w_heap, w_applies, trivial, trivial, w_case⟩
end start1
theorem witness_1 : WitnessClaimed_1 := ⟨start1.p0, start1.e0, start1.about1, start1.theMethod, start1.args0, start1.below0, start1.atStart⟩
end Jvm.Pilot.@@N@@
