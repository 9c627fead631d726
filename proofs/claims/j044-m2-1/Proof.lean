import JvmDerived
import JvmDerived.Pilot.@@N@@Statement
import JvmDerived.Pilot.@@N@@Code
set_option linter.unusedVariables false
set_option linter.unusedSimpArgs false

namespace Jvm.Pilot.@@N@@
open Jvm Jvm.ClassFile Sem Op Lib Jvm.Free Jvm.Stand Jvm.LawKit Jvm.RoadKit Bundle Jvm.Pilot.@@N@@.Jvm.D
/-! ## own kit: a walk forwards, in small words -/
abbrev owK : Type := Program × Env × State × MethodId × Array Value × List Frame × Method × Code
abbrev owp (k : owK) : Program := k.1
abbrev owe (k : owK) : Env := k.2.1
abbrev ows (k : owK) : State := k.2.2.1
abbrev owm (k : owK) : MethodId := k.2.2.2.1
abbrev owa (k : owK) : Array Value := k.2.2.2.2.1
abbrev owb (k : owK) : List Frame := k.2.2.2.2.2.1
abbrev owM (k : owK) : Method := k.2.2.2.2.2.2.1
abbrev owc (k : owK) : Code := k.2.2.2.2.2.2.2
/-- what stands fast through a body -/
def owC (Z : State) (y : MethodName) (B : ByteArray) (ml : Nat) (rt : Option FieldType) (k : owK) : Prop :=
  (owp k).tables.exec = Jvm.exec ∧ Z.Warmed39 (ows k).vm ∧ (ows k).vm.findClass y.cls = some (owm k).cls ∧ (owc k).code = B ∧ (owc k).maxLocals = ml ∧ (owM k).name = y.name ∧ (owM k).sig.returnType = rt ∧ (owM k).locks = false
/-- where the walk stands: the state T with the heap h; cc cells and ss slots made so far; all writes at or above n0 -/
def Sd (l : Launch) (Z : State) (n0 : Nat) (y : MethodName) (B : ByteArray) (ml : Nat) (rt : Option FieldType) (R : Room) (k : owK) (T : State) (h : Heap) (cc ss : Nat) : Prop :=
  (∃ locs, Stand (owp k) l (owe k) R (ows k) (owm k) (owa k) (owb k) (owM k) (owc k) T locs cc ss ∧ Fr n0 locs) ∧ T.heap = h ∧ owC Z y B ml rt k
/-- from here the walk ends, as Q says -/
def Go (k : owK) (n0 : Nat) (Q : Option Value → Heap → Prop) (kc ks : Nat) (T : State) (pc : Nat) (Ls : Array Slot) (st : List Value) : Prop :=
  ∃ s₂ o, Steps (owp k).tables (owe k) (owb k) (T.setTop (mkF (owm k) pc Ls st)) s₂ ∧ s₂.status = .running ∧ Ended s₂ (owb k) o ∧ ∃ v L, o = .returned v ∧ (Fr n0 L ∧ Q v s₂.heap) ∧ FrameEnd (ows k) o s₂ L kc ks
/-- the contract of a body -/
def Met (l : Launch) (Z : State) (n0 : Nat) (y : MethodName) (B : ByteArray) (ml : Nat) (rt : Option FieldType) (ws : List Jvm.Cond) (R : Room) (as : Array Value) (h0 : Heap) (Q : Option Value → Heap → Prop) (kc ks : Nat) : Prop :=
  MetFree l y (head1 (Jvm.Cond.code y B ml rt :: ws) R) (fun a U => a = as ∧ Z.Warmed39 U.vm ∧ U.heap = h0) (fun _ _ _ _ _ => True) (fun _ U o U' => ∃ v L, o = .returned v ∧ (Fr n0 L ∧ Q v U'.heap) ∧ FrameEnd U o U' L kc ks)
section Ow
variable {l : Launch} {Z : State} {n0 : Nat} {y : MethodName} {B : ByteArray} {ml : Nat} {rt : Option FieldType} {R : Room} {k : owK} {T : State} {h : Heap} {cc ss : Nat} {Q : Option Value → Heap → Prop} {kc ks : Nat} {pc : Nat} {Ls : Array Slot} {st : List Value} {a0 : Array Value}
theorem Met.of {ws : List Jvm.Cond} {as : Array Value} {h0 : Heap} {Ls : Array Slot} (hp : Jvm.plainName y.cls = true) (hef : ∀ m, entryFrame m as ml = mkF m 0 Ls []) (body : ∀ k T, Sd l Z n0 y B ml rt R k T h0 0 0 → Go k n0 Q kc ks T 0 Ls []) : Met l Z n0 y B ml rt ws R as h0 Q kc ks := by
  refine MetFree.of_bodySF (plainFor_of_name hp) hisR ?_
  intro p e s m args below meth c s₁ Bd hml hP hK
  obtain ⟨rfl, hZ, hh⟩ := hP
  have hown : s.vm.findClass y.cls = some m.cls := findClass_of_methodNamed Bd.named
  have hnm := (name_of_methodNamed Bd.named Bd.method).1
  have X0 : Stand p l e R s m args below meth c s₁ [] 0 0 := Stand.of_body Bd
  have e0 : s₁.heap = h0 := by rw [← hh, Bd.state]; rfl
  obtain ⟨s2, o, h1, h2, h3, h4⟩ := body (p, e, s, m, args, below, meth, c) s₁ ⟨⟨[], X0, Fr.nil n0⟩, e0, Bd.exec, hZ, hown, Bd.bytes, hml, hnm, Bd.returns, Bd.notSynchronized⟩
  exact ⟨s2, o, castTop (hef m) h1, h2, h3, h4⟩
theorem Go.of {T T' : State} {pc' : Nat} {Ls' : Array Slot} {st' : List Value} (K : Go k n0 Q kc ks T' pc' Ls' st') (f : ∀ t, Steps (owp k).tables (owe k) (owb k) (T'.setTop (mkF (owm k) pc' Ls' st')) t → Steps (owp k).tables (owe k) (owb k) (T.setTop (mkF (owm k) pc Ls st)) t) : Go k n0 Q kc ks T pc Ls st := by
  obtain ⟨s2, o, h1, h2⟩ := K; exact ⟨s2, o, f _ h1, h2⟩
theorem Go.end {v : Option Value} (X : Sd l Z n0 y B ml rt R k T h cc ss) (hk : cc ≤ kc) (hs : ss ≤ ks) (hv : rt = none → v = none) (f : ∀ fs, (∀ (f : JFrame) (acts : List Action), f.method = owm k → f.locked = none → f.entered = [] → (doReturn (owe k) (T.setTop f) acts v).1 = T.setFrames fs) → Steps (owp k).tables (owe k) (owb k) (T.setTop (mkF (owm k) pc Ls st)) (T.setFrames fs)) (hQ : Q v h) : Go k n0 Q kc ks T pc Ls st := by
  obtain ⟨⟨locs, X, N⟩, rfl, hx, hZ, hown, hby, hml, hnm, hrt, hlk⟩ := X
  obtain ⟨fs, hr, hrun, hended, hW, hsame⟩ := X.leave (v := v) (fun q => hv (by rw [← hrt]; exact q)) hlk
  exact ⟨_, _, f fs hr, hrun, hended, _, _, rfl, ⟨N, hQ⟩, ⟨_, rfl⟩, hW, hsame.mono hk hs⟩
theorem Sd.hh (X : Sd l Z n0 y B ml rt R k T h cc ss) : At T (owm k) (owc k) (owb k) := by obtain ⟨⟨_, X, _⟩, _⟩ := X; exact X.here
theorem Sd.x (X : Sd l Z n0 y B ml rt R k T h cc ss) : (owp k).tables.exec = Jvm.exec := X.2.2.1
theorem Sd.d (X : Sd l Z n0 y B ml rt R k T h cc ss) {pc : Nat} {r : Except ClassFile.DecodeError (ClassFile.Instr × Nat)} (hd : decode B pc = r) : decode (owc k).code pc = r := hb X.2.2.2.2.2.1 hd
theorem Sd.heap (X : Sd l Z n0 y B ml rt R k T h cc ss) : T.heap = h := X.2.1
/-! loads, stores, constants -/
theorem g_aloadN (X : Sd l Z n0 y B ml rt R k T h cc ss) {i : Fin 4} {v : Value} (hd : decode B pc = .ok (.aload_n i, 1)) (hl : Ls[i.val]? = some (.val v)) (hv : v.isRef = true) (pc' : Nat) (hp : pc + 1 = pc') (K : Go k n0 Q kc ks T pc' Ls (v :: st)) : Go k n0 Q kc ks T pc Ls st := by subst hp; exact K.of fun _ q => XS.aloadN X.hh X.x rfl (X.d hd) hl hv q
theorem g_aload (X : Sd l Z n0 y B ml rt R k T h cc ss) {i : Nat} {v : Value} (hd : decode B pc = .ok (.aload i, 2)) (hl : Ls[i]? = some (.val v)) (hv : v.isRef = true) (pc' : Nat) (hp : pc + 2 = pc') (K : Go k n0 Q kc ks T pc' Ls (v :: st)) : Go k n0 Q kc ks T pc Ls st := by subst hp; exact K.of fun _ q => XS.aload X.hh X.x rfl (X.d hd) hl hv q
theorem g_iloadN (X : Sd l Z n0 y B ml rt R k T h cc ss) {i : Fin 4} {v : Int32} (hd : decode B pc = .ok (.iload_n i, 1)) (hl : Ls[i.val]? = some (.val (.int v))) (pc' : Nat) (hp : pc + 1 = pc') (K : Go k n0 Q kc ks T pc' Ls (.int v :: st)) : Go k n0 Q kc ks T pc Ls st := by subst hp; exact K.of fun _ q => XS.iloadN X.hh X.x rfl (X.d hd) hl q
theorem g_iload (X : Sd l Z n0 y B ml rt R k T h cc ss) {i : Nat} {v : Int32} (hd : decode B pc = .ok (.iload i, 2)) (hl : Ls[i]? = some (.val (.int v))) (pc' : Nat) (hp : pc + 2 = pc') (K : Go k n0 Q kc ks T pc' Ls (.int v :: st)) : Go k n0 Q kc ks T pc Ls st := by subst hp; exact K.of fun _ q => XS.iload X.hh X.x rfl (X.d hd) hl q
theorem g_lloadN (X : Sd l Z n0 y B ml rt R k T h cc ss) {i : Fin 4} {v : Int64} (hd : decode B pc = .ok (.lload_n i, 1)) (hl : Ls[i.val]? = some (.val (.long v))) (pc' : Nat) (hp : pc + 1 = pc') (K : Go k n0 Q kc ks T pc' Ls (.long v :: st)) : Go k n0 Q kc ks T pc Ls st := by subst hp; exact K.of fun _ q => XT.lloadN X.hh X.x rfl (X.d hd) hl q
theorem g_lload (X : Sd l Z n0 y B ml rt R k T h cc ss) {i : Nat} {v : Int64} (hd : decode B pc = .ok (.lload i, 2)) (hl : Ls[i]? = some (.val (.long v))) (pc' : Nat) (hp : pc + 2 = pc') (K : Go k n0 Q kc ks T pc' Ls (.long v :: st)) : Go k n0 Q kc ks T pc Ls st := by subst hp; exact K.of fun _ q => XT.lload X.hh X.x rfl (X.d hd) hl q
theorem g_istoreN (X : Sd l Z n0 y B ml rt R k T h cc ss) {i : Fin 4} {v : Int32} (hd : decode B pc = .ok (.istore_n i, 1)) (L' : Array Slot) (hl : storeLocals Ls i.val (.int v) = some L') (pc' : Nat) (hp : pc + 1 = pc') (K : Go k n0 Q kc ks T pc' L' st) : Go k n0 Q kc ks T pc Ls (.int v :: st) := by subst hp; exact K.of fun _ q => XS.istoreN X.hh X.x rfl (X.d hd) rfl hl q
theorem g_istore (X : Sd l Z n0 y B ml rt R k T h cc ss) {i : Nat} {v : Int32} (hd : decode B pc = .ok (.istore i, 2)) (L' : Array Slot) (hl : storeLocals Ls i (.int v) = some L') (pc' : Nat) (hp : pc + 2 = pc') (K : Go k n0 Q kc ks T pc' L' st) : Go k n0 Q kc ks T pc Ls (.int v :: st) := by subst hp; exact K.of fun _ q => XS.istore X.hh X.x rfl (X.d hd) rfl hl q
theorem g_lstoreN (X : Sd l Z n0 y B ml rt R k T h cc ss) {i : Fin 4} {v : Int64} (hd : decode B pc = .ok (.lstore_n i, 1)) (L' : Array Slot) (hl : storeLocals Ls i.val (.long v) = some L') (pc' : Nat) (hp : pc + 1 = pc') (K : Go k n0 Q kc ks T pc' L' st) : Go k n0 Q kc ks T pc Ls (.long v :: st) := by subst hp; exact K.of fun _ q => XT.lstoreN X.hh X.x rfl (X.d hd) rfl hl q
theorem g_lstore (X : Sd l Z n0 y B ml rt R k T h cc ss) {i : Nat} {v : Int64} (hd : decode B pc = .ok (.lstore i, 2)) (L' : Array Slot) (hl : storeLocals Ls i (.long v) = some L') (pc' : Nat) (hp : pc + 2 = pc') (K : Go k n0 Q kc ks T pc' L' st) : Go k n0 Q kc ks T pc Ls (.long v :: st) := by subst hp; exact K.of fun _ q => XT.lstore X.hh X.x rfl (X.d hd) rfl hl q
theorem g_astoreN (X : Sd l Z n0 y B ml rt R k T h cc ss) {i : Fin 4} {v : Value} (hd : decode B pc = .ok (.astore_n i, 1)) (hv : v.isRef = true) (L' : Array Slot) (hl : storeLocals Ls i.val v = some L') (pc' : Nat) (hp : pc + 1 = pc') (K : Go k n0 Q kc ks T pc' L' st) : Go k n0 Q kc ks T pc Ls (v :: st) := by subst hp; exact K.of fun _ q => XS.astoreN X.hh X.x rfl (X.d hd) rfl hv hl q
theorem g_astore (X : Sd l Z n0 y B ml rt R k T h cc ss) {i : Nat} {v : Value} (hd : decode B pc = .ok (.astore i, 2)) (hv : v.isRef = true) (L' : Array Slot) (hl : storeLocals Ls i v = some L') (pc' : Nat) (hp : pc + 2 = pc') (K : Go k n0 Q kc ks T pc' L' st) : Go k n0 Q kc ks T pc Ls (v :: st) := by subst hp; exact K.of fun _ q => XS.astore X.hh X.x rfl (X.d hd) rfl hv hl q
theorem g_iconst (X : Sd l Z n0 y B ml rt R k T h cc ss) {i : Int} (v : Int32) (hd : decode B pc = .ok (.iconst i, 1)) (hv : Int32.ofInt i = v) (pc' : Nat) (hp : pc + 1 = pc') (K : Go k n0 Q kc ks T pc' Ls (.int v :: st)) : Go k n0 Q kc ks T pc Ls st := by subst hp; exact K.of fun _ q => XT.iconstV X.hh X.x rfl v (X.d hd) hv q
theorem g_bipush (X : Sd l Z n0 y B ml rt R k T h cc ss) {i : Int} (v : Int32) (hd : decode B pc = .ok (.bipush i, 2)) (hv : (Int8.ofInt i).toInt32 = v) (pc' : Nat) (hp : pc + 2 = pc') (K : Go k n0 Q kc ks T pc' Ls (.int v :: st)) : Go k n0 Q kc ks T pc Ls st := by subst hp; exact K.of fun _ q => XT.bipushV X.hh X.x rfl v (X.d hd) hv q
theorem g_sipush (X : Sd l Z n0 y B ml rt R k T h cc ss) {i : Int} (v : Int32) (hd : decode B pc = .ok (.sipush i, 3)) (hv : (Int16.ofInt i).toInt32 = v) (pc' : Nat) (hp : pc + 3 = pc') (K : Go k n0 Q kc ks T pc' Ls (.int v :: st)) : Go k n0 Q kc ks T pc Ls st := by subst hp; exact K.of fun _ q => XT.sipushV X.hh X.x rfl v (X.d hd) hv q
theorem g_lconst (X : Sd l Z n0 y B ml rt R k T h cc ss) {i : Fin 2} (v : Int64) (hd : decode B pc = .ok (.lconst i, 1)) (hv : Int64.ofNat i = v) (pc' : Nat) (hp : pc + 1 = pc') (K : Go k n0 Q kc ks T pc' Ls (.long v :: st)) : Go k n0 Q kc ks T pc Ls st := by subst hp; exact K.of fun _ q => XT.lconstV X.hh X.x rfl v (X.d hd) hv q
theorem g_null (X : Sd l Z n0 y B ml rt R k T h cc ss) (hd : decode B pc = .ok (.aconst_null, 1)) (pc' : Nat) (hp : pc + 1 = pc') (K : Go k n0 Q kc ks T pc' Ls (.null :: st)) : Go k n0 Q kc ks T pc Ls st := by subst hp; exact K.of fun _ q => XS.aconstNull X.hh X.x rfl (X.d hd) q
theorem g_iinc (X : Sd l Z n0 y B ml rt R k T h cc ss) {i : Nat} {cst : Int} {x : Int32} (v : Int32) (hd : decode B pc = .ok (.iinc i cst, 3)) (hv : Int32.ofInt cst = v) (hl : Ls[i]? = some (.val (.int x))) (L' : Array Slot) (hl' : storeLocals Ls i (.int (x + v)) = some L') (pc' : Nat) (hp : pc + 3 = pc') (K : Go k n0 Q kc ks T pc' L' st) : Go k n0 Q kc ks T pc Ls st := by subst hp; exact K.of fun _ q => XT.iincV X.hh X.x rfl v (X.d hd) hv hl hl' q
/-! arithmetic -/
theorem g_iadd (X : Sd l Z n0 y B ml rt R k T h cc ss) {a b : Int32} (hd : decode B pc = .ok (.iadd, 1)) (pc' : Nat) (hp : pc + 1 = pc') (K : Go k n0 Q kc ks T pc' Ls (.int (a + b) :: st)) : Go k n0 Q kc ks T pc Ls (.int b :: .int a :: st) := by subst hp; exact K.of fun _ q => XS.iadd X.hh X.x rfl (X.d hd) rfl q
theorem g_isub (X : Sd l Z n0 y B ml rt R k T h cc ss) {a b : Int32} (hd : decode B pc = .ok (.isub, 1)) (pc' : Nat) (hp : pc + 1 = pc') (K : Go k n0 Q kc ks T pc' Ls (.int (a - b) :: st)) : Go k n0 Q kc ks T pc Ls (.int b :: .int a :: st) := by subst hp; exact K.of fun _ q => XS.isub X.hh X.x rfl (X.d hd) rfl q
theorem g_imul (X : Sd l Z n0 y B ml rt R k T h cc ss) {a b : Int32} (hd : decode B pc = .ok (.imul, 1)) (pc' : Nat) (hp : pc + 1 = pc') (K : Go k n0 Q kc ks T pc' Ls (.int (a * b) :: st)) : Go k n0 Q kc ks T pc Ls (.int b :: .int a :: st) := by subst hp; exact K.of fun _ q => XS.imul X.hh X.x rfl (X.d hd) rfl q
theorem g_idiv (X : Sd l Z n0 y B ml rt R k T h cc ss) {a b : Int32} (hd : decode B pc = .ok (.idiv, 1)) (hb : b ≠ 0) (pc' : Nat) (hp : pc + 1 = pc') (K : Go k n0 Q kc ks T pc' Ls (.int (a / b) :: st)) : Go k n0 Q kc ks T pc Ls (.int b :: .int a :: st) := by subst hp; exact K.of fun _ q => XS.idiv X.hh X.x rfl (X.d hd) rfl hb q
theorem g_irem (X : Sd l Z n0 y B ml rt R k T h cc ss) {a b : Int32} (hd : decode B pc = .ok (.irem, 1)) (hb : b ≠ 0) (pc' : Nat) (hp : pc + 1 = pc') (K : Go k n0 Q kc ks T pc' Ls (.int (a % b) :: st)) : Go k n0 Q kc ks T pc Ls (.int b :: .int a :: st) := by
  subst hp; obtain ⟨⟨locs, Y, N⟩, eh, hc⟩ := X
  exact K.of fun _ q => iremM Y hc.1 (g := mkF (owm k) pc Ls (.int b :: .int a :: st)) rfl (Jvm.hb hc.2.2.2.1 hd) rfl hb q
theorem g_iand (X : Sd l Z n0 y B ml rt R k T h cc ss) {a b : Int32} (hd : decode B pc = .ok (.iand, 1)) (pc' : Nat) (hp : pc + 1 = pc') (K : Go k n0 Q kc ks T pc' Ls (.int (a &&& b) :: st)) : Go k n0 Q kc ks T pc Ls (.int b :: .int a :: st) := by subst hp; exact K.of fun _ q => XS.iand X.hh X.x rfl (X.d hd) rfl q
theorem g_ior (X : Sd l Z n0 y B ml rt R k T h cc ss) {a b : Int32} (hd : decode B pc = .ok (.ior, 1)) (pc' : Nat) (hp : pc + 1 = pc') (K : Go k n0 Q kc ks T pc' Ls (.int (a ||| b) :: st)) : Go k n0 Q kc ks T pc Ls (.int b :: .int a :: st) := by subst hp; exact K.of fun _ q => XS.ior X.hh X.x rfl (X.d hd) rfl q
theorem g_ixor (X : Sd l Z n0 y B ml rt R k T h cc ss) {a b : Int32} (hd : decode B pc = .ok (.ixor, 1)) (pc' : Nat) (hp : pc + 1 = pc') (K : Go k n0 Q kc ks T pc' Ls (.int (a ^^^ b) :: st)) : Go k n0 Q kc ks T pc Ls (.int b :: .int a :: st) := by subst hp; exact K.of fun _ q => XS.ixor X.hh X.x rfl (X.d hd) rfl q
theorem g_ishl (X : Sd l Z n0 y B ml rt R k T h cc ss) {a b : Int32} (hd : decode B pc = .ok (.ishl, 1)) (pc' : Nat) (hp : pc + 1 = pc') (K : Go k n0 Q kc ks T pc' Ls (.int (a <<< (b &&& 31)) :: st)) : Go k n0 Q kc ks T pc Ls (.int b :: .int a :: st) := by subst hp; exact K.of fun _ q => XS.ishl X.hh X.x rfl (X.d hd) rfl q
theorem g_ishr (X : Sd l Z n0 y B ml rt R k T h cc ss) {a b : Int32} (hd : decode B pc = .ok (.ishr, 1)) (pc' : Nat) (hp : pc + 1 = pc') (K : Go k n0 Q kc ks T pc' Ls (.int (a >>> (b &&& 31)) :: st)) : Go k n0 Q kc ks T pc Ls (.int b :: .int a :: st) := by subst hp; exact K.of fun _ q => XS.ishr X.hh X.x rfl (X.d hd) rfl q
theorem g_iushr (X : Sd l Z n0 y B ml rt R k T h cc ss) {a b : Int32} (hd : decode B pc = .ok (.iushr, 1)) (pc' : Nat) (hp : pc + 1 = pc') (K : Go k n0 Q kc ks T pc' Ls (.int ((a.toUInt32 >>> (b &&& 31).toUInt32).toInt32) :: st)) : Go k n0 Q kc ks T pc Ls (.int b :: .int a :: st) := by subst hp; exact K.of fun _ q => XS.iushr X.hh X.x rfl (X.d hd) rfl q
theorem g_ineg (X : Sd l Z n0 y B ml rt R k T h cc ss) {a : Int32} (hd : decode B pc = .ok (.ineg, 1)) (pc' : Nat) (hp : pc + 1 = pc') (K : Go k n0 Q kc ks T pc' Ls (.int (-a) :: st)) : Go k n0 Q kc ks T pc Ls (.int a :: st) := by subst hp; exact K.of fun _ q => XS.ineg X.hh X.x rfl (X.d hd) rfl q
theorem g_ladd (X : Sd l Z n0 y B ml rt R k T h cc ss) {a b : Int64} (hd : decode B pc = .ok (.ladd, 1)) (pc' : Nat) (hp : pc + 1 = pc') (K : Go k n0 Q kc ks T pc' Ls (.long (a + b) :: st)) : Go k n0 Q kc ks T pc Ls (.long b :: .long a :: st) := by subst hp; exact K.of fun _ q => XS.ladd X.hh X.x rfl (X.d hd) rfl q
theorem g_lsub (X : Sd l Z n0 y B ml rt R k T h cc ss) {a b : Int64} (hd : decode B pc = .ok (.lsub, 1)) (pc' : Nat) (hp : pc + 1 = pc') (K : Go k n0 Q kc ks T pc' Ls (.long (a - b) :: st)) : Go k n0 Q kc ks T pc Ls (.long b :: .long a :: st) := by subst hp; exact K.of fun _ q => XS.lsub X.hh X.x rfl (X.d hd) rfl q
theorem g_land (X : Sd l Z n0 y B ml rt R k T h cc ss) {a b : Int64} (hd : decode B pc = .ok (.land, 1)) (pc' : Nat) (hp : pc + 1 = pc') (K : Go k n0 Q kc ks T pc' Ls (.long (a &&& b) :: st)) : Go k n0 Q kc ks T pc Ls (.long b :: .long a :: st) := by subst hp; exact K.of fun _ q => XS.land X.hh X.x rfl (X.d hd) rfl q
theorem g_lushr (X : Sd l Z n0 y B ml rt R k T h cc ss) {a : Int64} {b : Int32} (hd : decode B pc = .ok (.lushr, 1)) (pc' : Nat) (hp : pc + 1 = pc') (K : Go k n0 Q kc ks T pc' Ls (.long ((a.toUInt64 >>> (b &&& 0x3f).toInt64.toUInt64).toInt64) :: st)) : Go k n0 Q kc ks T pc Ls (.int b :: .long a :: st) := by subst hp; exact K.of fun _ q => XS.lushr X.hh X.x rfl (X.d hd) rfl q
theorem g_i2l (X : Sd l Z n0 y B ml rt R k T h cc ss) {a : Int32} (hd : decode B pc = .ok (.i2l, 1)) (pc' : Nat) (hp : pc + 1 = pc') (K : Go k n0 Q kc ks T pc' Ls (.long a.toInt64 :: st)) : Go k n0 Q kc ks T pc Ls (.int a :: st) := by subst hp; exact K.of fun _ q => XS.i2l X.hh X.x rfl (X.d hd) rfl q
theorem g_l2i (X : Sd l Z n0 y B ml rt R k T h cc ss) {a : Int64} (hd : decode B pc = .ok (.l2i, 1)) (pc' : Nat) (hp : pc + 1 = pc') (K : Go k n0 Q kc ks T pc' Ls (.int a.toInt32 :: st)) : Go k n0 Q kc ks T pc Ls (.long a :: st) := by subst hp; exact K.of fun _ q => XS.l2i X.hh X.x rfl (X.d hd) rfl q
theorem g_i2b (X : Sd l Z n0 y B ml rt R k T h cc ss) {a : Int32} (hd : decode B pc = .ok (.i2b, 1)) (pc' : Nat) (hp : pc + 1 = pc') (K : Go k n0 Q kc ks T pc' Ls (.int a.toInt8.toInt32 :: st)) : Go k n0 Q kc ks T pc Ls (.int a :: st) := by subst hp; exact K.of fun _ q => XS.i2b X.hh X.x rfl (X.d hd) rfl q
theorem g_i2c (X : Sd l Z n0 y B ml rt R k T h cc ss) {a : Int32} (hd : decode B pc = .ok (.i2c, 1)) (pc' : Nat) (hp : pc + 1 = pc') (K : Go k n0 Q kc ks T pc' Ls (.int a.toUInt32.toUInt16.toUInt32.toInt32 :: st)) : Go k n0 Q kc ks T pc Ls (.int a :: st) := by subst hp; exact K.of fun _ q => XS.i2c X.hh X.x rfl (X.d hd) rfl q
theorem g_lcmp (X : Sd l Z n0 y B ml rt R k T h cc ss) {a b : Int64} (hd : decode B pc = .ok (.lcmp, 1)) (pc' : Nat) (hp : pc + 1 = pc') (K : Go k n0 Q kc ks T pc' Ls (.int (XT.cmpL a b) :: st)) : Go k n0 Q kc ks T pc Ls (.long b :: .long a :: st) := by subst hp; exact K.of fun _ q => XT.lcmp X.hh X.x rfl (X.d hd) rfl q
/-! the stack -/
theorem g_dup (X : Sd l Z n0 y B ml rt R k T h cc ss) {v : Value} (hd : decode B pc = .ok (.dup, 1)) (hc : v.category = 1) (pc' : Nat) (hp : pc + 1 = pc') (K : Go k n0 Q kc ks T pc' Ls (v :: v :: st)) : Go k n0 Q kc ks T pc Ls (v :: st) := by subst hp; exact K.of fun _ q => XS.dup X.hh X.x rfl (X.d hd) rfl hc q
theorem g_pop (X : Sd l Z n0 y B ml rt R k T h cc ss) {v : Value} (hd : decode B pc = .ok (.pop, 1)) (hc : v.category = 1) (pc' : Nat) (hp : pc + 1 = pc') (K : Go k n0 Q kc ks T pc' Ls st) : Go k n0 Q kc ks T pc Ls (v :: st) := by subst hp; exact K.of fun _ q => XS.pop X.hh X.x rfl (X.d hd) rfl hc q
theorem g_dupX1 (X : Sd l Z n0 y B ml rt R k T h cc ss) {v w : Value} (hd : decode B pc = .ok (.dup_x1, 1)) (hc : v.category = 1) (hc2 : w.category = 1) (pc' : Nat) (hp : pc + 1 = pc') (K : Go k n0 Q kc ks T pc' Ls (v :: w :: v :: st)) : Go k n0 Q kc ks T pc Ls (v :: w :: st) := by subst hp; exact K.of fun _ q => XS.dupX1 X.hh X.x rfl (X.d hd) rfl hc hc2 q
theorem g_dup2 (X : Sd l Z n0 y B ml rt R k T h cc ss) {v w : Value} (hd : decode B pc = .ok (.dup2, 1)) (hc : v.category = 1) (hc2 : w.category = 1) (pc' : Nat) (hp : pc + 1 = pc') (K : Go k n0 Q kc ks T pc' Ls (v :: w :: v :: w :: st)) : Go k n0 Q kc ks T pc Ls (v :: w :: st) := by subst hp; exact K.of fun _ q => XT.dup2 X.hh X.x rfl (X.d hd) rfl hc hc2 q
/-! jumps -/
theorem g_goto (X : Sd l Z n0 y B ml rt R k T h cc ss) {o : Int} (hd : decode B pc = .ok (.goto o, 3)) (pc' : Nat) (ho : 0 ≤ (pc : Int) + o) (hp : ((pc : Int) + o).toNat = pc') (K : Go k n0 Q kc ks T pc' Ls st) : Go k n0 Q kc ks T pc Ls st := K.of fun _ q => XS.goto X.hh X.x rfl rfl (X.d hd) ho hp q
theorem g_if (X : Sd l Z n0 y B ml rt R k T h cc ss) {cd : ClassFile.Cond} {a : Int32} {o : Int} {C : Prop} (hc : ifCond.holds cd a = true ↔ C) (hd : decode B pc = .ok (.ifCond cd o, 3)) (pT : Nat) (ho : 0 ≤ (pc : Int) + o) (hT : ((pc : Int) + o).toNat = pT) (pF : Nat) (hF : pc + 3 = pF) (K1 : C → Go k n0 Q kc ks T pT Ls st) (K2 : ¬ C → Go k n0 Q kc ks T pF Ls st) : Go k n0 Q kc ks T pc Ls (.int a :: st) := by
  subst hF
  cases q : ifCond.holds cd a with
  | true => exact (K1 (hc.mp q)).of fun _ z => XS.ifYes X.hh X.x rfl rfl (X.d hd) rfl q ho hT z
  | false => exact (K2 (fun z => by rw [hc.mpr z] at q; cases q)).of fun _ z => XS.ifNo X.hh X.x rfl (X.d hd) rfl q z
theorem g_icmp (X : Sd l Z n0 y B ml rt R k T h cc ss) {cd : ClassFile.Cond} {a b : Int32} {o : Int} {C : Prop} (hc : if_icmp.holds cd a b = true ↔ C) (hd : decode B pc = .ok (.if_icmp cd o, 3)) (pT : Nat) (ho : 0 ≤ (pc : Int) + o) (hT : ((pc : Int) + o).toNat = pT) (pF : Nat) (hF : pc + 3 = pF) (K1 : C → Go k n0 Q kc ks T pT Ls st) (K2 : ¬ C → Go k n0 Q kc ks T pF Ls st) : Go k n0 Q kc ks T pc Ls (.int b :: .int a :: st) := by
  subst hF
  cases q : if_icmp.holds cd a b with
  | true => exact (K1 (hc.mp q)).of fun _ z => XS.icmpYes X.hh X.x rfl rfl (X.d hd) rfl q ho hT z
  | false => exact (K2 (fun z => by rw [hc.mpr z] at q; cases q)).of fun _ z => XS.icmpNo X.hh X.x rfl (X.d hd) rfl q z
/-- the same, told the other way round: the jump is taken where C fails -/
theorem g_ifN (X : Sd l Z n0 y B ml rt R k T h cc ss) {cd : ClassFile.Cond} {a : Int32} {o : Int} {C : Prop} (hc : ifCond.holds cd a = true ↔ ¬ C) (hd : decode B pc = .ok (.ifCond cd o, 3)) (pT : Nat) (ho : 0 ≤ (pc : Int) + o) (hT : ((pc : Int) + o).toNat = pT) (pF : Nat) (hF : pc + 3 = pF) (K1 : C → Go k n0 Q kc ks T pF Ls st) (K2 : ¬ C → Go k n0 Q kc ks T pT Ls st) : Go k n0 Q kc ks T pc Ls (.int a :: st) :=
  g_if X hc hd pT ho hT pF hF K2 fun q => K1 (Classical.not_not.mp q)
theorem g_icmpN (X : Sd l Z n0 y B ml rt R k T h cc ss) {cd : ClassFile.Cond} {a b : Int32} {o : Int} {C : Prop} (hc : if_icmp.holds cd a b = true ↔ ¬ C) (hd : decode B pc = .ok (.if_icmp cd o, 3)) (pT : Nat) (ho : 0 ≤ (pc : Int) + o) (hT : ((pc : Int) + o).toNat = pT) (pF : Nat) (hF : pc + 3 = pF) (K1 : C → Go k n0 Q kc ks T pF Ls st) (K2 : ¬ C → Go k n0 Q kc ks T pT Ls st) : Go k n0 Q kc ks T pc Ls (.int b :: .int a :: st) :=
  g_icmp X hc hd pT ho hT pF hF K2 fun q => K1 (Classical.not_not.mp q)
theorem z_eq {a : Int32} : ifCond.holds .eq a = true ↔ a = 0 := by simp [ifCond.holds]
theorem z_ne {a : Int32} : ifCond.holds .ne a = true ↔ ¬ a = 0 := by simp [ifCond.holds]
theorem z_lt {a : Int32} : ifCond.holds .lt a = true ↔ a < 0 := by simp [ifCond.holds]
theorem z_ge {a : Int32} : ifCond.holds .ge a = true ↔ ¬ a < 0 := by simp [ifCond.holds, Int32.not_lt]
theorem z_gt {a : Int32} : ifCond.holds .gt a = true ↔ 0 < a := by simp [ifCond.holds]
theorem z_le {a : Int32} : ifCond.holds .le a = true ↔ ¬ 0 < a := by simp [ifCond.holds, Int32.not_lt]
theorem i_eq {a b : Int32} : if_icmp.holds .eq a b = true ↔ a = b := by simp [if_icmp.holds]
theorem i_ne {a b : Int32} : if_icmp.holds .ne a b = true ↔ ¬ a = b := by simp [if_icmp.holds]
theorem i_lt {a b : Int32} : if_icmp.holds .lt a b = true ↔ a < b := by simp [if_icmp.holds]
theorem i_ge {a b : Int32} : if_icmp.holds .ge a b = true ↔ ¬ a < b := by simp [if_icmp.holds, Int32.not_lt]
theorem i_gt {a b : Int32} : if_icmp.holds .gt a b = true ↔ b < a := by simp [if_icmp.holds]
theorem i_le {a b : Int32} : if_icmp.holds .le a b = true ↔ ¬ b < a := by simp [if_icmp.holds, Int32.not_lt]
theorem l_of {b : Bool} {C : Prop} (h1 : C → b = true) (h2 : ¬ C → b = false) : b = true ↔ C := ⟨fun q => Classical.byContradiction fun z => Bool.noConfusion ((h2 z).symm.trans q), h1⟩
theorem l_eq {a b : Int64} : ifCond.holds .eq (XT.cmpL a b) = true ↔ a = b := l_of XT.ll_eq_t XT.ll_eq_f
theorem l_ne {a b : Int64} : ifCond.holds .ne (XT.cmpL a b) = true ↔ ¬ a = b := l_of XT.ll_ne_t (fun q => XT.ll_ne_f (Classical.not_not.mp q))
theorem l_lt {a b : Int64} : ifCond.holds .lt (XT.cmpL a b) = true ↔ a < b := l_of XT.ll_lt_t XT.ll_lt_f
theorem l_ge {a b : Int64} : ifCond.holds .ge (XT.cmpL a b) = true ↔ ¬ a < b := l_of XT.ll_ge_t (fun q => XT.ll_ge_f (Classical.not_not.mp q))
theorem l_gt {a b : Int64} : ifCond.holds .gt (XT.cmpL a b) = true ↔ b < a := l_of XT.ll_gt_t XT.ll_gt_f
theorem l_le {a b : Int64} : ifCond.holds .le (XT.cmpL a b) = true ↔ ¬ b < a := l_of XT.ll_le_t (fun q => XT.ll_le_f (Classical.not_not.mp q))
theorem g_nullY (X : Sd l Z n0 y B ml rt R k T h cc ss) {o : Int} (hd : decode B pc = .ok (.ifnull o, 3)) (pc' : Nat) (ho : 0 ≤ (pc : Int) + o) (hp : ((pc : Int) + o).toNat = pc') (K : Go k n0 Q kc ks T pc' Ls st) : Go k n0 Q kc ks T pc Ls (.null :: st) := K.of fun _ q => XS.ifnullYes X.hh X.x rfl rfl (X.d hd) rfl ho hp q
theorem g_nullN (X : Sd l Z n0 y B ml rt R k T h cc ss) {o : Int} {a : Addr} (hd : decode B pc = .ok (.ifnull o, 3)) (pc' : Nat) (hp : pc + 3 = pc') (K : Go k n0 Q kc ks T pc' Ls st) : Go k n0 Q kc ks T pc Ls (.ref a :: st) := by subst hp; exact K.of fun _ q => XS.ifnullNo X.hh X.x rfl (X.d hd) rfl q
theorem g_nonnullY (X : Sd l Z n0 y B ml rt R k T h cc ss) {o : Int} {a : Addr} (hd : decode B pc = .ok (.ifnonnull o, 3)) (pc' : Nat) (ho : 0 ≤ (pc : Int) + o) (hp : ((pc : Int) + o).toNat = pc') (K : Go k n0 Q kc ks T pc' Ls st) : Go k n0 Q kc ks T pc Ls (.ref a :: st) := K.of fun _ q => XS.ifnonnullYes X.hh X.x rfl rfl (X.d hd) rfl ho hp q
theorem g_nonnullN (X : Sd l Z n0 y B ml rt R k T h cc ss) {o : Int} (hd : decode B pc = .ok (.ifnonnull o, 3)) (pc' : Nat) (hp : pc + 3 = pc') (K : Go k n0 Q kc ks T pc' Ls st) : Go k n0 Q kc ks T pc Ls (.null :: st) := by subst hp; exact K.of fun _ q => XS.ifnonnullNo X.hh X.x rfl (X.d hd) rfl q
theorem g_acmpY (X : Sd l Z n0 y B ml rt R k T h cc ss) {cd : ClassFile.ACond} {v w : Value} {o : Int} (hd : decode B pc = .ok (.if_acmp cd o, 3)) (hv : v.isRef = true) (hw : w.isRef = true) (hc : XT.acmp cd v w = true) (pc' : Nat) (ho : 0 ≤ (pc : Int) + o) (hp : ((pc : Int) + o).toNat = pc') (K : Go k n0 Q kc ks T pc' Ls st) : Go k n0 Q kc ks T pc Ls (w :: v :: st) := K.of fun _ q => XT.acmpYes X.hh X.x rfl rfl (X.d hd) rfl hv hw hc ho hp q
theorem g_acmpN (X : Sd l Z n0 y B ml rt R k T h cc ss) {cd : ClassFile.ACond} {v w : Value} {o : Int} (hd : decode B pc = .ok (.if_acmp cd o, 3)) (hv : v.isRef = true) (hw : w.isRef = true) (hc : XT.acmp cd v w = false) (pc' : Nat) (hp : pc + 3 = pc') (K : Go k n0 Q kc ks T pc' Ls st) : Go k n0 Q kc ks T pc Ls (w :: v :: st) := by subst hp; exact K.of fun _ q => XT.acmpNo X.hh X.x rfl (X.d hd) rfl hv hw hc q
theorem a_eq {a b : Addr} : XT.acmp .eq (.ref a) (.ref b) = true ↔ a = b := by simp [XT.acmp]
theorem a_ne {a b : Addr} : XT.acmp .ne (.ref a) (.ref b) = true ↔ ¬ a = b := by simp [XT.acmp]
theorem g_acmp (X : Sd l Z n0 y B ml rt R k T h cc ss) {cd : ClassFile.ACond} {a b : Addr} {o : Int} {C : Prop} (hc : XT.acmp cd (.ref a) (.ref b) = true ↔ C) (hd : decode B pc = .ok (.if_acmp cd o, 3)) (pT : Nat) (ho : 0 ≤ (pc : Int) + o) (hT : ((pc : Int) + o).toNat = pT) (pF : Nat) (hF : pc + 3 = pF) (K1 : C → Go k n0 Q kc ks T pT Ls st) (K2 : ¬ C → Go k n0 Q kc ks T pF Ls st) : Go k n0 Q kc ks T pc Ls (.ref b :: .ref a :: st) := by
  cases q : XT.acmp cd (.ref a) (.ref b) with
  | true => exact g_acmpY X hd rfl rfl q pT ho hT (K1 (hc.mp q))
  | false => exact g_acmpN X hd rfl rfl q pF hF (K2 (fun z => by rw [hc.mpr z] at q; cases q))
theorem g_acmpNN (X : Sd l Z n0 y B ml rt R k T h cc ss) {cd : ClassFile.ACond} {a b : Addr} {o : Int} {C : Prop} (hc : XT.acmp cd (.ref a) (.ref b) = true ↔ ¬ C) (hd : decode B pc = .ok (.if_acmp cd o, 3)) (pT : Nat) (ho : 0 ≤ (pc : Int) + o) (hT : ((pc : Int) + o).toNat = pT) (pF : Nat) (hF : pc + 3 = pF) (K1 : C → Go k n0 Q kc ks T pF Ls st) (K2 : ¬ C → Go k n0 Q kc ks T pT Ls st) : Go k n0 Q kc ks T pc Ls (.ref b :: .ref a :: st) :=
  g_acmp X hc hd pT ho hT pF hF K2 fun q => K1 (Classical.not_not.mp q)
/-! constants of the pool -/
theorem g_ldcI (X : Sd l Z n0 y B ml rt R k T h cc ss) {i : Nat} {v : Int32} (w : (Jvm.Cond.constant y.cls i v).before a0 Z = true) (hd : decode B pc = .ok (.ldc i, 2)) (pc' : Nat) (hp : pc + 2 = pc') (K : Go k n0 Q kc ks T pc' Ls (.int v :: st)) : Go k n0 Q kc ks T pc Ls st := by
  subst hp; obtain ⟨⟨locs, Y, N⟩, eh, hx, hZ, hown, hby, -⟩ := X
  exact K.of fun _ q => Y.ldcI hx hown (mv hZ w) rfl (Jvm.hb hby hd) q
theorem g_ldc2J (X : Sd l Z n0 y B ml rt R k T h cc ss) {i : Nat} {v : Int64} (w : (Jvm.Cond.constantLong y.cls i v).before a0 Z = true) (hd : decode B pc = .ok (.ldc2_w i, 3)) (pc' : Nat) (hp : pc + 3 = pc') (K : Go k n0 Q kc ks T pc' Ls (.long v :: st)) : Go k n0 Q kc ks T pc Ls st := by
  subst hp; obtain ⟨⟨locs, Y, N⟩, eh, hx, hZ, hown, hby, -⟩ := X
  exact K.of fun _ q => Y.ldc2J hx hown (mv hZ w) rfl (Jvm.hb hby hd) q
/-! returns -/
theorem g_retI (X : Sd l Z n0 y B ml (some .int) R k T h cc ss) {z : Int32} (hd : decode B pc = .ok (.ireturn, 1)) (hk : cc ≤ kc) (hs : ss ≤ ks) (hQ : Q (some (.int z)) h) : Go k n0 Q kc ks T pc Ls [.int z] :=
  Go.end X hk hs (fun q => nomatch q) (fun fs hr => by obtain ⟨⟨locs, Y, N⟩, eh, hx, hZ, hown, hby, hml, hnm, hrt, hlk⟩ := X; exact Y.ireturnOut hx hrt rfl (Or.inl rfl) (Jvm.hb hby hd) hr) hQ
theorem g_retN (X : Sd l Z n0 y B ml rt R k T h cc ss) {z : Int32} {t : FieldType} (hrt : rt = some t) (ht : t = .boolean ∨ t = .byte ∨ t = .char ∨ t = .short) (hd : decode B pc = .ok (.ireturn, 1)) (hk : cc ≤ kc) (hs : ss ≤ ks) (hQ : Q (some (.int (nar t z))) h) : Go k n0 Q kc ks T pc Ls [.int z] :=
  Go.end X hk hs (fun q => by rw [hrt] at q; cases q) (fun fs hr => by obtain ⟨⟨locs, Y, N⟩, eh, hx, hZ, hown, hby, hml, hnm, hrt', hlk⟩ := X; exact retN Y hx (hrt'.trans hrt) ht (Jvm.hb hby hd) hr) hQ
theorem g_retZ (X : Sd l Z n0 y B ml (some .boolean) R k T h cc ss) {z : Int32} (hd : decode B pc = .ok (.ireturn, 1)) (hk : cc ≤ kc) (hs : ss ≤ ks) (hQ : Q (some (.int (z &&& 1))) h) : Go k n0 Q kc ks T pc Ls [.int z] := g_retN X rfl (Or.inl rfl) hd hk hs hQ
theorem g_retL (X : Sd l Z n0 y B ml (some .long) R k T h cc ss) {z : Int64} (hd : decode B pc = .ok (.lreturn, 1)) (hk : cc ≤ kc) (hs : ss ≤ ks) (hQ : Q (some (.long z)) h) : Go k n0 Q kc ks T pc Ls [.long z] :=
  Go.end X hk hs (fun q => nomatch q) (fun fs hr => by obtain ⟨⟨locs, Y, N⟩, eh, hx, hZ, hown, hby, hml, hnm, hrt, hlk⟩ := X; exact Y.lreturnOut hx hrt (Jvm.hb hby hd) hr) hQ
theorem g_retA (X : Sd l Z n0 y B ml rt R k T h cc ss) {v : Value} {t : FieldType} (hrt : rt = some t) (ht : t.isReference = true) (hv : v.isRef = true) (hd : decode B pc = .ok (.areturn, 1)) (hk : cc ≤ kc) (hs : ss ≤ ks) (hQ : Q (some v) h) : Go k n0 Q kc ks T pc Ls [v] :=
  Go.end X hk hs (fun q => by rw [hrt] at q; cases q) (fun fs hr => by obtain ⟨⟨locs, Y, N⟩, eh, hx, hZ, hown, hby, hml, hnm, hrt', hlk⟩ := X; exact Y.areturnOut hx hv (hrt'.trans hrt) ht (Jvm.hb hby hd) hr) hQ
theorem g_ret (X : Sd l Z n0 y B ml none R k T h cc ss) (hd : decode B pc = .ok (.return_, 1)) (hk : cc ≤ kc) (hs : ss ≤ ks) (hQ : Q none h) : Go k n0 Q kc ks T pc Ls [] :=
  Go.end X hk hs (fun _ => rfl) (fun fs hr => by obtain ⟨⟨locs, Y, N⟩, eh, hx, hZ, hown, hby, hml, hnm, hrt, hlk⟩ := X; exact Y.returnOut hx hrt (Jvm.hb hby hd) hr) hQ
/-! objects -/
theorem g_new (X : Sd l Z n0 y B ml rt R k T h cc ss) {i n : Nat} {C : String} (w : (Jvm.Cond.classLink y.cls i C).before a0 Z = true) (wi : (Jvm.Cond.instantiable C n).before a0 Z = true) (wz : (Jvm.Cond.initialized C).before a0 Z = true) (hd : decode B pc = .ok (.new i, 3)) (hc : cc + 1 ≤ R.cells) (hl : ss + n ≤ R.slots) (pc' : Nat) (hp : pc + 3 = pc')
    (K : ∀ T' h' a, Sd l Z n0 y B ml rt R k T' h' (cc + 1) (ss + n) → a = h.size → Ext h h' → Exa Z h' a C → (∀ {O nm d : String} {ty : FieldType}, Laid Z a0 C O nm d → parseFieldDescriptor d = some ty → Fld Z h' a O nm d (defaultValue ty)) → Go k n0 Q kc ks T' pc' Ls (.ref a :: st)) : Go k n0 Q kc ks T pc Ls st := by
  subst hp; obtain ⟨⟨locs, Y, N⟩, eh, hx, hZ, hown, hby, hr⟩ := X
  obtain ⟨T2, h2, X2, e2, E2, A2, D2, -, st2⟩ := newO Y hx hZ hown w wi wz eh (g := mkF (owm k) pc Ls st) rfl (Jvm.hb hby hd) hc hl
  exact (K T2 h2 h.size ⟨⟨locs, X2, N⟩, e2, hx, hZ, hown, hby, hr⟩ rfl E2 A2 D2).of st2
theorem g_getF (X : Sd l Z n0 y B ml rt R k T h cc ss) {i : Nat} {R0 O n d : String} (w : (Jvm.Cond.fieldLink y.cls i R0 n d).before a0 Z = true) (via : Via Z R0 O n d) {a : Addr} {v : Value} (F : Fld Z h a O n d v) (hd : decode B pc = .ok (.getfield i, 3)) (pc' : Nat) (hp : pc + 3 = pc')
    (K : ∀ T', Sd l Z n0 y B ml rt R k T' h cc ss → Go k n0 Q kc ks T' pc' Ls (v :: st)) : Go k n0 Q kc ks T pc Ls (.ref a :: st) := by
  subst hp; obtain ⟨⟨locs, Y, N⟩, eh, hx, hZ, hown, hby, hr⟩ := X
  obtain ⟨T2, X2, e2, st2⟩ := getF Y hx hZ hown (host := "") (Or.inl w) via eh F (g := mkF (owm k) pc Ls (.ref a :: st)) rfl rfl (Jvm.hb hby hd)
  exact (K T2 ⟨⟨locs, X2, N⟩, e2, hx, hZ, hown, hby, hr⟩).of st2
theorem g_getFH (X : Sd l Z n0 y B ml rt R k T h cc ss) {i : Nat} {R0 O n d host : String} (w : (Jvm.Cond.fieldLinkNest y.cls i R0 n d host).before a0 Z = true) (via : Via Z R0 O n d) {a : Addr} {v : Value} (F : Fld Z h a O n d v) (hd : decode B pc = .ok (.getfield i, 3)) (pc' : Nat) (hp : pc + 3 = pc')
    (K : ∀ T', Sd l Z n0 y B ml rt R k T' h cc ss → Go k n0 Q kc ks T' pc' Ls (v :: st)) : Go k n0 Q kc ks T pc Ls (.ref a :: st) := by
  subst hp; obtain ⟨⟨locs, Y, N⟩, eh, hx, hZ, hown, hby, hr⟩ := X
  obtain ⟨T2, X2, e2, st2⟩ := getF Y hx hZ hown (Or.inr w) via eh F (g := mkF (owm k) pc Ls (.ref a :: st)) rfl rfl (Jvm.hb hby hd)
  exact (K T2 ⟨⟨locs, X2, N⟩, e2, hx, hZ, hown, hby, hr⟩).of st2
theorem g_getS (X : Sd l Z n0 y B ml rt R k T h cc ss) {i : Nat} {R0 O n d : String} (w : (Jvm.Cond.fieldLink y.cls i R0 n d).before a0 Z = true) (via : Via Z R0 O n d) {v : Value} (F : Sta Z h O n d v) (hd : decode B pc = .ok (.getstatic i, 3)) (pc' : Nat) (hp : pc + 3 = pc')
    (K : ∀ T', Sd l Z n0 y B ml rt R k T' h cc ss → Go k n0 Q kc ks T' pc' Ls (v :: st)) : Go k n0 Q kc ks T pc Ls st := by
  subst hp; obtain ⟨⟨locs, Y, N⟩, eh, hx, hZ, hown, hby, hr⟩ := X
  obtain ⟨T2, X2, e2, st2⟩ := getS2 Y hx hZ hown (host := "") (Or.inl w) via eh F (g := mkF (owm k) pc Ls st) rfl (Jvm.hb hby hd)
  exact (K T2 ⟨⟨locs, X2, N⟩, e2, hx, hZ, hown, hby, hr⟩).of st2
/-- a final field in a constructor of its class -/
theorem g_putFin (X : Sd l Z n0 y B ml rt R k T h cc ss) {i kk : Nat} {O n d C : String} (w : (Jvm.Cond.fieldLink y.cls i O n d).before a0 Z = true) {a : Addr} {v old : Value} (F : Fld Z h a O n d old) (E : Exa Z h a C) (L : (Jvm.Cond.laysFinal C O n d).before a0 Z = true) (ho : y.cls = O) (hi : y.name = "<init>") (wi : (Jvm.Cond.instantiable C kk).before a0 Z = true)
    (g0 : n0 ≤ a) (ty : FieldType) (hty : parseFieldDescriptor d = some ty) (hn : narrow ty v = v) (hf : fits ty v = true) (hd : decode B pc = .ok (.putfield i, 3)) (pc' : Nat) (hp : pc + 3 = pc')
    (K : ∀ T' h', Sd l Z n0 y B ml rt R k T' h' cc ss → Wr h h' a (Jvm.RoadKit.slotOf Z O n d) v → Go k n0 Q kc ks T' pc' Ls st) : Go k n0 Q kc ks T pc Ls (v :: .ref a :: st) := by
  subst hp; obtain ⟨⟨locs, Y, N⟩, eh, hx, hZ, hown, hby, hml, hnm, hr⟩ := X
  obtain ⟨T2, h2, X2, e2, W2, st2⟩ := putF Y hx hZ hown (host := "") (Or.inl w) Via.refl eh F E (Or.inr ⟨L, ho, hnm.trans hi⟩) wi hty hn hf (g := mkF (owm k) pc Ls (v :: .ref a :: st)) rfl rfl (Jvm.hb hby hd)
  exact (K T2 h2 ⟨⟨_, X2, Fr.snoc X2 N g0⟩, e2, hx, hZ, hown, hby, hml, hnm, hr⟩ W2).of st2
theorem g_putF (X : Sd l Z n0 y B ml rt R k T h cc ss) {i kk : Nat} {R0 O n d C : String} (w : (Jvm.Cond.fieldLink y.cls i R0 n d).before a0 Z = true) (via : Via Z R0 O n d) {a : Addr} {v old : Value} (F : Fld Z h a O n d old) (E : Exa Z h a C) (L : (Jvm.Cond.lays C O n d).before a0 Z = true) (wi : (Jvm.Cond.instantiable C kk).before a0 Z = true)
    (g0 : n0 ≤ a) (ty : FieldType) (hty : parseFieldDescriptor d = some ty) (hn : narrow ty v = v) (hf : fits ty v = true) (hd : decode B pc = .ok (.putfield i, 3)) (pc' : Nat) (hp : pc + 3 = pc')
    (K : ∀ T' h', Sd l Z n0 y B ml rt R k T' h' cc ss → Wr h h' a (Jvm.RoadKit.slotOf Z O n d) v → Go k n0 Q kc ks T' pc' Ls st) : Go k n0 Q kc ks T pc Ls (v :: .ref a :: st) := by
  subst hp; obtain ⟨⟨locs, Y, N⟩, eh, hx, hZ, hown, hby, hr⟩ := X
  obtain ⟨T2, h2, X2, e2, W2, st2⟩ := putF Y hx hZ hown (host := "") (Or.inl w) via eh F E (Or.inl L) wi hty hn hf (g := mkF (owm k) pc Ls (v :: .ref a :: st)) rfl rfl (Jvm.hb hby hd)
  exact (K T2 h2 ⟨⟨_, X2, Fr.snoc X2 N g0⟩, e2, hx, hZ, hown, hby, hr⟩ W2).of st2
theorem g_putFinN (X : Sd l Z n0 y B ml rt R k T h cc ss) {i kk : Nat} {O n d C : String} (w : (Jvm.Cond.fieldLink y.cls i O n d).before a0 Z = true) {a : Addr} {v old : Value} (v' : Value) (F : Fld Z h a O n d old) (E : Exa Z h a C) (L : (Jvm.Cond.laysFinal C O n d).before a0 Z = true) (ho : y.cls = O) (hi : y.name = "<init>") (wi : (Jvm.Cond.instantiable C kk).before a0 Z = true)
    (g0 : n0 ≤ a) (ty : FieldType) (hty : parseFieldDescriptor d = some ty) (hn : narrow ty v = v') (hf : fits ty v' = true) (hd : decode B pc = .ok (.putfield i, 3)) (pc' : Nat) (hp : pc + 3 = pc')
    (K : ∀ T' h', Sd l Z n0 y B ml rt R k T' h' cc ss → Wr h h' a (Jvm.RoadKit.slotOf Z O n d) v' → Go k n0 Q kc ks T' pc' Ls st) : Go k n0 Q kc ks T pc Ls (v :: .ref a :: st) := by
  subst hp; obtain ⟨⟨locs, Y, N⟩, eh, hx, hZ, hown, hby, hml, hnm, hr⟩ := X
  obtain ⟨T2, h2, X2, e2, W2, st2⟩ := putFN Y hx hZ hown w Via.refl eh F E (Or.inr ⟨L, ho, hnm.trans hi⟩) wi hty hn hf (g := mkF (owm k) pc Ls (v :: .ref a :: st)) rfl rfl (Jvm.hb hby hd)
  exact (K T2 h2 ⟨⟨_, X2, Fr.snoc X2 N g0⟩, e2, hx, hZ, hown, hby, hml, hnm, hr⟩ W2).of st2
theorem g_initO (X : Sd l Z n0 y B ml rt R k T h cc ss) {i : Nat} {a : Addr} (w1 : (Jvm.Cond.methodLink y.cls i Lib.objectInit).before a0 Z = true) (w2 : (Jvm.Cond.instanceMethod Lib.objectInit).before a0 Z = true) (w3 : (Jvm.Cond.code Lib.objectInit ⟨#[0xb1]⟩ 1 none).before a0 Z = true) (hsz : Ls.size = ml) (hf : 1 ≤ R.frames) (hl : (st.map fun v => v.category).sum + 12 ≤ R.locals) (hd : decode B pc = .ok (.invokespecial i, 3)) (pc' : Nat) (hp : pc + 3 = pc')
    (K : ∀ T', Sd l Z n0 y B ml rt R k T' h cc ss → Go k n0 Q kc ks T' pc' Ls st) : Go k n0 Q kc ks T pc Ls (.ref a :: st) := by
  subst hp; obtain ⟨⟨locs, Y, N⟩, eh, hx, hZ, hown, hby, hml, hr⟩ := X
  obtain ⟨T2, X2, e2, st2⟩ := initO Y hx hZ hown w1 w2 w3 eh (g := mkF (owm k) pc Ls (.ref a :: st)) rfl (hsz.trans hml.symm) rfl (Jvm.hb hby hd) hf (W := (st.map fun v => v.category).sum) (by show 2 * 0 + _ ≤ _; omega) hl
  exact (K T2 ⟨⟨locs, X2, N⟩, e2, hx, hZ, hown, hby, hml, hr⟩).of st2
/-! calls -/
theorem g_callS (X : Sd l Z n0 y B ml rt R k T h cc ss) {i : Nat} {z : MethodName} {Bz : ByteArray} {mz : Nat} {rz : Option FieldType} {rm : Room} {Qz : Option Value → Heap → Prop} (argsL rest : List Value) {ps : List FieldType} {pr : Option FieldType} (M : Met l Z n0 z Bz mz rz [] rm argsL.toArray h Qz rm.cells rm.slots)
    (w1 : (Jvm.Cond.methodLink y.cls i z).before a0 Z = true) (w2 : (Jvm.Cond.static z).before a0 Z = true) (w3 : (Jvm.Cond.initialized z.cls).before a0 Z = true) (w4 : (Jvm.Cond.code z Bz mz rz).before a0 Z = true) (hy : z.cls ≠ "java/lang/invoke/MethodHandle" ∧ z.cls ≠ "java/lang/invoke/VarHandle") (pd : parseMethodDescriptor z.desc = some ⟨ps, pr⟩) (hlen : argsL.length = ps.length)
    (hsz : Ls.size = ml) (hf : rm.frames + 1 ≤ R.frames) (hlo : (rest.map fun v => v.category).sum + (mz + 11) + rm.locals ≤ R.locals) (hc : cc + rm.cells ≤ R.cells) (hs : ss + rm.slots ≤ R.slots) (hd : decode B pc = .ok (.invokestatic i, 3)) (hst : st = argsL.reverse ++ rest) (pc' : Nat) (hp : pc + 3 = pc')
    (K : ∀ v T' h', Sd l Z n0 y B ml rt R k T' h' (cc + rm.cells) (ss + rm.slots) → Qz v h' → Go k n0 Q kc ks T' pc' Ls (v.toList ++ rest)) : Go k n0 Q kc ks T pc Ls st := by
  subst hp; obtain ⟨⟨locs, Y, N⟩, eh, hx, hZ, hown, hby, hml, hr⟩ := X
  obtain ⟨v, _, ⟨T', L', c', n'⟩, -, X', ⟨Lc, hQ, l1, y1, z1⟩, stp⟩ := Jvm.LawKit.callS Y hx (y := z) hown (mvT hZ w1) (mvT hZ w2) (mvT hZ w3) (mvT hZ w4) hy (backOf (W := (rest.map fun v => v.category).sum) (Q := fun v h L => Fr n0 L ∧ Qz v h) M hZ w4 w3 hf hlo) (g := mkF (owm k) pc Ls st) rfl (hsz.trans hml.symm) (argsL := argsL) (rest := rest) (lenOf pd hlen) hst (by show 2 * 0 + _ ≤ _; omega) (Jvm.hb hby hd) (fun _ _ => ⟨rfl, eh, hc, hs⟩)
  dsimp only [Pt.U, Pt.locs, Pt.cells, Pt.slots] at X' l1 y1 z1 stp hQ
  subst l1 y1 z1
  exact (K v T' _ ⟨⟨_, X', N.app hQ.1⟩, rfl, hx, hZ, hown, hby, hml, hr⟩ hQ.2).of stp
theorem g_callI (X : Sd l Z n0 y B ml rt R k T h cc ss) {i : Nat} {z : MethodName} {Bz : ByteArray} {mz : Nat} {rm : Room} {Qz : Option Value → Heap → Prop} (a : Addr) (argsL rest : List Value) {ps : List FieldType} {pr : Option FieldType} (M : Met l Z n0 z Bz mz none [] rm (Value.ref a :: argsL).toArray h Qz rm.cells rm.slots) (hi : z.name = "<init>")
    (w1 : (Jvm.Cond.methodLink y.cls i z).before a0 Z = true) (w2 : (Jvm.Cond.instanceMethod z).before a0 Z = true) (w3 : (Jvm.Cond.initialized z.cls).before a0 Z = true) (w4 : (Jvm.Cond.code z Bz mz none).before a0 Z = true) (hy : z.cls ≠ "java/lang/invoke/MethodHandle" ∧ z.cls ≠ "java/lang/invoke/VarHandle") (pd : parseMethodDescriptor z.desc = some ⟨ps, pr⟩) (hlen : argsL.length = ps.length)
    (hsz : Ls.size = ml) (hf : rm.frames + 1 ≤ R.frames) (hlo : (rest.map fun v => v.category).sum + (mz + 11) + rm.locals ≤ R.locals) (hc : cc + rm.cells ≤ R.cells) (hs : ss + rm.slots ≤ R.slots) (hd : decode B pc = .ok (.invokespecial i, 3)) (hst : st = argsL.reverse ++ .ref a :: rest) (pc' : Nat) (hp : pc + 3 = pc')
    (K : ∀ v T' h', Sd l Z n0 y B ml rt R k T' h' (cc + rm.cells) (ss + rm.slots) → Qz v h' → Go k n0 Q kc ks T' pc' Ls (v.toList ++ rest)) : Go k n0 Q kc ks T pc Ls st := by
  subst hp; obtain ⟨⟨locs, Y, N⟩, eh, hx, hZ, hown, hby, hml, hr⟩ := X
  obtain ⟨v, _, ⟨T', L', c', n'⟩, -, X', ⟨Lc, hQ, l1, y1, z1⟩, stp⟩ := Y.specialBack hx (y := z) hi hown (mvT hZ w1) (mvT hZ w2) (mvT hZ w4) hy (backOf (W := (rest.map fun v => v.category).sum) (Q := fun v h L => Fr n0 L ∧ Qz v h) M hZ w4 w3 hf hlo) (g := mkF (owm k) pc Ls st) rfl (hsz.trans hml.symm) (Steps.refl _) (a := a) (argsL := argsL) (rest := rest) (lenOf pd hlen) hst (by show 2 * 0 + _ ≤ _; omega) (Jvm.hb hby hd) (fun _ _ => ⟨rfl, eh, hc, hs⟩)
  dsimp only [Pt.U, Pt.locs, Pt.cells, Pt.slots] at X' l1 y1 z1 stp hQ
  subst l1 y1 z1
  exact (K v T' _ ⟨⟨_, X', N.app hQ.1⟩, rfl, hx, hZ, hown, hby, hml, hr⟩ hQ.2).of fun _ q => stp.trans q
/-- an instance method, found where it is named -/
theorem g_callV (X : Sd l Z n0 y B ml rt R k T h cc ss) {i : Nat} {z : MethodName} {C : String} {Bz : ByteArray} {mz : Nat} {rz : Option FieldType} {rm : Room} {Qz : Option Value → Heap → Prop} (a : Addr) (argsL rest : List Value) {ps : List FieldType} {pr : Option FieldType} (M : Met l Z n0 z Bz mz rz [] rm (Value.ref a :: argsL).toArray h Qz rm.cells rm.slots) (E : Exa Z h a C)
    (w1 : (Jvm.Cond.methodLink y.cls i z).before a0 Z = true) (w2 : (Jvm.Cond.declares z).before a0 Z = true) (w5 : (Jvm.Cond.selects C z z).before a0 Z = true) (w6 : (Jvm.Cond.instanceMethod z).before a0 Z = true) (w3 : (Jvm.Cond.initialized z.cls).before a0 Z = true) (w4 : (Jvm.Cond.code z Bz mz rz).before a0 Z = true) (hy : z.cls ≠ "java/lang/invoke/MethodHandle" ∧ z.cls ≠ "java/lang/invoke/VarHandle") (pd : parseMethodDescriptor z.desc = some ⟨ps, pr⟩) (hlen : argsL.length = ps.length)
    (hsz : Ls.size = ml) (hf : rm.frames + 1 ≤ R.frames) (hlo : (rest.map fun v => v.category).sum + (mz + 11) + rm.locals ≤ R.locals) (hc : cc + rm.cells ≤ R.cells) (hs : ss + rm.slots ≤ R.slots) (hd : decode B pc = .ok (.invokevirtual i, 3)) (hst : st = argsL.reverse ++ .ref a :: rest) (pc' : Nat) (hp : pc + 3 = pc')
    (K : ∀ v T' h', Sd l Z n0 y B ml rt R k T' h' (cc + rm.cells) (ss + rm.slots) → Qz v h' → Go k n0 Q kc ks T' pc' Ls (v.toList ++ rest)) : Go k n0 Q kc ks T pc Ls st := by
  subst hp; obtain ⟨⟨locs, Y, N⟩, eh, hx, hZ, hown, hby, hml, hr⟩ := X
  obtain ⟨cq, kq, qa, qb, qc⟩ := isOf hZ eh E
  obtain ⟨v, _, ⟨T', L', c', n'⟩, -, X', ⟨Lc, hQ, l1, y1, z1⟩, stp⟩ := Y.virtualBack hx (y := z) (z := z) hown (mvT hZ w1) (mvT hZ w2) (notFace_of_selects (args := #[]) (mvT hZ w5)) (mvT hZ w5) (mvT hZ w6) hy (backOf (W := (rest.map fun v => v.category).sum) (Q := fun v h L => Fr n0 L ∧ Qz v h) M hZ w4 w3 hf hlo) qa qc (g := mkF (owm k) pc Ls st) rfl (hsz.trans hml.symm) (Steps.refl _) (argsL := argsL) (rest := rest) (lenOf pd hlen) hst (by show 2 * 0 + _ ≤ _; omega) (Jvm.hb hby hd) (fun _ _ => ⟨rfl, eh, hc, hs⟩)
  dsimp only [Pt.U, Pt.locs, Pt.cells, Pt.slots] at X' l1 y1 z1 stp hQ
  subst l1 y1 z1
  exact (K v T' _ ⟨⟨_, X', N.app hQ.1⟩, rfl, hx, hZ, hown, hby, hml, hr⟩ hQ.2).of fun _ q => stp.trans q
/-- a private instance method by invokevirtual -/
theorem g_callP (X : Sd l Z n0 y B ml rt R k T h cc ss) {i : Nat} {z : MethodName} {C : String} {Bz : ByteArray} {mz : Nat} {rz : Option FieldType} {rm : Room} {Qz : Option Value → Heap → Prop} (a : Addr) (argsL rest : List Value) {ps : List FieldType} {pr : Option FieldType} (M : Met l Z n0 z Bz mz rz [] rm (Value.ref a :: argsL).toArray h Qz rm.cells rm.slots) (E : Exa Z h a C)
    (w1 : (Jvm.Cond.methodLink y.cls i z).before a0 Z = true) (w2 : (Jvm.Cond.privateMethod z).before a0 Z = true) (w5 : (Jvm.Cond.selects z.cls z z).before a0 Z = true) (w6 : (Jvm.Cond.instanceMethod z).before a0 Z = true) (w3 : (Jvm.Cond.initialized z.cls).before a0 Z = true) (w4 : (Jvm.Cond.code z Bz mz rz).before a0 Z = true) (hy : z.cls ≠ "java/lang/invoke/MethodHandle" ∧ z.cls ≠ "java/lang/invoke/VarHandle") (pd : parseMethodDescriptor z.desc = some ⟨ps, pr⟩) (hlen : argsL.length = ps.length)
    (hsz : Ls.size = ml) (hf : rm.frames + 1 ≤ R.frames) (hlo : (rest.map fun v => v.category).sum + (mz + 11) + rm.locals ≤ R.locals) (hc : cc + rm.cells ≤ R.cells) (hs : ss + rm.slots ≤ R.slots) (hd : decode B pc = .ok (.invokevirtual i, 3)) (hst : st = argsL.reverse ++ .ref a :: rest) (pc' : Nat) (hp : pc + 3 = pc')
    (K : ∀ v T' h', Sd l Z n0 y B ml rt R k T' h' (cc + rm.cells) (ss + rm.slots) → Qz v h' → Go k n0 Q kc ks T' pc' Ls (v.toList ++ rest)) : Go k n0 Q kc ks T pc Ls st := by
  subst hp; obtain ⟨⟨locs, Y, N⟩, eh, hx, hZ, hown, hby, hml, hr⟩ := X
  obtain ⟨cl, qa, qb⟩ := E.cell
  obtain ⟨v, _, ⟨T', L', c', n'⟩, -, X', ⟨Lc, hQ, l1, y1, z1⟩, stp⟩ := Y.privateBack hx (y := z) hown (mvT hZ w1) (mvT hZ w6) (mvT hZ w5) (Cond.privateMethod_at (mvP (args := #[]) hZ w2)) (mvT hZ w4) hy (backOf (W := (rest.map fun v => v.category).sum) (Q := fun v h L => Fr n0 L ∧ Qz v h) M hZ w4 w3 hf hlo) (g := mkF (owm k) pc Ls st) rfl (hsz.trans hml.symm) (Steps.refl _) (by rw [eh]; exact qa) qb (argsL := argsL) (rest := rest) (lenOf pd hlen) hst (by show 2 * 0 + _ ≤ _; omega) (Jvm.hb hby hd) (fun _ _ => ⟨rfl, eh, hc, hs⟩)
  dsimp only [Pt.U, Pt.locs, Pt.cells, Pt.slots] at X' l1 y1 z1 stp hQ
  subst l1 y1 z1
  exact (K v T' _ ⟨⟨_, X', N.app hQ.1⟩, rfl, hx, hZ, hown, hby, hml, hr⟩ hQ.2).of fun _ q => stp.trans q
/-! arrays: n places, f says what each holds -/
def AI (Z : State) (h : Heap) (a : Addr) (ty : FieldType) (n : Nat) (f : Nat → Value) : Prop := ∃ c : Cell, Arr Z h a c ty ∧ c.slots.size = n ∧ n < 2147483648 ∧ ∀ i, i < n → c.slots[i]? = some (f i)
theorem AI.lt {a : Addr} {ty : FieldType} {n : Nat} {f : Nat → Value} (A : AI Z h a ty n f) : a < h.size := by obtain ⟨c, A, -⟩ := A; exact A.lt
theorem AI.ext {h' : Heap} {a : Addr} {ty : FieldType} {n : Nat} {f : Nat → Value} (A : AI Z h a ty n f) (E : Ext h h') : AI Z h' a ty n f := by obtain ⟨c, A, r⟩ := A; exact ⟨c, A.ext E, r⟩
theorem AI.other {h' : Heap} {a b : Addr} {sl : Nat} {v : Value} {ty : FieldType} {n : Nat} {f : Nat → Value} (A : AI Z h a ty n f) (W : Wr h h' b sl v) (q : a ≠ b) : AI Z h' a ty n f := by obtain ⟨c, A, r⟩ := A; exact ⟨c, A.other W q, r⟩
theorem AI.keep {h' : Heap} {ws : List Addr} {a : Addr} {ty : FieldType} {n : Nat} {f : Nat → Value} (A : AI Z h a ty n f) (K : Keep h h' ws) (q : a ∉ ws) : AI Z h' a ty n f := by obtain ⟨c, A, r⟩ := A; exact ⟨c, ⟨K.2.1 a c A.1 q, A.2⟩, r⟩
theorem AI.to {a : Addr} {ty : FieldType} {n : Nat} {f g : Nat → Value} (A : AI Z h a ty n f) (e : ∀ i, i < n → f i = g i) : AI Z h a ty n g := by obtain ⟨c, A, r1, r2, r3⟩ := A; exact ⟨c, A, r1, r2, fun i hi => by rw [r3 i hi, e i hi]⟩
theorem AI.set {h' : Heap} {a : Addr} {ty : FieldType} {n i : Nat} {v : Value} {f : Nat → Value} (A : AI Z h a ty n f) (W : Wr h h' a i v) : AI Z h' a ty n (fun j => if j = i then v else f j) := by
  obtain ⟨c, A, r1, r2, r3⟩ := A
  refine ⟨_, A.same W, by rw [sz_set]; exact r1, r2, fun j hj => ?_⟩
  obtain ⟨c', q1, -, q3, -⟩ := W
  cases A.1.symm.trans q1
  by_cases e : j = i
  · subst e; simp [Cell.setSlot, r1, hj]
  · have e' : ¬ i = j := fun z => e z.symm
    simp [Cell.setSlot, Array.getElem?_setIfInBounds, e', e, r3 j hj]
theorem AI.new {a : Addr} {ty : FieldType} {cA : ClassId} {m : Int32} (A : Arr Z h a (newA cA ty m) ty) (q : ¬ m < 0) {n : Nat} (e : m.toInt = n) : AI Z h a ty n (fun _ => defaultValue ty) := by
  have e1 : m.toNatClampNeg = n := by simp [Int32.toNatClampNeg, e]
  have e2 : n < 2147483648 := by have := m.toInt_lt; omega
  refine ⟨_, A, by rw [sz_new]; exact e1, e2, fun i hi => ?_⟩
  simp [newA, e1, hi]
theorem ix_of {j : Int32} {i n : Nat} (hj : j.toInt = i) (hi : i < n) : ¬ (j < 0 ∨ n ≤ j.toNatClampNeg) ∧ j.toNatClampNeg = i := by
  have e1 : j.toNatClampNeg = i := by simp [Int32.toNatClampNeg, hj]
  refine ⟨fun q => ?_, e1⟩
  rcases q with q | q
  · rw [Int32.lt_iff_toInt_lt, hj] at q; simp at q; omega
  · omega
theorem g_iaload (X : Sd l Z n0 y B ml rt R k T h cc ss) {a : Addr} {n : Nat} {f : Nat → Value} (A : AI Z h a .int n f) {j : Int32} (i : Nat) (hj : j.toInt = i) (hi : i < n) (v : Value) (hv : f i = v) (hd : decode B pc = .ok (.iaload, 1)) (pc' : Nat) (hp : pc + 1 = pc') (K : Go k n0 Q kc ks T pc' Ls (v :: st)) : Go k n0 Q kc ks T pc Ls (.int j :: .ref a :: st) := by
  subst hp hv; obtain ⟨⟨locs, Y, N⟩, eh, hx, hZ, hown, hby, hr⟩ := X
  obtain ⟨c, A, r1, r2, r3⟩ := A; obtain ⟨q1, q2⟩ := ix_of hj hi
  exact K.of fun t q => Y.iaload hx (by rw [eh]; exact A.1) (State.isArrayOf_alike hZ.alike A.2.1) A.2.2 (by rw [r1]; exact q1) (by rw [q2]; exact r3 i hi) (g := mkF (owm k) pc Ls (.int j :: .ref a :: st)) rfl rfl (Jvm.hb hby hd) t q
theorem g_baload (X : Sd l Z n0 y B ml rt R k T h cc ss) {a : Addr} {n : Nat} {f : Nat → Value} (A : AI Z h a .byte n f) {j : Int32} (i : Nat) (hj : j.toInt = i) (hi : i < n) (v : Value) (hv : f i = v) (hd : decode B pc = .ok (.baload, 1)) (pc' : Nat) (hp : pc + 1 = pc') (K : Go k n0 Q kc ks T pc' Ls (v :: st)) : Go k n0 Q kc ks T pc Ls (.int j :: .ref a :: st) := by
  subst hp hv; obtain ⟨⟨locs, Y, N⟩, eh, hx, hZ, hown, hby, hr⟩ := X
  obtain ⟨c, A, r1, r2, r3⟩ := A; obtain ⟨q1, q2⟩ := ix_of hj hi
  exact K.of fun t q => Y.baloadBytes hx (by rw [eh]; exact A.1) (State.isArrayOf_alike hZ.alike A.2.1) A.2.2 (by rw [r1]; exact q1) (by rw [q2]; exact r3 i hi) (g := mkF (owm k) pc Ls (.int j :: .ref a :: st)) rfl rfl (Jvm.hb hby hd) t q
theorem g_laload (X : Sd l Z n0 y B ml rt R k T h cc ss) {a : Addr} {n : Nat} {f : Nat → Value} (A : AI Z h a .long n f) {j : Int32} (i : Nat) (hj : j.toInt = i) (hi : i < n) (v : Value) (hv : f i = v) (hd : decode B pc = .ok (.laload, 1)) (pc' : Nat) (hp : pc + 1 = pc') (K : Go k n0 Q kc ks T pc' Ls (v :: st)) : Go k n0 Q kc ks T pc Ls (.int j :: .ref a :: st) := by
  subst hp hv; obtain ⟨⟨locs, Y, N⟩, eh, hx, hZ, hown, hby, hr⟩ := X
  obtain ⟨c, A, r1, r2, r3⟩ := A; obtain ⟨q1, q2⟩ := ix_of hj hi
  exact K.of fun t q => Y.laload hx (by rw [eh]; exact A.1) (State.isArrayOf_alike hZ.alike A.2.1) A.2.2 (by rw [r1]; exact q1) (by rw [q2]; exact r3 i hi) (g := mkF (owm k) pc Ls (.int j :: .ref a :: st)) rfl rfl (Jvm.hb hby hd) t q
theorem g_aaload (X : Sd l Z n0 y B ml rt R k T h cc ss) {a : Addr} {ty : FieldType} {n : Nat} {f : Nat → Value} (A : AI Z h a ty n f) (hty : ty.isReference = true) {j : Int32} (i : Nat) (hj : j.toInt = i) (hi : i < n) (v : Value) (hv : f i = v) (hd : decode B pc = .ok (.aaload, 1)) (pc' : Nat) (hp : pc + 1 = pc') (K : Go k n0 Q kc ks T pc' Ls (v :: st)) : Go k n0 Q kc ks T pc Ls (.int j :: .ref a :: st) := by
  subst hp hv; obtain ⟨⟨locs, Y, N⟩, eh, hx, hZ, hown, hby, hr⟩ := X
  obtain ⟨c, A, r1, r2, r3⟩ := A; obtain ⟨q1, q2⟩ := ix_of hj hi
  exact K.of fun t q => Y.aaload hx (by rw [eh]; exact A.1) (State.isArrayOf_alike hZ.alike A.2.1) hty A.2.2 (by rw [r1]; exact q1) (by rw [q2]; exact r3 i hi) (g := mkF (owm k) pc Ls (.int j :: .ref a :: st)) rfl rfl (Jvm.hb hby hd) t q
theorem g_alen (X : Sd l Z n0 y B ml rt R k T h cc ss) {a : Addr} {ty : FieldType} {n : Nat} {f : Nat → Value} (A : AI Z h a ty n f) (v : Int32) (hv : v.toInt = n) (hd : decode B pc = .ok (.arraylength, 1)) (pc' : Nat) (hp : pc + 1 = pc') (K : Go k n0 Q kc ks T pc' Ls (.int v :: st)) : Go k n0 Q kc ks T pc Ls (.ref a :: st) := by
  subst hp; obtain ⟨⟨locs, Y, N⟩, eh, hx, hZ, hown, hby, hr⟩ := X
  obtain ⟨c, A, r1, r2, r3⟩ := A
  have ev : c.slots.size.toInt32 = v := by
    rw [r1]; apply Int32.toInt_inj.mp; rw [hv]
    show (Int32.ofNat n).toInt = _
    rw [Int32.toInt_ofNat_of_lt (by omega)]
  exact K.of fun t q => Y.arraylength hx (by rw [eh]; exact A.1) (State.isArrayOf_alike hZ.alike A.2.1) (g := mkF (owm k) pc Ls (.ref a :: st)) rfl rfl (Jvm.hb hby hd) t (by rw [ev]; exact q)
theorem g_newP (X : Sd l Z n0 y B ml rt R k T h cc ss) {aty : ArrayType} (w : (Jvm.Cond.arrayClass (newarray.typeOf aty)).before a0 Z = true) {m : Int32} (n cap : Nat) (hm : m.toInt = n) (hn : n ≤ cap) (hb : cap * 8 ≤ 536870912) (hd : decode B pc = .ok (.newarray aty, 2)) (hc : cc + 1 ≤ R.cells) (hl : ss + cap ≤ R.slots) (pc' : Nat) (hp : pc + 2 = pc')
    (K : ∀ T' h' a, Sd l Z n0 y B ml rt R k T' h' (cc + 1) (ss + cap) → a = h.size → Ext h h' → AI Z h' a (newarray.typeOf aty) n (fun _ => defaultValue (newarray.typeOf aty)) → Go k n0 Q kc ks T' pc' Ls (.ref a :: st)) : Go k n0 Q kc ks T pc Ls (.int m :: st) := by
  subst hp; obtain ⟨⟨locs, Y, N⟩, eh, hx, hZ, hown, hby, hr⟩ := X
  have q : ¬ m < 0 := by
    have e : (0 : Int32).toInt = 0 := by decide
    rw [Int32.lt_iff_toInt_lt, hm]; omega
  have e1 : m.toNatClampNeg = n := by simp [Int32.toNatClampNeg, hm]
  obtain ⟨T2, h2, cA, X2, e2, E2, A2, st2⟩ := newP Y hx hZ w eh (g := mkF (owm k) pc Ls (.int m :: st)) rfl (Jvm.hb hby hd) rfl q (cap := cap) (by omega) hb hc hl
  exact (K T2 h2 h.size ⟨⟨locs, X2, N⟩, e2, hx, hZ, hown, hby, hr⟩ rfl E2 (AI.new A2 q hm)).of st2
theorem g_iastore (X : Sd l Z n0 y B ml rt R k T h cc ss) {a : Addr} {n : Nat} {f : Nat → Value} (A : AI Z h a .int n f) {j x : Int32} (i : Nat) (hj : j.toInt = i) (hi : i < n) (g0 : n0 ≤ a) (hd : decode B pc = .ok (.iastore, 1)) (pc' : Nat) (hp : pc + 1 = pc')
    (K : ∀ T' h', Sd l Z n0 y B ml rt R k T' h' cc ss → Wr h h' a i (.int x) → Go k n0 Q kc ks T' pc' Ls st) : Go k n0 Q kc ks T pc Ls (.int x :: .int j :: .ref a :: st) := by
  subst hp; obtain ⟨⟨locs, Y, N⟩, eh, hx, hZ, hown, hby, hr⟩ := X
  obtain ⟨c, A, r1, r2, r3⟩ := A; obtain ⟨q1, q2⟩ := ix_of hj hi
  obtain ⟨T2, h2, X2, e2, W2, st2⟩ := stI Y hx hZ eh A (j := j) (x := x) (by rw [r1]; exact q1) (g := mkF (owm k) pc Ls (.int x :: .int j :: .ref a :: st)) rfl rfl (Jvm.hb hby hd)
  rw [q2] at X2 W2
  exact (K T2 h2 ⟨⟨_, X2, Fr.snoc X2 N g0⟩, e2, hx, hZ, hown, hby, hr⟩ W2).of st2
theorem g_lastore (X : Sd l Z n0 y B ml rt R k T h cc ss) {a : Addr} {n : Nat} {f : Nat → Value} (A : AI Z h a .long n f) {j : Int32} {x : Int64} (i : Nat) (hj : j.toInt = i) (hi : i < n) (g0 : n0 ≤ a) (hd : decode B pc = .ok (.lastore, 1)) (pc' : Nat) (hp : pc + 1 = pc')
    (K : ∀ T' h', Sd l Z n0 y B ml rt R k T' h' cc ss → Wr h h' a i (.long x) → Go k n0 Q kc ks T' pc' Ls st) : Go k n0 Q kc ks T pc Ls (.long x :: .int j :: .ref a :: st) := by
  subst hp; obtain ⟨⟨locs, Y, N⟩, eh, hx, hZ, hown, hby, hr⟩ := X
  obtain ⟨c, A, r1, r2, r3⟩ := A; obtain ⟨q1, q2⟩ := ix_of hj hi
  obtain ⟨T2, h2, X2, e2, W2, st2⟩ := stJ Y hx hZ eh A (j := j) (x := x) (by rw [r1]; exact q1) (g := mkF (owm k) pc Ls (.long x :: .int j :: .ref a :: st)) rfl rfl (Jvm.hb hby hd)
  rw [q2] at X2 W2
  exact (K T2 h2 ⟨⟨_, X2, Fr.snoc X2 N g0⟩, e2, hx, hZ, hown, hby, hr⟩ W2).of st2
theorem g_bastore (X : Sd l Z n0 y B ml rt R k T h cc ss) {a : Addr} {n : Nat} {f : Nat → Value} (A : AI Z h a .byte n f) {j x : Int32} (i : Nat) (hj : j.toInt = i) (hi : i < n) (g0 : n0 ≤ a) (hd : decode B pc = .ok (.bastore, 1)) (pc' : Nat) (hp : pc + 1 = pc')
    (K : ∀ T' h', Sd l Z n0 y B ml rt R k T' h' cc ss → Wr h h' a i (.int x.toInt8.toInt32) → Go k n0 Q kc ks T' pc' Ls st) : Go k n0 Q kc ks T pc Ls (.int x :: .int j :: .ref a :: st) := by
  subst hp; obtain ⟨⟨locs, Y, N⟩, eh, hx, hZ, hown, hby, hr⟩ := X
  obtain ⟨c, A, r1, r2, r3⟩ := A; obtain ⟨q1, q2⟩ := ix_of hj hi
  obtain ⟨T2, h2, X2, e2, W2, st2⟩ := stB Y hx hZ eh A (j := j) (x := x) (by rw [r1]; exact q1) (g := mkF (owm k) pc Ls (.int x :: .int j :: .ref a :: st)) rfl rfl (Jvm.hb hby hd)
  rw [q2] at X2 W2
  exact (K T2 h2 ⟨⟨_, X2, Fr.snoc X2 N g0⟩, e2, hx, hZ, hown, hby, hr⟩ W2).of st2
end Ow
theorem own_b1 : ((1 : Int32) &&& 1) = 1 := by decide
theorem own_b0 : ((0 : Int32) &&& 1) = 0 := by decide
theorem own_one : (some (Value.int ((1 : Int32) &&& 1))) = some (.int 1) := congrArg (fun z => some (Value.int z)) own_b1
theorem w0 {Z : State} {a0 : Array Value} (hw : ∀ d ∈ tables_1, d.before a0 Z = true) : (Jvm.Cond.classLink "com/example/fluxmark/fluxmark/network/BoundAdmitValuePinLaw" (7 : Nat) "com/example/fluxmark/fluxmark/network/Bound").before a0 Z = true := hw _ (List.mem_of_getElem? (i := 0) rfl)
theorem w1 {Z : State} {a0 : Array Value} (hw : ∀ d ∈ tables_1, d.before a0 Z = true) : (Jvm.Cond.instantiable "com/example/fluxmark/fluxmark/network/Bound" (2 : Nat)).before a0 Z = true := hw _ (List.mem_of_getElem? (i := 1) rfl)
theorem w2 {Z : State} {a0 : Array Value} (hw : ∀ d ∈ tables_1, d.before a0 Z = true) : (Jvm.Cond.initialized "com/example/fluxmark/fluxmark/network/Bound").before a0 Z = true := hw _ (List.mem_of_getElem? (i := 2) rfl)
theorem w3 {Z : State} {a0 : Array Value} (hw : ∀ d ∈ tables_1, d.before a0 Z = true) : (Jvm.Cond.methodLink "com/example/fluxmark/fluxmark/network/BoundAdmitValuePinLaw" (9 : Nat) ({ cls := "com/example/fluxmark/fluxmark/network/Bound", name := "<init>", desc := "(JZ)V" } : Jvm.MethodName)).before a0 Z = true := hw _ (List.mem_of_getElem? (i := 3) rfl)
theorem w4 {Z : State} {a0 : Array Value} (hw : ∀ d ∈ tables_1, d.before a0 Z = true) : (Jvm.Cond.instanceMethod ({ cls := "com/example/fluxmark/fluxmark/network/Bound", name := "<init>", desc := "(JZ)V" } : Jvm.MethodName)).before a0 Z = true := hw _ (List.mem_of_getElem? (i := 4) rfl)
theorem w5 {Z : State} {a0 : Array Value} (hw : ∀ d ∈ tables_1, d.before a0 Z = true) : (Jvm.Cond.code ({ cls := "com/example/fluxmark/fluxmark/network/Bound", name := "<init>", desc := "(JZ)V" } : Jvm.MethodName) prog_84_method_1_code (4 : Nat) (Option.none : Option Jvm.ClassFile.FieldType)).before a0 Z = true := hw _ (List.mem_of_getElem? (i := 5) rfl)
theorem w6 {Z : State} {a0 : Array Value} (hw : ∀ d ∈ tables_1, d.before a0 Z = true) : (Jvm.Cond.methodLink "com/example/fluxmark/fluxmark/network/Bound" (1 : Nat) ({ cls := "java/lang/Record", name := "<init>", desc := "()V" } : Jvm.MethodName)).before a0 Z = true := hw _ (List.mem_of_getElem? (i := 6) rfl)
theorem w7 {Z : State} {a0 : Array Value} (hw : ∀ d ∈ tables_1, d.before a0 Z = true) : (Jvm.Cond.instanceMethod ({ cls := "java/lang/Record", name := "<init>", desc := "()V" } : Jvm.MethodName)).before a0 Z = true := hw _ (List.mem_of_getElem? (i := 7) rfl)
theorem w9 {Z : State} {a0 : Array Value} (hw : ∀ d ∈ tables_1, d.before a0 Z = true) : (Jvm.Cond.initialized "java/lang/Record").before a0 Z = true := hw _ (List.mem_of_getElem? (i := 9) rfl)
theorem w10 {Z : State} {a0 : Array Value} (hw : ∀ d ∈ tables_1, d.before a0 Z = true) : (Jvm.Cond.code ({ cls := "java/lang/Record", name := "<init>", desc := "()V" } : Jvm.MethodName) jdk_30_method_1_code (1 : Nat) (Option.none : Option Jvm.ClassFile.FieldType)).before a0 Z = true := hw _ (List.mem_of_getElem? (i := 10) rfl)
theorem w11 {Z : State} {a0 : Array Value} (hw : ∀ d ∈ tables_1, d.before a0 Z = true) : (Jvm.Cond.methodLink "java/lang/Record" (1 : Nat) ({ cls := "java/lang/Object", name := "<init>", desc := "()V" } : Jvm.MethodName)).before a0 Z = true := hw _ (List.mem_of_getElem? (i := 11) rfl)
theorem w12 {Z : State} {a0 : Array Value} (hw : ∀ d ∈ tables_1, d.before a0 Z = true) : (Jvm.Cond.instanceMethod ({ cls := "java/lang/Object", name := "<init>", desc := "()V" } : Jvm.MethodName)).before a0 Z = true := hw _ (List.mem_of_getElem? (i := 12) rfl)
theorem w13 {Z : State} {a0 : Array Value} (hw : ∀ d ∈ tables_1, d.before a0 Z = true) : (Jvm.Cond.code ({ cls := "java/lang/Object", name := "<init>", desc := "()V" } : Jvm.MethodName) object_method_1_code (1 : Nat) (Option.none : Option Jvm.ClassFile.FieldType)).before a0 Z = true := hw _ (List.mem_of_getElem? (i := 13) rfl)
theorem w14 {Z : State} {a0 : Array Value} (hw : ∀ d ∈ tables_1, d.before a0 Z = true) : (Jvm.Cond.fieldLink "com/example/fluxmark/fluxmark/network/Bound" (7 : Nat) "com/example/fluxmark/fluxmark/network/Bound" "value" "J").before a0 Z = true := hw _ (List.mem_of_getElem? (i := 14) rfl)
theorem w15 {Z : State} {a0 : Array Value} (hw : ∀ d ∈ tables_1, d.before a0 Z = true) : (Jvm.Cond.laysFinal "com/example/fluxmark/fluxmark/network/Bound" "com/example/fluxmark/fluxmark/network/Bound" "value" "J").before a0 Z = true := hw _ (List.mem_of_getElem? (i := 15) rfl)
theorem w16 {Z : State} {a0 : Array Value} (hw : ∀ d ∈ tables_1, d.before a0 Z = true) : (Jvm.Cond.fieldLink "com/example/fluxmark/fluxmark/network/Bound" (13 : Nat) "com/example/fluxmark/fluxmark/network/Bound" "strict" "Z").before a0 Z = true := hw _ (List.mem_of_getElem? (i := 16) rfl)
theorem w17 {Z : State} {a0 : Array Value} (hw : ∀ d ∈ tables_1, d.before a0 Z = true) : (Jvm.Cond.laysFinal "com/example/fluxmark/fluxmark/network/Bound" "com/example/fluxmark/fluxmark/network/Bound" "strict" "Z").before a0 Z = true := hw _ (List.mem_of_getElem? (i := 17) rfl)
theorem w18 {Z : State} {a0 : Array Value} (hw : ∀ d ∈ tables_1, d.before a0 Z = true) : (Jvm.Cond.methodLink "com/example/fluxmark/fluxmark/network/BoundAdmitValuePinLaw" (12 : Nat) ({ cls := "com/example/fluxmark/fluxmark/network/Bound", name := "admitValue", desc := "(Lcom/example/fluxmark/fluxmark/network/Bound;Lcom/example/fluxmark/fluxmark/network/Bound;Z)Z" } : Jvm.MethodName)).before a0 Z = true := hw _ (List.mem_of_getElem? (i := 18) rfl)
theorem w19 {Z : State} {a0 : Array Value} (hw : ∀ d ∈ tables_1, d.before a0 Z = true) : (Jvm.Cond.static ({ cls := "com/example/fluxmark/fluxmark/network/Bound", name := "admitValue", desc := "(Lcom/example/fluxmark/fluxmark/network/Bound;Lcom/example/fluxmark/fluxmark/network/Bound;Z)Z" } : Jvm.MethodName)).before a0 Z = true := hw _ (List.mem_of_getElem? (i := 19) rfl)
theorem w20 {Z : State} {a0 : Array Value} (hw : ∀ d ∈ tables_1, d.before a0 Z = true) : (Jvm.Cond.code ({ cls := "com/example/fluxmark/fluxmark/network/Bound", name := "admitValue", desc := "(Lcom/example/fluxmark/fluxmark/network/Bound;Lcom/example/fluxmark/fluxmark/network/Bound;Z)Z" } : Jvm.MethodName) prog_84_method_5_code (4 : Nat) (Option.some Jvm.ClassFile.FieldType.boolean)).before a0 Z = true := hw _ (List.mem_of_getElem? (i := 20) rfl)
theorem w21 {Z : State} {a0 : Array Value} (hw : ∀ d ∈ tables_1, d.before a0 Z = true) : (Jvm.Cond.methodLink "com/example/fluxmark/fluxmark/network/BoundAdmitValuePinLaw" (16 : Nat) ({ cls := "com/example/fluxmark/fluxmark/network/BoundAdmitValuePinLaw", name := "expected", desc := "(JZJZZ)Z" } : Jvm.MethodName)).before a0 Z = true := hw _ (List.mem_of_getElem? (i := 21) rfl)
theorem w22 {Z : State} {a0 : Array Value} (hw : ∀ d ∈ tables_1, d.before a0 Z = true) : (Jvm.Cond.static ({ cls := "com/example/fluxmark/fluxmark/network/BoundAdmitValuePinLaw", name := "expected", desc := "(JZJZZ)Z" } : Jvm.MethodName)).before a0 Z = true := hw _ (List.mem_of_getElem? (i := 22) rfl)
theorem w23 {Z : State} {a0 : Array Value} (hw : ∀ d ∈ tables_1, d.before a0 Z = true) : (Jvm.Cond.initialized "com/example/fluxmark/fluxmark/network/BoundAdmitValuePinLaw").before a0 Z = true := hw _ (List.mem_of_getElem? (i := 23) rfl)
theorem w24 {Z : State} {a0 : Array Value} (hw : ∀ d ∈ tables_1, d.before a0 Z = true) : (Jvm.Cond.code ({ cls := "com/example/fluxmark/fluxmark/network/BoundAdmitValuePinLaw", name := "expected", desc := "(JZJZZ)Z" } : Jvm.MethodName) method_3_code (9 : Nat) (Option.some Jvm.ClassFile.FieldType.boolean)).before a0 Z = true := hw _ (List.mem_of_getElem? (i := 24) rfl)
theorem w25 {Z : State} {a0 : Array Value} (hw : ∀ d ∈ tables_1, d.before a0 Z = true) : (Jvm.Cond.constantLong "com/example/fluxmark/fluxmark/network/BoundAdmitValuePinLaw" (22 : Nat) (9223372036854775807 : Int64)).before a0 Z = true := hw _ (List.mem_of_getElem? (i := 25) rfl)
theorem pd0 : parseMethodDescriptor "()V" = some ⟨[], none⟩ := by decide +kernel
theorem pd1 : parseMethodDescriptor "(JZ)V" = some ⟨[.long, .boolean], none⟩ := by decide +kernel
theorem pd2 : parseMethodDescriptor "(Lcom/example/fluxmark/fluxmark/network/Bound;Lcom/example/fluxmark/fluxmark/network/Bound;Z)Z" = some ⟨[(.object "com/example/fluxmark/fluxmark/network/Bound"), (.object "com/example/fluxmark/fluxmark/network/Bound"), .boolean], some .boolean⟩ := by decide +kernel
theorem pd3 : parseMethodDescriptor "(JZJZZ)Z" = some ⟨[.long, .boolean, .long, .boolean, .boolean], some .boolean⟩ := by decide +kernel
theorem pn0 : Jvm.plainName "java/lang/Record" = true := by first | (simp [Jvm.plainName, overriddenIn]; done) | decide +kernel
theorem pn1 : Jvm.plainName "com/example/fluxmark/fluxmark/network/Bound" = true := by first | (simp [Jvm.plainName, overriddenIn]; done) | decide +kernel
theorem pn2 : Jvm.plainName "com/example/fluxmark/fluxmark/network/BoundAdmitValuePinLaw" = true := by first | (simp [Jvm.plainName, overriddenIn]; done) | decide +kernel
def fAdm (l u : Int64) (sa sb r : Int32) : Int32 := if l < u then (if r = 0 then (if l < u - 1 then 1 else if sa = 0 then 1 else if sb = 0 then 1 else 0) else 1) else if l = u then (if sa = 0 then (if sb = 0 then 1 else 0) else 0) else 0
def fExp (l : Int64) (sa : Int32) (u : Int64) (sb r : Int32) : Int32 := if r = 0 then (if sa = 0 then (if sb = 0 then (if u < l then 0 else 1) else (if l < u then 1 else 0)) else if l = 9223372036854775807 then 0 else (if sb = 0 then (if u < l + 1 then 0 else 1) else (if l + 1 < u then 1 else 0))) else if l < u then 1 else if l = u then (if sa = 0 then (if sb = 0 then 1 else 0) else 0) else 0
theorem own_law (l u : Int64) (sa sb r : Int32) : fAdm l u sa sb r = fExp l sa u sb r := by
  have e : (9223372036854775807 : Int64).toInt = 9223372036854775807 := by decide
  have e1 : (1 : Int64).toInt = 1 := by decide
  have h1 := c_ladd l 1; have h2 := c_lsub u 1
  have r1 := rng64 l; have r2 := rng64 u; have r3 := rng64 (l + 1); have r4 := rng64 (u - 1)
  simp only [fAdm, fExp, Int64.lt_iff_toInt_lt, ← Int64.toInt_inj, e]
  rw [e1] at h1 h2
  by_cases a1 : r = 0 <;> by_cases a2 : sa = 0 <;> by_cases a3 : sb = 0 <;> simp only [a1, a2, a3, if_true, if_false] <;> (repeat' split) <;> first | rfl | omega
theorem own_bit (z : Int32) : (z &&& 1) &&& 1 = z &&& 1 := by rcases and_one z with h | h <;> rw [h] <;> decide
theorem own_z {v : Int32} {P : Prop} [Decidable P] (h : v = if P then (0 : Int32) else 1) : v &&& 1 = v := by subst h; split <;> decide
theorem d1_0 : decode jdk_30_method_1_code 0 = .ok (.aload_n 0, 1) := by decide +kernel
theorem d1_1 : decode jdk_30_method_1_code 1 = .ok (.invokespecial 1, 3) := by decide +kernel
theorem d1_4 : decode jdk_30_method_1_code 4 = .ok (.return_, 1) := by decide +kernel
abbrev Q1 (a : Addr)  (h0 : Heap) : Option Value → Heap → Prop := fun v h => v = none ∧ h0 = h
set_option maxRecDepth 65536 in
set_option maxHeartbeats 40000000 in
theorem rm1 {l : Launch} {Z : State} {a0 : Array Value} (hw : ∀ d ∈ tables_1, d.before a0 Z = true) (n0 : Nat) (a : Addr)  (h0 : Heap)  :
    Met l Z n0 (⟨"java/lang/Record", "<init>", "()V"⟩ : MethodName) jdk_30_method_1_code 1 none [] ({ frames := 1, cells := 0, slots := 0, locals := 12 } : Room) #[(.ref a)] h0 (Q1 a h0) 0 0 := by
  refine Met.of pn0 (Ls := #[.val (.ref a)]) (fun m => by first | rfl | (simp [entryFrame, mkF, argsToLocals, Value.category, maxLocals]; done)) (fun k T0 X0 => ?_)
  refine g_aloadN X0 d1_0 rfl rfl 1 rfl ?_
  refine g_initO X0 (w11 hw) (w12 hw) (w13 hw) rfl (by decide) (Nat.le_of_ble_eq_true rfl) d1_1 4 rfl (fun T1 X1 => ?_)
  exact g_ret X1 d1_4 (by decide) (by decide) ⟨rfl, rfl⟩
theorem d2_0 : decode prog_84_method_1_code 0 = .ok (.aload_n 0, 1) := by decide +kernel
theorem d2_1 : decode prog_84_method_1_code 1 = .ok (.invokespecial 1, 3) := by decide +kernel
theorem d2_4 : decode prog_84_method_1_code 4 = .ok (.aload_n 0, 1) := by decide +kernel
theorem d2_5 : decode prog_84_method_1_code 5 = .ok (.lload_n 1, 1) := by decide +kernel
theorem d2_6 : decode prog_84_method_1_code 6 = .ok (.putfield 7, 3) := by decide +kernel
theorem d2_9 : decode prog_84_method_1_code 9 = .ok (.aload_n 0, 1) := by decide +kernel
theorem d2_10 : decode prog_84_method_1_code 10 = .ok (.iload_n 3, 1) := by decide +kernel
theorem d2_11 : decode prog_84_method_1_code 11 = .ok (.putfield 13, 3) := by decide +kernel
theorem d2_14 : decode prog_84_method_1_code 14 = .ok (.return_, 1) := by decide +kernel
abbrev Q2 (Z : State) (a : Addr) (p : Int64) (q : Int32)  (h0 : Heap) : Option Value → Heap → Prop := fun v h => v = none ∧ Keep h0 h [a] ∧ Fld Z h a "com/example/fluxmark/fluxmark/network/Bound" "value" "J" (.long p) ∧ Fld Z h a "com/example/fluxmark/fluxmark/network/Bound" "strict" "Z" (.int (q &&& 1))
set_option maxRecDepth 65536 in
set_option maxHeartbeats 40000000 in
theorem rm2 {l : Launch} {Z : State} {a0 : Array Value} (hw : ∀ d ∈ tables_1, d.before a0 Z = true) (n0 : Nat) (a : Addr) (p : Int64) (q : Int32)  (h0 : Heap) (Fvalue : Fld Z h0 a "com/example/fluxmark/fluxmark/network/Bound" "value" "J" (.long (0 : Int64))) (Fstrict : Fld Z h0 a "com/example/fluxmark/fluxmark/network/Bound" "strict" "Z" (.int (0 : Int32))) (E : Exa Z h0 a "com/example/fluxmark/fluxmark/network/Bound") (g_a : n0 ≤ a) :
    Met l Z n0 (⟨"com/example/fluxmark/fluxmark/network/Bound", "<init>", "(JZ)V"⟩ : MethodName) prog_84_method_1_code 4 none [] ({ frames := 2, cells := 0, slots := 0, locals := 24 } : Room) #[(.ref a), (.long p), (.int q)] h0 (Q2 Z a p q h0) 0 0 := by
  refine Met.of pn1 (Ls := #[.val (.ref a), .val (.long p), .second, .val (.int q)]) (fun m => by first | rfl | (simp [entryFrame, mkF, argsToLocals, Value.category, maxLocals]; done)) (fun k T0 X0 => ?_)
  have K0 : Keep h0 h0 [a] := Keep.refl _ _
  refine g_aloadN X0 d2_0 rfl rfl 1 rfl ?_
  refine g_callI X0 a [] [] (rm1 hw n0 a h0) rfl (w6 hw) (w7 hw) (w9 hw) (w10 hw) (by decide) pd0 rfl rfl (by decide) (Nat.le_of_ble_eq_true rfl) (by decide) (by decide) d2_1 rfl 4 rfl (fun v1 T1 h1 X1 q1 => ?_)
  obtain ⟨rfl, rfl⟩ := q1
  show Go k n0 (Q2 Z a p q h0) 0 0 T1 4 #[.val (.ref a), .val (.long p), .second, .val (.int q)] []
  refine g_aloadN X1 d2_4 rfl rfl 5 rfl ?_
  refine g_lloadN X1 d2_5 rfl 6 rfl ?_
  refine g_putFin X1 (w14 hw) Fvalue E (w15 hw) rfl rfl (w1 hw) g_a .long (by decide) rfl rfl d2_6 9 rfl (fun T2 h2 X2 W2 => ?_)
  have F2 := Fvalue.same W2
  have K3 : Keep h0 h2 [a] := K0.wr W2 (Or.inl (by simp))
  refine g_aloadN X2 d2_9 rfl rfl 10 rfl ?_
  refine g_iloadN X2 d2_10 rfl 11 rfl ?_
  have ft4 := (E.wr W2)
  have ft5 := (Fstrict.other W2 (Or.inr (slot_ne (Or.inr (w17 hw)) (Or.inr (w15 hw)) (by decide) (t := .boolean) (t' := .long) (by decide) (by decide))))
  refine g_putFinN X2 (w16 hw) (.int (q &&& 1)) ft5 ft4 (w17 hw) rfl rfl (w1 hw) g_a .boolean (by decide) rfl (fits_nar_bool _) d2_11 14 rfl (fun T6 h6 X6 W6 => ?_)
  have F6 := ft5.same W6
  have K7 : Keep h0 h6 [a] := K3.wr W6 (Or.inl (by simp))
  have ft8 := (F2.other W6 (Or.inr (slot_ne (Or.inr (w15 hw)) (Or.inr (w17 hw)) (by decide) (t := .long) (t' := .boolean) (by decide) (by decide))))
  exact g_ret X6 d2_14 (by decide) (by decide) ⟨rfl, K7, ft8, F6⟩
theorem d3_0 : decode prog_84_method_5_code 0 = .ok (.aload_n 0, 1) := by decide +kernel
theorem d3_1 : decode prog_84_method_5_code 1 = .ok (.getfield 7, 3) := by decide +kernel
theorem d3_4 : decode prog_84_method_5_code 4 = .ok (.aload_n 1, 1) := by decide +kernel
theorem d3_5 : decode prog_84_method_5_code 5 = .ok (.getfield 7, 3) := by decide +kernel
theorem d3_8 : decode prog_84_method_5_code 8 = .ok (.lcmp, 1) := by decide +kernel
theorem d3_9 : decode prog_84_method_5_code 9 = .ok (.ifCond .ge 44, 3) := by decide +kernel
theorem d3_12 : decode prog_84_method_5_code 12 = .ok (.iload_n 2, 1) := by decide +kernel
theorem d3_13 : decode prog_84_method_5_code 13 = .ok (.ifCond .ne 31, 3) := by decide +kernel
theorem d3_16 : decode prog_84_method_5_code 16 = .ok (.aload_n 0, 1) := by decide +kernel
theorem d3_17 : decode prog_84_method_5_code 17 = .ok (.getfield 7, 3) := by decide +kernel
theorem d3_20 : decode prog_84_method_5_code 20 = .ok (.aload_n 1, 1) := by decide +kernel
theorem d3_21 : decode prog_84_method_5_code 21 = .ok (.getfield 7, 3) := by decide +kernel
theorem d3_24 : decode prog_84_method_5_code 24 = .ok (.lconst 1, 1) := by decide +kernel
theorem d3_25 : decode prog_84_method_5_code 25 = .ok (.lsub, 1) := by decide +kernel
theorem d3_26 : decode prog_84_method_5_code 26 = .ok (.lcmp, 1) := by decide +kernel
theorem d3_27 : decode prog_84_method_5_code 27 = .ok (.ifCond .lt 17, 3) := by decide +kernel
theorem d3_30 : decode prog_84_method_5_code 30 = .ok (.aload_n 0, 1) := by decide +kernel
theorem d3_31 : decode prog_84_method_5_code 31 = .ok (.getfield 13, 3) := by decide +kernel
theorem d3_34 : decode prog_84_method_5_code 34 = .ok (.ifCond .eq 10, 3) := by decide +kernel
theorem d3_37 : decode prog_84_method_5_code 37 = .ok (.aload_n 1, 1) := by decide +kernel
theorem d3_38 : decode prog_84_method_5_code 38 = .ok (.getfield 13, 3) := by decide +kernel
theorem d3_41 : decode prog_84_method_5_code 41 = .ok (.ifCond .ne 7, 3) := by decide +kernel
theorem d3_44 : decode prog_84_method_5_code 44 = .ok (.iconst 1, 1) := by decide +kernel
theorem d3_45 : decode prog_84_method_5_code 45 = .ok (.goto 4, 3) := by decide +kernel
theorem d3_48 : decode prog_84_method_5_code 48 = .ok (.iconst 0, 1) := by decide +kernel
theorem d3_49 : decode prog_84_method_5_code 49 = .ok (.istore_n 3, 1) := by decide +kernel
theorem d3_50 : decode prog_84_method_5_code 50 = .ok (.goto 35, 3) := by decide +kernel
theorem d3_53 : decode prog_84_method_5_code 53 = .ok (.aload_n 0, 1) := by decide +kernel
theorem d3_54 : decode prog_84_method_5_code 54 = .ok (.getfield 7, 3) := by decide +kernel
theorem d3_57 : decode prog_84_method_5_code 57 = .ok (.aload_n 1, 1) := by decide +kernel
theorem d3_58 : decode prog_84_method_5_code 58 = .ok (.getfield 7, 3) := by decide +kernel
theorem d3_61 : decode prog_84_method_5_code 61 = .ok (.lcmp, 1) := by decide +kernel
theorem d3_62 : decode prog_84_method_5_code 62 = .ok (.ifCond .ne 21, 3) := by decide +kernel
theorem d3_65 : decode prog_84_method_5_code 65 = .ok (.aload_n 0, 1) := by decide +kernel
theorem d3_66 : decode prog_84_method_5_code 66 = .ok (.getfield 13, 3) := by decide +kernel
theorem d3_69 : decode prog_84_method_5_code 69 = .ok (.ifCond .ne 14, 3) := by decide +kernel
theorem d3_72 : decode prog_84_method_5_code 72 = .ok (.aload_n 1, 1) := by decide +kernel
theorem d3_73 : decode prog_84_method_5_code 73 = .ok (.getfield 13, 3) := by decide +kernel
theorem d3_76 : decode prog_84_method_5_code 76 = .ok (.ifCond .ne 7, 3) := by decide +kernel
theorem d3_79 : decode prog_84_method_5_code 79 = .ok (.iconst 1, 1) := by decide +kernel
theorem d3_80 : decode prog_84_method_5_code 80 = .ok (.goto 4, 3) := by decide +kernel
theorem d3_83 : decode prog_84_method_5_code 83 = .ok (.iconst 0, 1) := by decide +kernel
theorem d3_84 : decode prog_84_method_5_code 84 = .ok (.istore_n 3, 1) := by decide +kernel
theorem d3_85 : decode prog_84_method_5_code 85 = .ok (.iload_n 3, 1) := by decide +kernel
theorem d3_86 : decode prog_84_method_5_code 86 = .ok (.ireturn, 1) := by decide +kernel
abbrev Q3 (a : Addr) (b : Addr) (r : Int32) (l' : Int64) (u : Int64) (sa : Int32) (sb : Int32) (h0 : Heap) : Option Value → Heap → Prop := fun v h => v = some (.int (fAdm l' u sa sb r)) ∧ h0 = h
set_option maxRecDepth 65536 in
set_option maxHeartbeats 40000000 in
theorem rm3 {l : Launch} {Z : State} {a0 : Array Value} (hw : ∀ d ∈ tables_1, d.before a0 Z = true) (n0 : Nat) (a : Addr) (b : Addr) (r : Int32) (l' : Int64) (u : Int64) (sa : Int32) (sb : Int32) (h0 : Heap) (Favalue : Fld Z h0 a "com/example/fluxmark/fluxmark/network/Bound" "value" "J" (.long l')) (Fastrict : Fld Z h0 a "com/example/fluxmark/fluxmark/network/Bound" "strict" "Z" (.int sa)) (Fbvalue : Fld Z h0 b "com/example/fluxmark/fluxmark/network/Bound" "value" "J" (.long u)) (Fbstrict : Fld Z h0 b "com/example/fluxmark/fluxmark/network/Bound" "strict" "Z" (.int sb)) :
    Met l Z n0 (⟨"com/example/fluxmark/fluxmark/network/Bound", "admitValue", "(Lcom/example/fluxmark/fluxmark/network/Bound;Lcom/example/fluxmark/fluxmark/network/Bound;Z)Z"⟩ : MethodName) prog_84_method_5_code 4 (some .boolean) [] ({ frames := 0, cells := 0, slots := 0, locals := 0 } : Room) #[(.ref a), (.ref b), (.int r)] h0 (Q3 a b r l' u sa sb h0) 0 0 := by
  refine Met.of pn1 (Ls := #[.val (.ref a), .val (.ref b), .val (.int r), .unset]) (fun m => by first | rfl | (simp [entryFrame, mkF, argsToLocals, Value.category, maxLocals]; done)) (fun k T0 X0 => ?_)
  refine g_aloadN X0 d3_0 rfl rfl 1 rfl ?_
  refine g_getF X0 (w14 hw) Via.refl Favalue d3_1 4 rfl (fun T1 X1 => ?_)
  refine g_aloadN X1 d3_4 rfl rfl 5 rfl ?_
  refine g_getF X1 (w14 hw) Via.refl Fbvalue d3_5 8 rfl (fun T2 X2 => ?_)
  refine g_lcmp X2 d3_8 9 rfl ?_
  refine g_ifN X2 l_ge d3_9 53 (by decide) (by decide) 12 rfl (fun h3 => ?_) (fun h3 => ?_)
  · skip
    refine g_iloadN X2 d3_12 rfl 13 rfl ?_
    refine g_ifN X2 z_ne d3_13 44 (by decide) (by decide) 16 rfl (fun h4 => ?_) (fun h4 => ?_)
    · skip
      refine g_aloadN X2 d3_16 rfl rfl 17 rfl ?_
      refine g_getF X2 (w14 hw) Via.refl Favalue d3_17 20 rfl (fun T5 X5 => ?_)
      refine g_aloadN X5 d3_20 rfl rfl 21 rfl ?_
      refine g_getF X5 (w14 hw) Via.refl Fbvalue d3_21 24 rfl (fun T6 X6 => ?_)
      refine g_lconst X6 (1 : Int64) d3_24 rfl 25 rfl ?_
      refine g_lsub X6 d3_25 26 rfl ?_
      refine g_lcmp X6 d3_26 27 rfl ?_
      refine g_if X6 l_lt d3_27 44 (by decide) (by decide) 30 rfl (fun h7 => ?_) (fun h7 => ?_)
      · skip
        refine g_iconst X6 (1 : Int32) d3_44 rfl 45 rfl ?_
        refine g_goto X6 d3_45 49 (by decide) (by decide) ?_
        refine g_istoreN X6 d3_49 #[.val (.ref a), .val (.ref b), .val (.int r), .val (.int (1 : Int32))] rfl 50 rfl ?_
        refine g_goto X6 d3_50 85 (by decide) (by decide) ?_
        refine g_iloadN X6 d3_85 rfl 86 rfl ?_
        exact g_retZ X6 d3_86 (by decide) (by decide) ⟨by simp [fAdm, own_b0, own_b1, h3, h4, h7], rfl⟩
      · skip
        refine g_aloadN X6 d3_30 rfl rfl 31 rfl ?_
        refine g_getF X6 (w16 hw) Via.refl Fastrict d3_31 34 rfl (fun T8 X8 => ?_)
        refine g_if X8 z_eq d3_34 44 (by decide) (by decide) 37 rfl (fun h9 => ?_) (fun h9 => ?_)
        · skip
          refine g_iconst X8 (1 : Int32) d3_44 rfl 45 rfl ?_
          refine g_goto X8 d3_45 49 (by decide) (by decide) ?_
          refine g_istoreN X8 d3_49 #[.val (.ref a), .val (.ref b), .val (.int r), .val (.int (1 : Int32))] rfl 50 rfl ?_
          refine g_goto X8 d3_50 85 (by decide) (by decide) ?_
          refine g_iloadN X8 d3_85 rfl 86 rfl ?_
          exact g_retZ X8 d3_86 (by decide) (by decide) ⟨by simp [fAdm, own_b0, own_b1, h3, h4, h7, h9], rfl⟩
        · skip
          refine g_aloadN X8 d3_37 rfl rfl 38 rfl ?_
          refine g_getF X8 (w16 hw) Via.refl Fbstrict d3_38 41 rfl (fun T10 X10 => ?_)
          refine g_ifN X10 z_ne d3_41 48 (by decide) (by decide) 44 rfl (fun h11 => ?_) (fun h11 => ?_)
          · skip
            refine g_iconst X10 (1 : Int32) d3_44 rfl 45 rfl ?_
            refine g_goto X10 d3_45 49 (by decide) (by decide) ?_
            refine g_istoreN X10 d3_49 #[.val (.ref a), .val (.ref b), .val (.int r), .val (.int (1 : Int32))] rfl 50 rfl ?_
            refine g_goto X10 d3_50 85 (by decide) (by decide) ?_
            refine g_iloadN X10 d3_85 rfl 86 rfl ?_
            exact g_retZ X10 d3_86 (by decide) (by decide) ⟨by simp [fAdm, own_b0, own_b1, h3, h4, h7, h9, h11], rfl⟩
          · skip
            refine g_iconst X10 (0 : Int32) d3_48 rfl 49 rfl ?_
            refine g_istoreN X10 d3_49 #[.val (.ref a), .val (.ref b), .val (.int r), .val (.int (0 : Int32))] rfl 50 rfl ?_
            refine g_goto X10 d3_50 85 (by decide) (by decide) ?_
            refine g_iloadN X10 d3_85 rfl 86 rfl ?_
            exact g_retZ X10 d3_86 (by decide) (by decide) ⟨by simp [fAdm, own_b0, own_b1, h3, h4, h7, h9, h11], rfl⟩
    · skip
      refine g_iconst X2 (1 : Int32) d3_44 rfl 45 rfl ?_
      refine g_goto X2 d3_45 49 (by decide) (by decide) ?_
      refine g_istoreN X2 d3_49 #[.val (.ref a), .val (.ref b), .val (.int r), .val (.int (1 : Int32))] rfl 50 rfl ?_
      refine g_goto X2 d3_50 85 (by decide) (by decide) ?_
      refine g_iloadN X2 d3_85 rfl 86 rfl ?_
      exact g_retZ X2 d3_86 (by decide) (by decide) ⟨by simp [fAdm, own_b0, own_b1, h3, h4], rfl⟩
  · skip
    refine g_aloadN X2 d3_53 rfl rfl 54 rfl ?_
    refine g_getF X2 (w14 hw) Via.refl Favalue d3_54 57 rfl (fun T12 X12 => ?_)
    refine g_aloadN X12 d3_57 rfl rfl 58 rfl ?_
    refine g_getF X12 (w14 hw) Via.refl Fbvalue d3_58 61 rfl (fun T13 X13 => ?_)
    refine g_lcmp X13 d3_61 62 rfl ?_
    refine g_ifN X13 l_ne d3_62 83 (by decide) (by decide) 65 rfl (fun h14 => ?_) (fun h14 => ?_)
    · skip
      refine g_aloadN X13 d3_65 rfl rfl 66 rfl ?_
      refine g_getF X13 (w16 hw) Via.refl Fastrict d3_66 69 rfl (fun T15 X15 => ?_)
      refine g_ifN X15 z_ne d3_69 83 (by decide) (by decide) 72 rfl (fun h16 => ?_) (fun h16 => ?_)
      · skip
        refine g_aloadN X15 d3_72 rfl rfl 73 rfl ?_
        refine g_getF X15 (w16 hw) Via.refl Fbstrict d3_73 76 rfl (fun T17 X17 => ?_)
        refine g_ifN X17 z_ne d3_76 83 (by decide) (by decide) 79 rfl (fun h18 => ?_) (fun h18 => ?_)
        · skip
          refine g_iconst X17 (1 : Int32) d3_79 rfl 80 rfl ?_
          refine g_goto X17 d3_80 84 (by decide) (by decide) ?_
          refine g_istoreN X17 d3_84 #[.val (.ref a), .val (.ref b), .val (.int r), .val (.int (1 : Int32))] rfl 85 rfl ?_
          refine g_iloadN X17 d3_85 rfl 86 rfl ?_
          exact g_retZ X17 d3_86 (by decide) (by decide) ⟨by simp [fAdm, own_b0, own_b1, h3, h14, h16, h18], rfl⟩
        · skip
          refine g_iconst X17 (0 : Int32) d3_83 rfl 84 rfl ?_
          refine g_istoreN X17 d3_84 #[.val (.ref a), .val (.ref b), .val (.int r), .val (.int (0 : Int32))] rfl 85 rfl ?_
          refine g_iloadN X17 d3_85 rfl 86 rfl ?_
          exact g_retZ X17 d3_86 (by decide) (by decide) ⟨by simp [fAdm, own_b0, own_b1, h3, h14, h16, h18], rfl⟩
      · skip
        refine g_iconst X15 (0 : Int32) d3_83 rfl 84 rfl ?_
        refine g_istoreN X15 d3_84 #[.val (.ref a), .val (.ref b), .val (.int r), .val (.int (0 : Int32))] rfl 85 rfl ?_
        refine g_iloadN X15 d3_85 rfl 86 rfl ?_
        exact g_retZ X15 d3_86 (by decide) (by decide) ⟨by simp [fAdm, own_b0, own_b1, h3, h14, h16], rfl⟩
    · skip
      refine g_iconst X13 (0 : Int32) d3_83 rfl 84 rfl ?_
      refine g_istoreN X13 d3_84 #[.val (.ref a), .val (.ref b), .val (.int r), .val (.int (0 : Int32))] rfl 85 rfl ?_
      refine g_iloadN X13 d3_85 rfl 86 rfl ?_
      exact g_retZ X13 d3_86 (by decide) (by decide) ⟨by simp [fAdm, own_b0, own_b1, h3, h14], rfl⟩
theorem d4_0 : decode method_3_code 0 = .ok (.iload 6, 2) := by decide +kernel
theorem d4_2 : decode method_3_code 2 = .ok (.ifCond .eq 30, 3) := by decide +kernel
theorem d4_5 : decode method_3_code 5 = .ok (.lload_n 0, 1) := by decide +kernel
theorem d4_6 : decode method_3_code 6 = .ok (.lload_n 3, 1) := by decide +kernel
theorem d4_7 : decode method_3_code 7 = .ok (.lcmp, 1) := by decide +kernel
theorem d4_8 : decode method_3_code 8 = .ok (.ifCond .lt 18, 3) := by decide +kernel
theorem d4_11 : decode method_3_code 11 = .ok (.lload_n 0, 1) := by decide +kernel
theorem d4_12 : decode method_3_code 12 = .ok (.lload_n 3, 1) := by decide +kernel
theorem d4_13 : decode method_3_code 13 = .ok (.lcmp, 1) := by decide +kernel
theorem d4_14 : decode method_3_code 14 = .ok (.ifCond .ne 16, 3) := by decide +kernel
theorem d4_17 : decode method_3_code 17 = .ok (.iload_n 2, 1) := by decide +kernel
theorem d4_18 : decode method_3_code 18 = .ok (.ifCond .ne 12, 3) := by decide +kernel
theorem d4_21 : decode method_3_code 21 = .ok (.iload 5, 2) := by decide +kernel
theorem d4_23 : decode method_3_code 23 = .ok (.ifCond .ne 7, 3) := by decide +kernel
theorem d4_26 : decode method_3_code 26 = .ok (.iconst 1, 1) := by decide +kernel
theorem d4_27 : decode method_3_code 27 = .ok (.goto 4, 3) := by decide +kernel
theorem d4_30 : decode method_3_code 30 = .ok (.iconst 0, 1) := by decide +kernel
theorem d4_31 : decode method_3_code 31 = .ok (.ireturn, 1) := by decide +kernel
theorem d4_32 : decode method_3_code 32 = .ok (.iload_n 2, 1) := by decide +kernel
theorem d4_33 : decode method_3_code 33 = .ok (.ifCond .eq 13, 3) := by decide +kernel
theorem d4_36 : decode method_3_code 36 = .ok (.lload_n 0, 1) := by decide +kernel
theorem d4_37 : decode method_3_code 37 = .ok (.ldc2_w 22, 3) := by decide +kernel
theorem d4_40 : decode method_3_code 40 = .ok (.lcmp, 1) := by decide +kernel
theorem d4_41 : decode method_3_code 41 = .ok (.ifCond .ne 5, 3) := by decide +kernel
theorem d4_44 : decode method_3_code 44 = .ok (.iconst 0, 1) := by decide +kernel
theorem d4_45 : decode method_3_code 45 = .ok (.ireturn, 1) := by decide +kernel
theorem d4_46 : decode method_3_code 46 = .ok (.iload_n 2, 1) := by decide +kernel
theorem d4_47 : decode method_3_code 47 = .ok (.ifCond .eq 9, 3) := by decide +kernel
theorem d4_50 : decode method_3_code 50 = .ok (.lload_n 0, 1) := by decide +kernel
theorem d4_51 : decode method_3_code 51 = .ok (.lconst 1, 1) := by decide +kernel
theorem d4_52 : decode method_3_code 52 = .ok (.ladd, 1) := by decide +kernel
theorem d4_53 : decode method_3_code 53 = .ok (.goto 4, 3) := by decide +kernel
theorem d4_56 : decode method_3_code 56 = .ok (.lload_n 0, 1) := by decide +kernel
theorem d4_57 : decode method_3_code 57 = .ok (.lstore 7, 2) := by decide +kernel
theorem d4_59 : decode method_3_code 59 = .ok (.iload 5, 2) := by decide +kernel
theorem d4_61 : decode method_3_code 61 = .ok (.ifCond .eq 16, 3) := by decide +kernel
theorem d4_64 : decode method_3_code 64 = .ok (.lload 7, 2) := by decide +kernel
theorem d4_66 : decode method_3_code 66 = .ok (.lload_n 3, 1) := by decide +kernel
theorem d4_67 : decode method_3_code 67 = .ok (.lcmp, 1) := by decide +kernel
theorem d4_68 : decode method_3_code 68 = .ok (.ifCond .ge 7, 3) := by decide +kernel
theorem d4_71 : decode method_3_code 71 = .ok (.iconst 1, 1) := by decide +kernel
theorem d4_72 : decode method_3_code 72 = .ok (.goto 4, 3) := by decide +kernel
theorem d4_75 : decode method_3_code 75 = .ok (.iconst 0, 1) := by decide +kernel
theorem d4_76 : decode method_3_code 76 = .ok (.ireturn, 1) := by decide +kernel
theorem d4_77 : decode method_3_code 77 = .ok (.lload 7, 2) := by decide +kernel
theorem d4_79 : decode method_3_code 79 = .ok (.lload_n 3, 1) := by decide +kernel
theorem d4_80 : decode method_3_code 80 = .ok (.lcmp, 1) := by decide +kernel
theorem d4_81 : decode method_3_code 81 = .ok (.ifCond .gt 7, 3) := by decide +kernel
theorem d4_84 : decode method_3_code 84 = .ok (.iconst 1, 1) := by decide +kernel
theorem d4_85 : decode method_3_code 85 = .ok (.goto 4, 3) := by decide +kernel
theorem d4_88 : decode method_3_code 88 = .ok (.iconst 0, 1) := by decide +kernel
theorem d4_89 : decode method_3_code 89 = .ok (.ireturn, 1) := by decide +kernel
abbrev Q4 (l' : Int64) (sa : Int32) (u : Int64) (sb : Int32) (r : Int32)  (h0 : Heap) : Option Value → Heap → Prop := fun v h => v = some (.int (fExp l' sa u sb r)) ∧ h0 = h
set_option maxRecDepth 65536 in
set_option maxHeartbeats 40000000 in
theorem rm4 {l : Launch} {Z : State} {a0 : Array Value} (hw : ∀ d ∈ tables_1, d.before a0 Z = true) (n0 : Nat) (l' : Int64) (sa : Int32) (u : Int64) (sb : Int32) (r : Int32)  (h0 : Heap)  :
    Met l Z n0 (⟨"com/example/fluxmark/fluxmark/network/BoundAdmitValuePinLaw", "expected", "(JZJZZ)Z"⟩ : MethodName) method_3_code 9 (some .boolean) [] ({ frames := 0, cells := 0, slots := 0, locals := 0 } : Room) #[(.long l'), (.int sa), (.long u), (.int sb), (.int r)] h0 (Q4 l' sa u sb r h0) 0 0 := by
  refine Met.of pn2 (Ls := #[.val (.long l'), .second, .val (.int sa), .val (.long u), .second, .val (.int sb), .val (.int r), .unset, .unset]) (fun m => by first | rfl | (simp [entryFrame, mkF, argsToLocals, Value.category, maxLocals]; done)) (fun k T0 X0 => ?_)
  refine g_iload X0 d4_0 rfl 2 rfl ?_
  refine g_if X0 z_eq d4_2 32 (by decide) (by decide) 5 rfl (fun h1 => ?_) (fun h1 => ?_)
  · skip
    refine g_iloadN X0 d4_32 rfl 33 rfl ?_
    refine g_if X0 z_eq d4_33 46 (by decide) (by decide) 36 rfl (fun h2 => ?_) (fun h2 => ?_)
    · skip
      refine g_iloadN X0 d4_46 rfl 47 rfl ?_
      refine g_if X0 z_eq d4_47 56 (by decide) (by decide) 50 rfl (fun h3 => ?_) (fun h3 => ?_)
      · skip
        refine g_lloadN X0 d4_56 rfl 57 rfl ?_
        refine g_lstore X0 d4_57 #[.val (.long l'), .second, .val (.int sa), .val (.long u), .second, .val (.int sb), .val (.int r), .val (.long l'), .second] rfl 59 rfl ?_
        refine g_iload X0 d4_59 rfl 61 rfl ?_
        refine g_if X0 z_eq d4_61 77 (by decide) (by decide) 64 rfl (fun h4 => ?_) (fun h4 => ?_)
        · skip
          refine g_lload X0 d4_77 rfl 79 rfl ?_
          refine g_lloadN X0 d4_79 rfl 80 rfl ?_
          refine g_lcmp X0 d4_80 81 rfl ?_
          have k89_1 : ∀ (v5 : Int32), (Q4 l' sa u sb r h0) (some (.int (v5 &&& 1))) h0 → Go k n0 (Q4 l' sa u sb r h0) 0 0 T0 89 #[.val (.long l'), .second, .val (.int sa), .val (.long u), .second, .val (.int sb), .val (.int r), .val (.long l'), .second] [(.int v5)] := by
            intro v5 hQ
            exact g_retZ X0 d4_89 (by decide) (by decide) hQ
          refine g_if X0 l_gt d4_81 88 (by decide) (by decide) 84 rfl (fun h6 => ?_) (fun h6 => ?_)
          · skip
            refine g_iconst X0 (0 : Int32) d4_88 rfl 89 rfl ?_
            exact k89_1 ((0 : Int32)) ⟨by simp [fExp, own_b0, own_b1, h1, h2, h4, h6], rfl⟩
          · skip
            refine g_iconst X0 (1 : Int32) d4_84 rfl 85 rfl ?_
            refine g_goto X0 d4_85 89 (by decide) (by decide) ?_
            exact k89_1 ((1 : Int32)) ⟨by simp [fExp, own_b0, own_b1, h1, h2, h4, h6], rfl⟩
        · skip
          refine g_lload X0 d4_64 rfl 66 rfl ?_
          refine g_lloadN X0 d4_66 rfl 67 rfl ?_
          refine g_lcmp X0 d4_67 68 rfl ?_
          have k76_2 : ∀ (v7 : Int32), (Q4 l' sa u sb r h0) (some (.int (v7 &&& 1))) h0 → Go k n0 (Q4 l' sa u sb r h0) 0 0 T0 76 #[.val (.long l'), .second, .val (.int sa), .val (.long u), .second, .val (.int sb), .val (.int r), .val (.long l'), .second] [(.int v7)] := by
            intro v7 hQ
            exact g_retZ X0 d4_76 (by decide) (by decide) hQ
          refine g_ifN X0 l_ge d4_68 75 (by decide) (by decide) 71 rfl (fun h8 => ?_) (fun h8 => ?_)
          · skip
            refine g_iconst X0 (1 : Int32) d4_71 rfl 72 rfl ?_
            refine g_goto X0 d4_72 76 (by decide) (by decide) ?_
            exact k76_2 ((1 : Int32)) ⟨by simp [fExp, own_b0, own_b1, h1, h2, h4, h8], rfl⟩
          · skip
            refine g_iconst X0 (0 : Int32) d4_75 rfl 76 rfl ?_
            exact k76_2 ((0 : Int32)) ⟨by simp [fExp, own_b0, own_b1, h1, h2, h4, h8], rfl⟩
      · exact absurd h2 h3
    · skip
      refine g_lloadN X0 d4_36 rfl 37 rfl ?_
      refine g_ldc2J X0 (w25 hw) d4_37 40 rfl ?_
      refine g_lcmp X0 d4_40 41 rfl ?_
      refine g_ifN X0 l_ne d4_41 46 (by decide) (by decide) 44 rfl (fun h9 => ?_) (fun h9 => ?_)
      · skip
        refine g_iconst X0 (0 : Int32) d4_44 rfl 45 rfl ?_
        exact g_retZ X0 d4_45 (by decide) (by decide) ⟨by simp [fExp, own_b0, own_b1, h1, h2, h9], rfl⟩
      · skip
        refine g_iloadN X0 d4_46 rfl 47 rfl ?_
        refine g_if X0 z_eq d4_47 56 (by decide) (by decide) 50 rfl (fun h10 => ?_) (fun h10 => ?_)
        · exact absurd h10 h2
        · skip
          refine g_lloadN X0 d4_50 rfl 51 rfl ?_
          refine g_lconst X0 (1 : Int64) d4_51 rfl 52 rfl ?_
          refine g_ladd X0 d4_52 53 rfl ?_
          refine g_goto X0 d4_53 57 (by decide) (by decide) ?_
          refine g_lstore X0 d4_57 #[.val (.long l'), .second, .val (.int sa), .val (.long u), .second, .val (.int sb), .val (.int r), .val (.long (l' + (1 : Int64))), .second] rfl 59 rfl ?_
          refine g_iload X0 d4_59 rfl 61 rfl ?_
          refine g_if X0 z_eq d4_61 77 (by decide) (by decide) 64 rfl (fun h11 => ?_) (fun h11 => ?_)
          · skip
            refine g_lload X0 d4_77 rfl 79 rfl ?_
            refine g_lloadN X0 d4_79 rfl 80 rfl ?_
            refine g_lcmp X0 d4_80 81 rfl ?_
            have k89_3 : ∀ (v12 : Int32), (Q4 l' sa u sb r h0) (some (.int (v12 &&& 1))) h0 → Go k n0 (Q4 l' sa u sb r h0) 0 0 T0 89 #[.val (.long l'), .second, .val (.int sa), .val (.long u), .second, .val (.int sb), .val (.int r), .val (.long (l' + (1 : Int64))), .second] [(.int v12)] := by
              intro v12 hQ
              exact g_retZ X0 d4_89 (by decide) (by decide) hQ
            refine g_if X0 l_gt d4_81 88 (by decide) (by decide) 84 rfl (fun h13 => ?_) (fun h13 => ?_)
            · skip
              refine g_iconst X0 (0 : Int32) d4_88 rfl 89 rfl ?_
              exact k89_3 ((0 : Int32)) ⟨by simp [fExp, own_b0, own_b1, h1, h2, h9, h11, h13], rfl⟩
            · skip
              refine g_iconst X0 (1 : Int32) d4_84 rfl 85 rfl ?_
              refine g_goto X0 d4_85 89 (by decide) (by decide) ?_
              exact k89_3 ((1 : Int32)) ⟨by simp [fExp, own_b0, own_b1, h1, h2, h9, h11, h13], rfl⟩
          · skip
            refine g_lload X0 d4_64 rfl 66 rfl ?_
            refine g_lloadN X0 d4_66 rfl 67 rfl ?_
            refine g_lcmp X0 d4_67 68 rfl ?_
            have k76_4 : ∀ (v14 : Int32), (Q4 l' sa u sb r h0) (some (.int (v14 &&& 1))) h0 → Go k n0 (Q4 l' sa u sb r h0) 0 0 T0 76 #[.val (.long l'), .second, .val (.int sa), .val (.long u), .second, .val (.int sb), .val (.int r), .val (.long (l' + (1 : Int64))), .second] [(.int v14)] := by
              intro v14 hQ
              exact g_retZ X0 d4_76 (by decide) (by decide) hQ
            refine g_ifN X0 l_ge d4_68 75 (by decide) (by decide) 71 rfl (fun h15 => ?_) (fun h15 => ?_)
            · skip
              refine g_iconst X0 (1 : Int32) d4_71 rfl 72 rfl ?_
              refine g_goto X0 d4_72 76 (by decide) (by decide) ?_
              exact k76_4 ((1 : Int32)) ⟨by simp [fExp, own_b0, own_b1, h1, h2, h9, h11, h15], rfl⟩
            · skip
              refine g_iconst X0 (0 : Int32) d4_75 rfl 76 rfl ?_
              exact k76_4 ((0 : Int32)) ⟨by simp [fExp, own_b0, own_b1, h1, h2, h9, h11, h15], rfl⟩
  · skip
    refine g_lloadN X0 d4_5 rfl 6 rfl ?_
    refine g_lloadN X0 d4_6 rfl 7 rfl ?_
    refine g_lcmp X0 d4_7 8 rfl ?_
    have k31_5 : ∀ (v16 : Int32), (Q4 l' sa u sb r h0) (some (.int (v16 &&& 1))) h0 → Go k n0 (Q4 l' sa u sb r h0) 0 0 T0 31 #[.val (.long l'), .second, .val (.int sa), .val (.long u), .second, .val (.int sb), .val (.int r), .unset, .unset] [(.int v16)] := by
      intro v16 hQ
      exact g_retZ X0 d4_31 (by decide) (by decide) hQ
    refine g_if X0 l_lt d4_8 26 (by decide) (by decide) 11 rfl (fun h17 => ?_) (fun h17 => ?_)
    · skip
      refine g_iconst X0 (1 : Int32) d4_26 rfl 27 rfl ?_
      refine g_goto X0 d4_27 31 (by decide) (by decide) ?_
      exact k31_5 ((1 : Int32)) ⟨by simp [fExp, own_b0, own_b1, h1, h17], rfl⟩
    · skip
      refine g_lloadN X0 d4_11 rfl 12 rfl ?_
      refine g_lloadN X0 d4_12 rfl 13 rfl ?_
      refine g_lcmp X0 d4_13 14 rfl ?_
      refine g_ifN X0 l_ne d4_14 30 (by decide) (by decide) 17 rfl (fun h18 => ?_) (fun h18 => ?_)
      · skip
        refine g_iloadN X0 d4_17 rfl 18 rfl ?_
        refine g_ifN X0 z_ne d4_18 30 (by decide) (by decide) 21 rfl (fun h19 => ?_) (fun h19 => ?_)
        · skip
          refine g_iload X0 d4_21 rfl 23 rfl ?_
          refine g_ifN X0 z_ne d4_23 30 (by decide) (by decide) 26 rfl (fun h20 => ?_) (fun h20 => ?_)
          · skip
            refine g_iconst X0 (1 : Int32) d4_26 rfl 27 rfl ?_
            refine g_goto X0 d4_27 31 (by decide) (by decide) ?_
            exact k31_5 ((1 : Int32)) ⟨by simp [fExp, own_b0, own_b1, h1, h17, h18, h19, h20], rfl⟩
          · skip
            refine g_iconst X0 (0 : Int32) d4_30 rfl 31 rfl ?_
            exact k31_5 ((0 : Int32)) ⟨by simp [fExp, own_b0, own_b1, h1, h17, h18, h19, h20], rfl⟩
        · skip
          refine g_iconst X0 (0 : Int32) d4_30 rfl 31 rfl ?_
          exact k31_5 ((0 : Int32)) ⟨by simp [fExp, own_b0, own_b1, h1, h17, h18, h19], rfl⟩
      · skip
        refine g_iconst X0 (0 : Int32) d4_30 rfl 31 rfl ?_
        exact k31_5 ((0 : Int32)) ⟨by simp [fExp, own_b0, own_b1, h1, h17, h18], rfl⟩
abbrev Q0 (lo : Int64) (up : Int64) (fl : Int32)  (h0 : Heap) : Option Value → Heap → Prop := fun v h => v = some (.int 1)
set_option maxRecDepth 65536 in
set_option maxHeartbeats 40000000 in
theorem rm0 {l : Launch} {Z : State} {a0 : Array Value} (hw : ∀ d ∈ tables_1, d.before a0 Z = true) (n0 : Nat) (lo : Int64) (up : Int64) (fl : Int32)  (h0 : Heap) (Z0 : n0 ≤ h0.size)  :
    Met l Z n0 x code maxLocals ret tables_1 room_1 #[(.long lo), (.long up), (.int fl)] h0 (Q0 lo up fl h0) 16 128 := by
  refine Met.of pn2 (Ls := #[.val (.long lo), .second, .val (.long up), .second, .val (.int fl), .unset, .unset, .unset, .unset, .unset, .unset, .unset, .unset]) (fun m => by first | rfl | (simp [entryFrame, mkF, argsToLocals, Value.category, maxLocals]; done)) (fun k T0 X0 => ?_)
  refine g_iload X0 at_0 rfl 2 rfl ?_
  refine g_iconst X0 (1 : Int32) at_2 rfl 3 rfl ?_
  refine g_iand X0 at_3 4 rfl ?_
  have k12_6 : ∀ (v1 : Int32), v1 = (if (fl &&& (1 : Int32)) = 0 then (0 : Int32) else (1 : Int32)) → Go k n0 (Q0 lo up fl h0) 16 128 T0 12 #[.val (.long lo), .second, .val (.long up), .second, .val (.int fl), .unset, .unset, .unset, .unset, .unset, .unset, .unset, .unset] [(.int v1)] := by
    intro v1 hv1
    refine g_istore X0 at_12 #[.val (.long lo), .second, .val (.long up), .second, .val (.int fl), .val (.int v1), .unset, .unset, .unset, .unset, .unset, .unset, .unset] rfl 14 rfl ?_
    refine g_iload X0 at_14 rfl 16 rfl ?_
    refine g_iconst X0 (2 : Int32) at_16 rfl 17 rfl ?_
    refine g_iand X0 at_17 18 rfl ?_
    have k26_7 : ∀ (v2 : Int32), v2 = (if (fl &&& (2 : Int32)) = 0 then (0 : Int32) else (1 : Int32)) → Go k n0 (Q0 lo up fl h0) 16 128 T0 26 #[.val (.long lo), .second, .val (.long up), .second, .val (.int fl), .val (.int v1), .unset, .unset, .unset, .unset, .unset, .unset, .unset] [(.int v2)] := by
      intro v2 hv2
      refine g_istore X0 at_26 #[.val (.long lo), .second, .val (.long up), .second, .val (.int fl), .val (.int v1), .val (.int v2), .unset, .unset, .unset, .unset, .unset, .unset] rfl 28 rfl ?_
      refine g_iload X0 at_28 rfl 30 rfl ?_
      refine g_iconst X0 (4 : Int32) at_30 rfl 31 rfl ?_
      refine g_iand X0 at_31 32 rfl ?_
      have k40_8 : ∀ (v3 : Int32), v3 = (if (fl &&& (4 : Int32)) = 0 then (0 : Int32) else (1 : Int32)) → Go k n0 (Q0 lo up fl h0) 16 128 T0 40 #[.val (.long lo), .second, .val (.long up), .second, .val (.int fl), .val (.int v1), .val (.int v2), .unset, .unset, .unset, .unset, .unset, .unset] [(.int v3)] := by
        intro v3 hv3
        refine g_istore X0 at_40 #[.val (.long lo), .second, .val (.long up), .second, .val (.int fl), .val (.int v1), .val (.int v2), .val (.int v3), .unset, .unset, .unset, .unset, .unset] rfl 42 rfl ?_
        refine g_iload X0 at_42 rfl 44 rfl ?_
        refine g_bipush X0 (8 : Int32) at_44 rfl 46 rfl ?_
        refine g_iand X0 at_46 47 rfl ?_
        have k66_9 : ∀ (v4 : Int64), v4 = (if (fl &&& (8 : Int32)) = 0 then (lo + ((((fl.toUInt32 >>> ((4 : Int32) &&& 31).toUInt32).toInt32) &&& (7 : Int32)) - (3 : Int32)).toInt64) else up) → Go k n0 (Q0 lo up fl h0) 16 128 T0 66 #[.val (.long lo), .second, .val (.long up), .second, .val (.int fl), .val (.int v1), .val (.int v2), .val (.int v3), .unset, .unset, .unset, .unset, .unset] [(.long v4)] := by
          intro v4 hv4
          refine g_lstore X0 at_66 #[.val (.long lo), .second, .val (.long up), .second, .val (.int fl), .val (.int v1), .val (.int v2), .val (.int v3), .val (.long v4), .second, .unset, .unset, .unset] rfl 68 rfl ?_
          refine g_new X0 (w0 hw) (w1 hw) (w2 hw) at_68 (by decide) (by decide) 71 rfl (fun T5 h5 b5 X5 g5 E5 A5 D5 => ?_)
          have g_b5 : n0 ≤ b5 := Nat.le_trans Z0 (Nat.le_of_eq g5.symm)
          have z6 : n0 ≤ h5.size := Nat.le_trans Z0 E5.1
          have F7 : Fld Z h5 b5 "com/example/fluxmark/fluxmark/network/Bound" "value" "J" (.long (0 : Int64)) := D5 (Or.inr (w15 hw)) (ty := .long) (by decide)
          have F8 : Fld Z h5 b5 "com/example/fluxmark/fluxmark/network/Bound" "strict" "Z" (.int (0 : Int32)) := D5 (Or.inr (w17 hw)) (ty := .boolean) (by decide)
          refine g_dup X5 at_71 rfl 72 rfl ?_
          refine g_lloadN X5 at_72 rfl 73 rfl ?_
          refine g_iload X5 at_73 rfl 75 rfl ?_
          refine g_callI X5 b5 [(.long lo), (.int v2)] [(.ref b5)] (rm2 hw n0 b5 lo v2 h5 F7 F8 A5 g_b5) rfl (w3 hw) (w4 hw) (w2 hw) (w5 hw) (by decide) pd1 rfl rfl (by decide) (Nat.le_of_ble_eq_true rfl) (by decide) (by decide) at_75 rfl 78 rfl (fun v9 T9 h9 X9 q9 => ?_)
          obtain ⟨rfl, K9, F9_0, F9_1⟩ := q9
          have z10 : n0 ≤ h9.size := Nat.le_trans z6 K9.1
          show Go k n0 (Q0 lo up fl h0) 16 128 T9 78 #[.val (.long lo), .second, .val (.long up), .second, .val (.int fl), .val (.int v1), .val (.int v2), .val (.int v3), .val (.long v4), .second, .unset, .unset, .unset] [(.ref b5)]
          refine g_astore X9 at_78 rfl #[.val (.long lo), .second, .val (.long up), .second, .val (.int fl), .val (.int v1), .val (.int v2), .val (.int v3), .val (.long v4), .second, .val (.ref b5), .unset, .unset] rfl 80 rfl ?_
          refine g_new X9 (w0 hw) (w1 hw) (w2 hw) at_80 (by decide) (by decide) 83 rfl (fun T11 h11 b11 X11 g11 E11 A11 D11 => ?_)
          have ft12 := (A5.keep K9)
          have ne13 : b5 ≠ b11 := Nat.ne_of_lt (Nat.lt_of_lt_of_le ft12.lt (Nat.le_of_eq g11.symm))
          have g_b11 : n0 ≤ b11 := Nat.le_trans z10 (Nat.le_of_eq g11.symm)
          have z14 : n0 ≤ h11.size := Nat.le_trans z10 E11.1
          have F15 : Fld Z h11 b11 "com/example/fluxmark/fluxmark/network/Bound" "value" "J" (.long (0 : Int64)) := D11 (Or.inr (w15 hw)) (ty := .long) (by decide)
          have F16 : Fld Z h11 b11 "com/example/fluxmark/fluxmark/network/Bound" "strict" "Z" (.int (0 : Int32)) := D11 (Or.inr (w17 hw)) (ty := .boolean) (by decide)
          refine g_dup X11 at_83 rfl 84 rfl ?_
          refine g_lload X11 at_84 rfl 86 rfl ?_
          refine g_iload X11 at_86 rfl 88 rfl ?_
          refine g_callI X11 b11 [(.long v4), (.int v3)] [(.ref b11)] (rm2 hw n0 b11 v4 v3 h11 F15 F16 A11 g_b11) rfl (w3 hw) (w4 hw) (w2 hw) (w5 hw) (by decide) pd1 rfl rfl (by decide) (Nat.le_of_ble_eq_true rfl) (by decide) (by decide) at_88 rfl 91 rfl (fun v17 T17 h17 X17 q17 => ?_)
          obtain ⟨rfl, K17, F17_0, F17_1⟩ := q17
          have z18 : n0 ≤ h17.size := Nat.le_trans z14 K17.1
          show Go k n0 (Q0 lo up fl h0) 16 128 T17 91 #[.val (.long lo), .second, .val (.long up), .second, .val (.int fl), .val (.int v1), .val (.int v2), .val (.int v3), .val (.long v4), .second, .val (.ref b5), .unset, .unset] [(.ref b11)]
          refine g_astore X17 at_91 rfl #[.val (.long lo), .second, .val (.long up), .second, .val (.int fl), .val (.int v1), .val (.int v2), .val (.int v3), .val (.long v4), .second, .val (.ref b5), .val (.ref b11), .unset] rfl 93 rfl ?_
          refine g_aload X17 at_93 rfl rfl 95 rfl ?_
          refine g_aload X17 at_95 rfl rfl 97 rfl ?_
          refine g_iload X17 at_97 rfl 99 rfl ?_
          have ft19 := ((F9_0.ext E11).keep K17 (ninS ne13 nin0))
          have ft20 := ((F9_1.ext E11).keep K17 (ninS ne13 nin0))
          refine g_callS X17 [(.ref b5), (.ref b11), (.int v1)] [] (rm3 hw n0 b5 b11 v1 lo v4 (v2 &&& 1) (v3 &&& 1) h17 ft19 ft20 F17_0 F17_1) (w18 hw) (w19 hw) (w2 hw) (w20 hw) (by decide) pd2 rfl rfl (by decide) (Nat.le_of_ble_eq_true rfl) (by decide) (by decide) at_99 rfl 102 rfl (fun v21 T21 h21 X21 q21 => ?_)
          obtain ⟨rfl, rfl⟩ := q21
          show Go k n0 (Q0 lo up fl h0) 16 128 T21 102 #[.val (.long lo), .second, .val (.long up), .second, .val (.int fl), .val (.int v1), .val (.int v2), .val (.int v3), .val (.long v4), .second, .val (.ref b5), .val (.ref b11), .unset] [(.int (fAdm lo v4 (v2 &&& 1) (v3 &&& 1) v1))]
          refine g_istore X21 at_102 #[.val (.long lo), .second, .val (.long up), .second, .val (.int fl), .val (.int v1), .val (.int v2), .val (.int v3), .val (.long v4), .second, .val (.ref b5), .val (.ref b11), .val (.int (fAdm lo v4 (v2 &&& 1) (v3 &&& 1) v1))] rfl 104 rfl ?_
          refine g_iload X21 at_104 rfl 106 rfl ?_
          refine g_lloadN X21 at_106 rfl 107 rfl ?_
          refine g_iload X21 at_107 rfl 109 rfl ?_
          refine g_lload X21 at_109 rfl 111 rfl ?_
          refine g_iload X21 at_111 rfl 113 rfl ?_
          refine g_iload X21 at_113 rfl 115 rfl ?_
          refine g_callS X21 [(.long lo), (.int v2), (.long v4), (.int v3), (.int v1)] [(.int (fAdm lo v4 (v2 &&& 1) (v3 &&& 1) v1))] (rm4 hw n0 lo v2 v4 v3 v1 h17) (w21 hw) (w22 hw) (w23 hw) (w24 hw) (by decide) pd3 rfl rfl (by decide) (Nat.le_of_ble_eq_true rfl) (by decide) (by decide) at_115 rfl 118 rfl (fun v22 T22 h22 X22 q22 => ?_)
          obtain ⟨rfl, rfl⟩ := q22
          show Go k n0 (Q0 lo up fl h0) 16 128 T22 118 #[.val (.long lo), .second, .val (.long up), .second, .val (.int fl), .val (.int v1), .val (.int v2), .val (.int v3), .val (.long v4), .second, .val (.ref b5), .val (.ref b11), .val (.int (fAdm lo v4 (v2 &&& 1) (v3 &&& 1) v1))] [(.int (fExp lo v2 v4 v3 v1)), (.int (fAdm lo v4 (v2 &&& 1) (v3 &&& 1) v1))]
          have k126_10 : ∀ (v23 : Int32), (Q0 lo up fl h0) (some (.int (v23 &&& 1))) h17 → Go k n0 (Q0 lo up fl h0) 16 128 T22 126 #[.val (.long lo), .second, .val (.long up), .second, .val (.int fl), .val (.int v1), .val (.int v2), .val (.int v3), .val (.long v4), .second, .val (.ref b5), .val (.ref b11), .val (.int (fAdm lo v4 (v2 &&& 1) (v3 &&& 1) v1))] [(.int v23)] := by
            intro v23 hQ
            exact g_retZ X22 at_126 (by decide) (by decide) hQ
          refine g_icmpN X22 i_ne at_118 125 (by decide) (by decide) 121 rfl (fun h24 => ?_) (fun h24 => ?_)
          · skip
            refine g_iconst X22 (1 : Int32) at_121 rfl 122 rfl ?_
            refine g_goto X22 at_122 126 (by decide) (by decide) ?_
            exact k126_10 ((1 : Int32)) own_one
          · skip
            refine g_iconst X22 (0 : Int32) at_125 rfl 126 rfl ?_
            exact k126_10 ((0 : Int32)) (absurd (by rw [own_z hv2, own_z hv3]; exact own_law _ _ _ _ _) h24)
        refine g_if X0 z_eq at_47 54 (by decide) (by decide) 50 rfl (fun h25 => ?_) (fun h25 => ?_)
        · skip
          refine g_lloadN X0 at_54 rfl 55 rfl ?_
          refine g_iload X0 at_55 rfl 57 rfl ?_
          refine g_iconst X0 (4 : Int32) at_57 rfl 58 rfl ?_
          refine g_iushr X0 at_58 59 rfl ?_
          refine g_bipush X0 (7 : Int32) at_59 rfl 61 rfl ?_
          refine g_iand X0 at_61 62 rfl ?_
          refine g_iconst X0 (3 : Int32) at_62 rfl 63 rfl ?_
          refine g_isub X0 at_63 64 rfl ?_
          refine g_i2l X0 at_64 65 rfl ?_
          refine g_ladd X0 at_65 66 rfl ?_
          exact k66_9 ((lo + ((((fl.toUInt32 >>> ((4 : Int32) &&& 31).toUInt32).toInt32) &&& (7 : Int32)) - (3 : Int32)).toInt64)) (by first | (simp only [h25, if_true, if_false, true_or, or_true, true_and, and_true, not_true_eq_false, not_false_eq_true, false_or, or_false, false_and, and_false]; done) | (simp only [h25, hv1, hv2, hv3, if_true, if_false, true_or, or_true, true_and, and_true, not_true_eq_false, not_false_eq_true, false_or, or_false, false_and, and_false]; done))
        · skip
          refine g_lloadN X0 at_50 rfl 51 rfl ?_
          refine g_goto X0 at_51 66 (by decide) (by decide) ?_
          exact k66_9 (up) (by first | (simp only [h25, if_true, if_false, true_or, or_true, true_and, and_true, not_true_eq_false, not_false_eq_true, false_or, or_false, false_and, and_false]; done) | (simp only [h25, hv1, hv2, hv3, if_true, if_false, true_or, or_true, true_and, and_true, not_true_eq_false, not_false_eq_true, false_or, or_false, false_and, and_false]; done))
      refine g_if X0 z_eq at_32 39 (by decide) (by decide) 35 rfl (fun h26 => ?_) (fun h26 => ?_)
      · skip
        refine g_iconst X0 (0 : Int32) at_39 rfl 40 rfl ?_
        exact k40_8 ((0 : Int32)) (by first | (simp only [h26, if_true, if_false, true_or, or_true, true_and, and_true, not_true_eq_false, not_false_eq_true, false_or, or_false, false_and, and_false]; done) | (simp only [h26, hv1, hv2, if_true, if_false, true_or, or_true, true_and, and_true, not_true_eq_false, not_false_eq_true, false_or, or_false, false_and, and_false]; done))
      · skip
        refine g_iconst X0 (1 : Int32) at_35 rfl 36 rfl ?_
        refine g_goto X0 at_36 40 (by decide) (by decide) ?_
        exact k40_8 ((1 : Int32)) (by first | (simp only [h26, if_true, if_false, true_or, or_true, true_and, and_true, not_true_eq_false, not_false_eq_true, false_or, or_false, false_and, and_false]; done) | (simp only [h26, hv1, hv2, if_true, if_false, true_or, or_true, true_and, and_true, not_true_eq_false, not_false_eq_true, false_or, or_false, false_and, and_false]; done))
    refine g_if X0 z_eq at_18 25 (by decide) (by decide) 21 rfl (fun h27 => ?_) (fun h27 => ?_)
    · skip
      refine g_iconst X0 (0 : Int32) at_25 rfl 26 rfl ?_
      exact k26_7 ((0 : Int32)) (by first | (simp only [h27, if_true, if_false, true_or, or_true, true_and, and_true, not_true_eq_false, not_false_eq_true, false_or, or_false, false_and, and_false]; done) | (simp only [h27, hv1, if_true, if_false, true_or, or_true, true_and, and_true, not_true_eq_false, not_false_eq_true, false_or, or_false, false_and, and_false]; done))
    · skip
      refine g_iconst X0 (1 : Int32) at_21 rfl 22 rfl ?_
      refine g_goto X0 at_22 26 (by decide) (by decide) ?_
      exact k26_7 ((1 : Int32)) (by first | (simp only [h27, if_true, if_false, true_or, or_true, true_and, and_true, not_true_eq_false, not_false_eq_true, false_or, or_false, false_and, and_false]; done) | (simp only [h27, hv1, if_true, if_false, true_or, or_true, true_and, and_true, not_true_eq_false, not_false_eq_true, false_or, or_false, false_and, and_false]; done))
  refine g_if X0 z_eq at_4 11 (by decide) (by decide) 7 rfl (fun h28 => ?_) (fun h28 => ?_)
  · skip
    refine g_iconst X0 (0 : Int32) at_11 rfl 12 rfl ?_
    exact k12_6 ((0 : Int32)) (by first | (simp only [h28, if_true, if_false, true_or, or_true, true_and, and_true, not_true_eq_false, not_false_eq_true, false_or, or_false, false_and, and_false]; done) | (simp only [h28, if_true, if_false, true_or, or_true, true_and, and_true, not_true_eq_false, not_false_eq_true, false_or, or_false, false_and, and_false]; done))
  · skip
    refine g_iconst X0 (1 : Int32) at_7 rfl 8 rfl ?_
    refine g_goto X0 at_8 12 (by decide) (by decide) ?_
    exact k12_6 ((1 : Int32)) (by first | (simp only [h28, if_true, if_false, true_or, or_true, true_and, and_true, not_true_eq_false, not_false_eq_true, false_or, or_false, false_and, and_false]; done) | (simp only [h28, if_true, if_false, true_or, or_true, true_and, and_true, not_true_eq_false, not_false_eq_true, false_or, or_false, false_and, and_false]; done))
set_option maxRecDepth 65536 in
set_option maxHeartbeats 40000000 in
theorem comes_1 {Post : Tables → Env → Array Value → State → Outcome → State → Prop} (hpost : ∀ tb e args s v u, (limb_1_1.after args s (.returned v) u = true ∧ limb_1_2.after args s (.returned v) u = true ∧ True) → FrameEnd s (.returned v) u (Jvm.fieldLocs frame_1_writes args s ++ Jvm.arrayLocs frame_1_arrays args s ++ Jvm.staticLocs frame_1_statics s) 16 128 → Post tb e args s (.returned v) u) :
    ArmFor flags0 classFile x code maxLocals ret World_1 tables_1 room_1 Calls_1 rest_1 Pre_1 Post := by
  intro l hfl _ _ p e ha hc hk s m args below hf hA hF happ hP
  obtain ⟨hcalls, hrest, hpre⟩ := hP
  obtain ⟨-, -, -, hnamed, -, -, -, hat⟩ := (Spec.applies_iff hf).mp happ
  obtain ⟨hg, hn⟩ := and_e (Cond.before_iff.mp (show (Jvm.Cond.and given_1 narrow_1).before args s = true from hpre))
  obtain ⟨hcount, g0⟩ := and_e hg
  obtain ⟨q0, g1⟩ := and_e g0
  obtain ⟨q1, g2⟩ := and_e g1
  have q2 := g2
  obtain ⟨w0, w1, w2, rfl⟩ : ∃ w0 w1 w2 : Value, args = #[w0, w1, w2] := by
    have hs : args.size = 3 := by simpa [Cond.value, given_1] using hcount
    obtain ⟨L⟩ := args
    match L, hs with
    | [w0, w1, w2], _ => exact ⟨w0, w1, w2, rfl⟩
  have hw := fun d (hd : d ∈ tables_1) => atoms_spec (ws := Jvm.Cond.code x code maxLocals ret :: tables_1) hat d (List.mem_cons_of_mem _ hd)
  have hfit : Fit s := fun {y c} hc i hi => by
    obtain ⟨ha, rfl⟩ := Array.getElem?_eq_some_iff.mp hc
    have q := List.all_eq_true.mp ((Array.all_eq_true_iff_forall_mem.mp hF) _ (Array.getElem_mem ha)) i (List.mem_range.mpr hi)
    simpa [Array.getElem?_eq_getElem hi] using q
  obtain ⟨i0, e0⟩ := isL_v q0
  obtain rfl : w0 = (.long i0) := Option.some.inj e0
  obtain ⟨i1, e1⟩ := isL_v q1
  obtain rfl : w1 = (.long i1) := Option.some.inj e1
  obtain ⟨i2, e2⟩ := is_v q2
  obtain rfl : w2 = (.int i2) := Option.some.inj e2
  obtain ⟨n, o, h1, h2, h3, v, L, rfl, ⟨N, hQ⟩, hq⟩ := rm0 (l := l) hw s.heap.size i0 i1 i2 s.heap (Nat.le_refl _) p e ha hc hk s m _ below hf ((Spec.applies_iff_loose hf).mp happ).1 ⟨rfl, State.Warmed39.refl s, rfl⟩ trivial
  obtain rfl : v = some (.int 1) := hQ
  refine ⟨n, _, h1, h2, h3, hpost _ _ _ _ _ _ ⟨Cond.after_iff.mpr rfl, Cond.after_iff.mpr (eq_i res_at (Term.int_eval (1)) rfl), trivial⟩ ⟨hq.1, hq.2.1, (hq.2.2.sift fun y hy => Or.inr (N y hy)).mono (by decide) (by decide)⟩⟩
theorem main_1_1 : Claimed_1_1 := comes_1 fun _ _ _ _ _ _ h hF => ⟨h.1, hF⟩
theorem main_1_2 : Claimed_1_2 := comes_1 fun _ _ _ _ _ _ h hF => ⟨h.2.1, hF⟩
end Jvm.Pilot.@@N@@
namespace Jvm.Pilot.@@N@@
open Jvm Jvm.ClassFile Sem Op Lib Jvm.Free Jvm.Stand Jvm.Pilot.@@N@@.Jvm.D
/-! MADE BY PROGRAM (witnessworld.py) out of the Statement's table words and the real class files: 10 classes; the members and pool entries that the words name. The judged class is class 1, her method 1. -/
namespace start1
open Jvm.ClassFile
def u (s : String) : CpInfo := .utf8 (stringToUtf16 s)
/-- a pool by its gaps: so many unusable entries, then the entry; so many at the end -/
def gap : Nat → List CpInfo → List CpInfo
  | 0, r => r
  | n + 1, r => .unusable :: gap n r
def poolList (es : List (Nat × CpInfo)) (last : Nat) : List CpInfo := es.foldr (fun e r => gap e.1 (e.2 :: r)) (gap last [])
def pool (es : List (Nat × CpInfo)) (last : Nat) : Array CpInfo := ⟨poolList es last⟩
def fileOf (pool : Array CpInfo) (this : Nat) (attrs : Array Attribute := #[]) (ms : Array MethodInfo := #[]) (fl : Nat := 33) (sup : Nat := 0) (ifs : Array Nat := #[]) (fds : Array FieldInfo := #[]) : ClassFile where
  minorVersion := 0
  majorVersion := 65
  constantPool := pool
  accessFlags := fl
  thisClass := this
  superClass := sup
  interfaces := ifs
  fields := fds
  methods := ms
  attributes := attrs
def plain (name : String) (sup : Option ClassId) : Class where
  name := name
  kind := .ordinary
  loader := none
  accessFlags := 33
  super := sup
  interfaces := #[]
  cf := none
  fields := #[]
  methods := #[]
  instanceTypes := #[]
  staticTypes := #[]
  resolved := #[]
  callSites := []
  init := .initialized
  statics := none
  mirror := none

def pool0 : Array CpInfo := pool [(5, u "<init>"), (0, u "()V"), (1, .class_ 10), (1, u "java/lang/Object")] 113

def k0c0 : Code := { maxStack := 0, maxLocals := 1, code := object_method_1_code, exceptionTable := #[], attributes := #[] }
def k0m0 : Method := { name := "<init>", desc := "()V", sig := { parameters := [], returnType := none }, accessFlags := 1, code := some k0c0 }
/-- java/lang/Object -/
def k0 : Class := { plain "java/lang/Object" none with
  accessFlags := 33
  interfaces := #[]
  cf := some (fileOf pool0 8 #[] #[{ accessFlags := 1, nameIndex := 5, descriptorIndex := 6, attributes := #[] }] 33 0 #[] #[])
  fields := #[]
  methods := #[k0m0]
  instanceTypes := #[]
  staticTypes := #[]
  resolved := Array.replicate 124 none
  statics := none }

def pool1 : Array CpInfo := pool [(2, .class_ 4), (1, u "java/lang/Object"), (0, u "<init>"), (0, u "()V"), (0, .class_ 8), (0, u "com/example/fluxmark/fluxmark/network/Bound"), (0, .methodref 7 10), (0, .nameAndType 5 11), (0, u "(JZ)V"), (0, .methodref 7 13), (0, .nameAndType 14 15), (0, u "admitValue"), (0, u "(Lcom/example/fluxmark/fluxmark/network/Bound;Lcom/example/fluxmark/fluxmark/network/Bound;Z)Z"), (0, .methodref 17 18), (0, .class_ 19), (0, .nameAndType 20 21), (0, u "com/example/fluxmark/fluxmark/network/BoundAdmitValuePinLaw"), (0, u "expected"), (0, u "(JZJZZ)Z"), (0, .long 9223372036854775807), (3, u "law"), (0, u "(JJI)Z")] 3

def k1m0 : Method := { name := "<init>", desc := "()V", sig := { parameters := [], returnType := none }, accessFlags := 1, code := none }
def k1c1 : Code := { maxStack := 8, maxLocals := 13, code := code, exceptionTable := #[], attributes := #[] }
def k1m1 : Method := { name := "law", desc := "(JJI)Z", sig := { parameters := [.long, .long, .int], returnType := some .boolean }, accessFlags := 9, code := some k1c1 }
def k1c2 : Code := { maxStack := 4, maxLocals := 9, code := method_3_code, exceptionTable := #[], attributes := #[] }
def k1m2 : Method := { name := "expected", desc := "(JZJZZ)Z", sig := { parameters := [.long, .boolean, .long, .boolean, .boolean], returnType := some .boolean }, accessFlags := 10, code := some k1c2 }
/-- com/example/fluxmark/fluxmark/network/BoundAdmitValuePinLaw -/
def k1 : Class := { plain "com/example/fluxmark/fluxmark/network/BoundAdmitValuePinLaw" (some 0) with
  accessFlags := 49
  interfaces := #[]
  cf := some (fileOf pool1 17 #[] #[{ accessFlags := 1, nameIndex := 5, descriptorIndex := 6, attributes := #[] }, { accessFlags := 9, nameIndex := 26, descriptorIndex := 27, attributes := #[] }, { accessFlags := 10, nameIndex := 20, descriptorIndex := 21, attributes := #[] }] 49 2 #[] #[])
  fields := #[]
  methods := #[k1m0, k1m1, k1m2]
  instanceTypes := #[]
  staticTypes := #[]
  resolved := Array.replicate 31 none
  statics := none }

def pool2 : Array CpInfo := pool [(1, .methodref 2 3), (0, .class_ 4), (0, .nameAndType 5 6), (0, u "java/lang/Object"), (0, u "<init>"), (0, u "()V"), (0, .class_ 8), (0, u "java/lang/Record")] 13

def k2c0 : Code := { maxStack := 1, maxLocals := 1, code := jdk_30_method_1_code, exceptionTable := #[], attributes := #[] }
def k2m0 : Method := { name := "<init>", desc := "()V", sig := { parameters := [], returnType := none }, accessFlags := 4, code := some k2c0 }
/-- java/lang/Record -/
def k2 : Class := { plain "java/lang/Record" (some 0) with
  accessFlags := 1057
  interfaces := #[]
  cf := some (fileOf pool2 7 #[] #[{ accessFlags := 4, nameIndex := 5, descriptorIndex := 6, attributes := #[] }] 1057 2 #[] #[])
  fields := #[]
  methods := #[k2m0]
  instanceTypes := #[]
  staticTypes := #[]
  resolved := Array.replicate 22 none
  statics := none }

def pool3 : Array CpInfo := pool [(1, .methodref 2 3), (0, .class_ 4), (0, .nameAndType 5 6), (0, u "java/lang/Record"), (0, u "<init>"), (0, u "()V"), (0, .fieldref 8 9), (0, .class_ 10), (0, .nameAndType 11 12), (0, u "com/example/fluxmark/fluxmark/network/Bound"), (0, u "value"), (0, u "J"), (0, .fieldref 8 14), (0, .nameAndType 15 16), (0, u "strict"), (0, u "Z"), (2, u "(JZ)V"), (2, u "BELOW"), (0, u "Ljava/util/Comparator;"), (50, u "admitValue"), (0, u "(Lcom/example/fluxmark/fluxmark/network/Bound;Lcom/example/fluxmark/fluxmark/network/Bound;Z)Z")] 52

def k3c0 : Code := { maxStack := 3, maxLocals := 4, code := prog_84_method_1_code, exceptionTable := #[], attributes := #[] }
def k3m0 : Method := { name := "<init>", desc := "(JZ)V", sig := { parameters := [.long, .boolean], returnType := none }, accessFlags := 1, code := some k3c0 }
def k3c1 : Code := { maxStack := 6, maxLocals := 4, code := prog_84_method_5_code, exceptionTable := #[], attributes := #[] }
def k3m1 : Method := { name := "admitValue", desc := "(Lcom/example/fluxmark/fluxmark/network/Bound;Lcom/example/fluxmark/fluxmark/network/Bound;Z)Z", sig := { parameters := [(.object "com/example/fluxmark/fluxmark/network/Bound"), (.object "com/example/fluxmark/fluxmark/network/Bound"), .boolean], returnType := some .boolean }, accessFlags := 9, code := some k3c1 }
/-- com/example/fluxmark/fluxmark/network/Bound -/
def k3 : Class := { plain "com/example/fluxmark/fluxmark/network/Bound" (some 2) with
  accessFlags := 49
  interfaces := #[]
  cf := some (fileOf pool3 8 #[] #[{ accessFlags := 1, nameIndex := 5, descriptorIndex := 19, attributes := #[] }, { accessFlags := 9, nameIndex := 74, descriptorIndex := 75, attributes := #[] }] 49 2 #[] #[{ accessFlags := 18, nameIndex := 11, descriptorIndex := 12, attributes := #[] }, { accessFlags := 18, nameIndex := 15, descriptorIndex := 16, attributes := #[] }, { accessFlags := 25, nameIndex := 22, descriptorIndex := 23, attributes := #[] }])
  fields := #[{ name := "value", type := .long, accessFlags := 18, slot := 0, constantValue := 0 }, { name := "strict", type := .boolean, accessFlags := 18, slot := 1, constantValue := 0 }, { name := "BELOW", type := (.object "java/util/Comparator"), accessFlags := 25, slot := 0, constantValue := 0 }]
  methods := #[k3m0, k3m1]
  instanceTypes := #[.long, .boolean]
  staticTypes := #[(.object "java/util/Comparator")]
  resolved := Array.replicate 128 none
  statics := none }

def pool4 : Array CpInfo := pool [(1, u "java/lang/Cloneable"), (0, .class_ 1), (0, u "java/lang/Object"), (0, .class_ 3)] 3

/-- java/lang/Cloneable -/
def k4 : Class := { plain "java/lang/Cloneable" (some 0) with
  accessFlags := 1537
  interfaces := #[]
  cf := some (fileOf pool4 2 #[] #[] 1537 4 #[] #[])
  fields := #[]
  methods := #[]
  instanceTypes := #[]
  staticTypes := #[]
  resolved := Array.replicate 8 none
  statics := none }

def pool5 : Array CpInfo := pool [(1, u "java/io/Serializable"), (0, .class_ 1), (0, u "java/lang/Object"), (0, .class_ 3)] 3

/-- java/io/Serializable -/
def k5 : Class := { plain "java/io/Serializable" (some 0) with
  accessFlags := 1537
  interfaces := #[]
  cf := some (fileOf pool5 2 #[] #[] 1537 4 #[] #[])
  fields := #[]
  methods := #[]
  instanceTypes := #[]
  staticTypes := #[]
  resolved := Array.replicate 8 none
  statics := none }

/-- the primitive byte -/
def k6 : Class := { plain "byte" none with kind := .primitive 'B', accessFlags := 0x411 }
/-- [B -/
def k7 : Class := { plain "[B" (some 0) with kind := .array 6 .byte, interfaces := #[4, 5], accessFlags := 1041 }

/-- the primitive int -/
def k8 : Class := { plain "int" none with kind := .primitive 'I', accessFlags := 0x411 }
/-- [I -/
def k9 : Class := { plain "[I" (some 0) with kind := .array 8 .int, interfaces := #[4, 5], accessFlags := 1041 }

def heap : Heap := #[]
def classes : Array Class := #[k0, k1, k2, k3, k4, k5, k6, k7, k8, k9]
def interned : List (Array UInt16 × Addr) := []
def slotsUsed : Nat := 0
def theMethod : MethodId := ⟨1, 1⟩
def args0 : Array Value := #[.long 5, .long 6, .int 3]
def aboutOver (below : List Frame) : State where
  vm := { classes := classes, interned := interned.toArray }
  heap := heap
  slotsUsed := slotsUsed
  threads := #[{ frames := .invoking theMethod args0 :: below }]
def below0 : List Frame := [.native { method := ⟨0, 0⟩, args := #[] }]
def about1 : State := aboutOver below0
def p0 : Program := .bare "" "" ""
def e0 : Env := launch0.env 0 0 0
theorem w_frames : about1.frames = Frame.invoking theMethod args0 :: below0 := rfl
set_option maxRecDepth 65536 in
theorem w_args : argsFit about1.vm theMethod args0 = true := by decide +kernel
set_option maxRecDepth 65536 in
theorem w_heap : heapFits about1 = true := by decide +kernel
set_option maxRecDepth 65536 in
theorem w_runnable : about1.curStatus? = some .runnable := by decide +kernel
set_option maxRecDepth 65536 in
theorem w_alone : about1.alone = true := by decide +kernel
set_option maxRecDepth 65536 in
theorem w_named : about1.methodNamed? x = some theMethod := by decide +kernel
set_option maxRecDepth 65536 in
theorem w_hears : about1.hears theMethod below0 = true := by decide +kernel
set_option maxRecDepth 65536 in
theorem w_ripe : about1.ripe theMethod args0 below0 = true := by decide +kernel
theorem w_running : about1.status = .running := rfl
set_option maxRecDepth 65536 in
theorem w_room : about1.hasRoom e0.platform room_1 = true :=
  launch0.hasRoom_least _ room_1 (by decide +kernel) (by decide +kernel) (by decide +kernel) (by decide +kernel) (by decide +kernel) (by decide +kernel)
theorem allAtoms_all (ts : List Jvm.Cond) (a : Array Jvm.Value) (st : Jvm.State) : (allAtoms ts).before a st = ts.all (fun c => c.before a st) := by
  induction ts with
  | nil => rfl
  | cons c t ih =>
    show (Jvm.Cond.and c (allAtoms t)).before a st = _
    rw [Jvm.Cond.before_and, ih, List.all_cons]
def words1 : List Jvm.Cond := Jvm.Cond.code x code maxLocals ret :: tables_1
/-- a 'code' word, met by the world's own term for the bytes: nothing is compared byte by byte -/
theorem code_word {y : MethodName} {bytes : ByteArray} {mx : Nat} {rt : Option FieldType} {a : Array Value} {s : State} {m : MethodId} {meth : Method} {c : Code} (h1 : s.methodNamed? y = some m) (h2 : s.vm.method? m = some meth) (h3 : meth.code = some c) (h4 : c.code = bytes)
    (h5 : (c.maxLocals == mx && c.exceptionTable.isEmpty && decide (c.maxStack ≤ mostOperands) && decide (meth.sig.returnType = rt) && !meth.locks && decide (parseMethodDescriptor y.desc = some meth.sig)) = true) : (Jvm.Cond.code y bytes mx rt).before a s = true := by
  simp only [Bool.and_eq_true, beq_iff_eq, Bool.not_eq_true', decide_eq_true_eq] at h5
  obtain ⟨⟨⟨⟨⟨g1, g2⟩, g3⟩, g4⟩, g5⟩, g6⟩ := h5
  simp [Cond.before, Cond.holds, Cond.value, h1, h2, h3, h4, g1, g2, g3, g4, g5, g6]
def isCode : Jvm.Cond → Bool
  | .code _ _ _ _ => true
  | _ => false
theorem all_split {L : List Jvm.Cond} {P : Jvm.Cond → Bool} (h1 : L.all (fun c => isCode c || P c) = true) (h2 : ∀ c ∈ L.filter isCode, P c = true) : L.all P = true := by
  refine List.all_eq_true.mpr fun c hc => ?_
  have h := List.all_eq_true.mp h1 c hc
  rcases Bool.eq_false_or_eq_true (isCode c) with hi | hi
  · exact h2 c (List.mem_filter.mpr ⟨hc, hi⟩)
  · simpa [hi] using h
set_option maxRecDepth 65536 in
theorem w_c0 : (Jvm.Cond.code x code maxLocals ret).before args0 about1 = true := code_word (m := ⟨1, 1⟩) (meth := k1m1) (c := k1c1) (by decide +kernel) rfl rfl rfl (by decide +kernel)
set_option maxRecDepth 65536 in
theorem w_c1 : (Jvm.Cond.code ({ cls := "com/example/fluxmark/fluxmark/network/Bound", name := "<init>", desc := "(JZ)V" } : Jvm.MethodName) prog_84_method_1_code (4 : Nat) (Option.none : Option Jvm.ClassFile.FieldType)).before args0 about1 = true := code_word (m := ⟨3, 0⟩) (meth := k3m0) (c := k3c0) (by decide +kernel) rfl rfl rfl (by decide +kernel)
set_option maxRecDepth 65536 in
theorem w_c2 : (Jvm.Cond.code ({ cls := "java/lang/Record", name := "<init>", desc := "()V" } : Jvm.MethodName) jdk_30_method_1_code (1 : Nat) (Option.none : Option Jvm.ClassFile.FieldType)).before args0 about1 = true := code_word (m := ⟨2, 0⟩) (meth := k2m0) (c := k2c0) (by decide +kernel) rfl rfl rfl (by decide +kernel)
set_option maxRecDepth 65536 in
theorem w_c3 : (Jvm.Cond.code ({ cls := "java/lang/Object", name := "<init>", desc := "()V" } : Jvm.MethodName) object_method_1_code (1 : Nat) (Option.none : Option Jvm.ClassFile.FieldType)).before args0 about1 = true := code_word (m := ⟨0, 0⟩) (meth := k0m0) (c := k0c0) (by decide +kernel) rfl rfl rfl (by decide +kernel)
set_option maxRecDepth 65536 in
theorem w_c4 : (Jvm.Cond.code ({ cls := "com/example/fluxmark/fluxmark/network/Bound", name := "admitValue", desc := "(Lcom/example/fluxmark/fluxmark/network/Bound;Lcom/example/fluxmark/fluxmark/network/Bound;Z)Z" } : Jvm.MethodName) prog_84_method_5_code (4 : Nat) (Option.some Jvm.ClassFile.FieldType.boolean)).before args0 about1 = true := code_word (m := ⟨3, 1⟩) (meth := k3m1) (c := k3c1) (by decide +kernel) rfl rfl rfl (by decide +kernel)
set_option maxRecDepth 65536 in
theorem w_c5 : (Jvm.Cond.code ({ cls := "com/example/fluxmark/fluxmark/network/BoundAdmitValuePinLaw", name := "expected", desc := "(JZJZZ)Z" } : Jvm.MethodName) method_3_code (9 : Nat) (Option.some Jvm.ClassFile.FieldType.boolean)).before args0 about1 = true := code_word (m := ⟨1, 2⟩) (meth := k1m2) (c := k1c2) (by decide +kernel) rfl rfl rfl (by decide +kernel)
def codes1 : List Jvm.Cond := [Jvm.Cond.code x code maxLocals ret, Jvm.Cond.code ({ cls := "com/example/fluxmark/fluxmark/network/Bound", name := "<init>", desc := "(JZ)V" } : Jvm.MethodName) prog_84_method_1_code (4 : Nat) (Option.none : Option Jvm.ClassFile.FieldType), Jvm.Cond.code ({ cls := "java/lang/Record", name := "<init>", desc := "()V" } : Jvm.MethodName) jdk_30_method_1_code (1 : Nat) (Option.none : Option Jvm.ClassFile.FieldType), Jvm.Cond.code ({ cls := "java/lang/Object", name := "<init>", desc := "()V" } : Jvm.MethodName) object_method_1_code (1 : Nat) (Option.none : Option Jvm.ClassFile.FieldType), Jvm.Cond.code ({ cls := "com/example/fluxmark/fluxmark/network/Bound", name := "admitValue", desc := "(Lcom/example/fluxmark/fluxmark/network/Bound;Lcom/example/fluxmark/fluxmark/network/Bound;Z)Z" } : Jvm.MethodName) prog_84_method_5_code (4 : Nat) (Option.some Jvm.ClassFile.FieldType.boolean), Jvm.Cond.code ({ cls := "com/example/fluxmark/fluxmark/network/BoundAdmitValuePinLaw", name := "expected", desc := "(JZJZZ)Z" } : Jvm.MethodName) method_3_code (9 : Nat) (Option.some Jvm.ClassFile.FieldType.boolean)]
set_option maxRecDepth 65536 in
theorem codes_eq : words1.filter isCode = codes1 := rfl
theorem w_codes : ∀ c ∈ words1.filter isCode, c.before args0 about1 = true := by
  rw [codes_eq]
  intro c hc
  simp only [codes1, List.mem_cons, List.not_mem_nil, or_false] at hc
  rcases hc with rfl | rfl | rfl | rfl | rfl | rfl
  · exact w_c0
  · exact w_c1
  · exact w_c2
  · exact w_c3
  · exact w_c4
  · exact w_c5
set_option maxRecDepth 65536 in
theorem w_t1 : (words1.take 24).all (fun c => isCode c || c.before args0 about1) = true := by decide +kernel
set_option maxRecDepth 65536 in
theorem w_t2 : (words1.drop 24).all (fun c => isCode c || c.before args0 about1) = true := by decide +kernel
theorem w_tables : (allAtoms (Jvm.Cond.code x code maxLocals ret :: tables_1)).before args0 about1 = true := by
  rw [allAtoms_all]
  show words1.all (fun c => c.before args0 about1) = true
  refine all_split ?_ w_codes
  rw [← List.take_append_drop 24 words1, List.all_append, w_t1, w_t2]
  rfl
set_option maxRecDepth 65536 in
theorem w_case : (Jvm.Cond.and given_1 narrow_1).before args0 about1 = true := by decide +kernel
theorem w_applies : (headSpec (Jvm.Cond.code x code maxLocals ret :: tables_1) room_1).applies x e0.platform about1 = true :=
  (Spec.applies_iff w_frames).mpr ⟨w_running, w_runnable, w_alone, w_named, w_hears, w_ripe, w_room, w_tables⟩
theorem atStart : AtStart classFile x code maxLocals ret World_1 tables_1 room_1 Calls_1 rest_1 Pre_1 launch0 p0 e0 about1 theMethod args0 below0 :=
  ⟨lists_1, trivial, launch0.admits_env _ _ _, launch0.least_env, fairChoices_fair.cas, fairChoices_fair.clock, w_frames, w_args, w_heap, w_applies, trivial, trivial, w_case⟩
end start1
theorem witness_1 : WitnessClaimed_1 := ⟨start1.p0, start1.e0, start1.about1, start1.theMethod, start1.args0, start1.below0, start1.atStart⟩
end Jvm.Pilot.@@N@@
