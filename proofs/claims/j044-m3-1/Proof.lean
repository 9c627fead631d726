import JvmDerived
import JvmDerived.Pilot.@@N@@Statement
import JvmDerived.Pilot.@@N@@Code
set_option linter.unusedVariables false
set_option linter.unusedSimpArgs false

namespace Jvm.Pilot.@@N@@
open Jvm Jvm.ClassFile Sem Op Lib Jvm.Free Jvm.Stand Jvm.LawKit Jvm.RoadKit Bundle Jvm.Pilot.@@N@@.Jvm.D
/-! ## own kit: a walk forwards, in small words -/
abbrev owK : Type := Program × Env × State × MethodId × Array Value × List Frame × Method × Code
abbrev owp (k : owK) : Program := k.1
abbrev owe (k : owK) : Env := k.2.1
abbrev ows (k : owK) : State := k.2.2.1
abbrev owm (k : owK) : MethodId := k.2.2.2.1
abbrev owa (k : owK) : Array Value := k.2.2.2.2.1
abbrev owb (k : owK) : List Frame := k.2.2.2.2.2.1
abbrev owM (k : owK) : Method := k.2.2.2.2.2.2.1
abbrev owc (k : owK) : Code := k.2.2.2.2.2.2.2
/-- what stands fast through a body -/
def owC (Z : State) (y : MethodName) (B : ByteArray) (ml : Nat) (rt : Option FieldType) (k : owK) : Prop :=
  (owp k).tables.exec = Jvm.exec ∧ Z.Warmed39 (ows k).vm ∧ (ows k).vm.findClass y.cls = some (owm k).cls ∧ (owc k).code = B ∧ (owc k).maxLocals = ml ∧ (owM k).name = y.name ∧ (owM k).sig.returnType = rt ∧ (owM k).locks = false
/-- where the walk stands: the state T with the heap h; cc cells and ss slots made so far; all writes at or above n0 -/
def Sd (l : Launch) (Z : State) (n0 : Nat) (y : MethodName) (B : ByteArray) (ml : Nat) (rt : Option FieldType) (R : Room) (k : owK) (T : State) (h : Heap) (cc ss : Nat) : Prop :=
  (∃ locs, Stand (owp k) l (owe k) R (ows k) (owm k) (owa k) (owb k) (owM k) (owc k) T locs cc ss ∧ Fr n0 locs) ∧ T.heap = h ∧ owC Z y B ml rt k
/-- from here the walk ends, as Q says -/
def Go (k : owK) (n0 : Nat) (Q : Option Value → Heap → Prop) (kc ks : Nat) (T : State) (pc : Nat) (Ls : Array Slot) (st : List Value) : Prop :=
  ∃ s₂ o, Steps (owp k).tables (owe k) (owb k) (T.setTop (mkF (owm k) pc Ls st)) s₂ ∧ s₂.status = .running ∧ Ended s₂ (owb k) o ∧ ∃ v L, o = .returned v ∧ (Fr n0 L ∧ Q v s₂.heap) ∧ FrameEnd (ows k) o s₂ L kc ks
/-- the contract of a body -/
def Met (l : Launch) (Z : State) (n0 : Nat) (y : MethodName) (B : ByteArray) (ml : Nat) (rt : Option FieldType) (ws : List Jvm.Cond) (R : Room) (as : Array Value) (h0 : Heap) (Q : Option Value → Heap → Prop) (kc ks : Nat) : Prop :=
  MetFree l y (head1 (Jvm.Cond.code y B ml rt :: ws) R) (fun a U => a = as ∧ Z.Warmed39 U.vm ∧ U.heap = h0) (fun _ _ _ _ _ => True) (fun _ U o U' => ∃ v L, o = .returned v ∧ (Fr n0 L ∧ Q v U'.heap) ∧ FrameEnd U o U' L kc ks)
section Ow
variable {l : Launch} {Z : State} {n0 : Nat} {y : MethodName} {B : ByteArray} {ml : Nat} {rt : Option FieldType} {R : Room} {k : owK} {T : State} {h : Heap} {cc ss : Nat} {Q : Option Value → Heap → Prop} {kc ks : Nat} {pc : Nat} {Ls : Array Slot} {st : List Value} {a0 : Array Value}
theorem Met.of {ws : List Jvm.Cond} {as : Array Value} {h0 : Heap} {Ls : Array Slot} (hp : Jvm.plainName y.cls = true) (hef : ∀ m, entryFrame m as ml = mkF m 0 Ls []) (body : ∀ k T, Sd l Z n0 y B ml rt R k T h0 0 0 → Go k n0 Q kc ks T 0 Ls []) : Met l Z n0 y B ml rt ws R as h0 Q kc ks := by
  refine MetFree.of_bodySF (plainFor_of_name hp) hisR ?_
  intro p e s m args below meth c s₁ Bd hml hP hK
  obtain ⟨rfl, hZ, hh⟩ := hP
  have hown : s.vm.findClass y.cls = some m.cls := findClass_of_methodNamed Bd.named
  have hnm := (name_of_methodNamed Bd.named Bd.method).1
  have X0 : Stand p l e R s m args below meth c s₁ [] 0 0 := Stand.of_body Bd
  have e0 : s₁.heap = h0 := by rw [← hh, Bd.state]; rfl
  obtain ⟨s2, o, h1, h2, h3, h4⟩ := body (p, e, s, m, args, below, meth, c) s₁ ⟨⟨[], X0, Fr.nil n0⟩, e0, Bd.exec, hZ, hown, Bd.bytes, hml, hnm, Bd.returns, Bd.notSynchronized⟩
  exact ⟨s2, o, castTop (hef m) h1, h2, h3, h4⟩
theorem Go.of {T T' : State} {pc' : Nat} {Ls' : Array Slot} {st' : List Value} (K : Go k n0 Q kc ks T' pc' Ls' st') (f : ∀ t, Steps (owp k).tables (owe k) (owb k) (T'.setTop (mkF (owm k) pc' Ls' st')) t → Steps (owp k).tables (owe k) (owb k) (T.setTop (mkF (owm k) pc Ls st)) t) : Go k n0 Q kc ks T pc Ls st := by
  obtain ⟨s2, o, h1, h2⟩ := K; exact ⟨s2, o, f _ h1, h2⟩
theorem Go.end {v : Option Value} (X : Sd l Z n0 y B ml rt R k T h cc ss) (hk : cc ≤ kc) (hs : ss ≤ ks) (hv : rt = none → v = none) (f : ∀ fs, (∀ (f : JFrame) (acts : List Action), f.method = owm k → f.locked = none → f.entered = [] → (doReturn (owe k) (T.setTop f) acts v).1 = T.setFrames fs) → Steps (owp k).tables (owe k) (owb k) (T.setTop (mkF (owm k) pc Ls st)) (T.setFrames fs)) (hQ : Q v h) : Go k n0 Q kc ks T pc Ls st := by
  obtain ⟨⟨locs, X, N⟩, rfl, hx, hZ, hown, hby, hml, hnm, hrt, hlk⟩ := X
  obtain ⟨fs, hr, hrun, hended, hW, hsame⟩ := X.leave (v := v) (fun q => hv (by rw [← hrt]; exact q)) hlk
  exact ⟨_, _, f fs hr, hrun, hended, _, _, rfl, ⟨N, hQ⟩, ⟨_, rfl⟩, hW, hsame.mono hk hs⟩
theorem Sd.hh (X : Sd l Z n0 y B ml rt R k T h cc ss) : At T (owm k) (owc k) (owb k) := by obtain ⟨⟨_, X, _⟩, _⟩ := X; exact X.here
theorem Sd.x (X : Sd l Z n0 y B ml rt R k T h cc ss) : (owp k).tables.exec = Jvm.exec := X.2.2.1
theorem Sd.d (X : Sd l Z n0 y B ml rt R k T h cc ss) {pc : Nat} {r : Except ClassFile.DecodeError (ClassFile.Instr × Nat)} (hd : decode B pc = r) : decode (owc k).code pc = r := hb X.2.2.2.2.2.1 hd
theorem Sd.heap (X : Sd l Z n0 y B ml rt R k T h cc ss) : T.heap = h := X.2.1
/-! loads, stores, constants -/
theorem g_aloadN (X : Sd l Z n0 y B ml rt R k T h cc ss) {i : Fin 4} {v : Value} (hd : decode B pc = .ok (.aload_n i, 1)) (hl : Ls[i.val]? = some (.val v)) (hv : v.isRef = true) (pc' : Nat) (hp : pc + 1 = pc') (K : Go k n0 Q kc ks T pc' Ls (v :: st)) : Go k n0 Q kc ks T pc Ls st := by subst hp; exact K.of fun _ q => XS.aloadN X.hh X.x rfl (X.d hd) hl hv q
theorem g_aload (X : Sd l Z n0 y B ml rt R k T h cc ss) {i : Nat} {v : Value} (hd : decode B pc = .ok (.aload i, 2)) (hl : Ls[i]? = some (.val v)) (hv : v.isRef = true) (pc' : Nat) (hp : pc + 2 = pc') (K : Go k n0 Q kc ks T pc' Ls (v :: st)) : Go k n0 Q kc ks T pc Ls st := by subst hp; exact K.of fun _ q => XS.aload X.hh X.x rfl (X.d hd) hl hv q
theorem g_iloadN (X : Sd l Z n0 y B ml rt R k T h cc ss) {i : Fin 4} {v : Int32} (hd : decode B pc = .ok (.iload_n i, 1)) (hl : Ls[i.val]? = some (.val (.int v))) (pc' : Nat) (hp : pc + 1 = pc') (K : Go k n0 Q kc ks T pc' Ls (.int v :: st)) : Go k n0 Q kc ks T pc Ls st := by subst hp; exact K.of fun _ q => XS.iloadN X.hh X.x rfl (X.d hd) hl q
theorem g_iload (X : Sd l Z n0 y B ml rt R k T h cc ss) {i : Nat} {v : Int32} (hd : decode B pc = .ok (.iload i, 2)) (hl : Ls[i]? = some (.val (.int v))) (pc' : Nat) (hp : pc + 2 = pc') (K : Go k n0 Q kc ks T pc' Ls (.int v :: st)) : Go k n0 Q kc ks T pc Ls st := by subst hp; exact K.of fun _ q => XS.iload X.hh X.x rfl (X.d hd) hl q
theorem g_lloadN (X : Sd l Z n0 y B ml rt R k T h cc ss) {i : Fin 4} {v : Int64} (hd : decode B pc = .ok (.lload_n i, 1)) (hl : Ls[i.val]? = some (.val (.long v))) (pc' : Nat) (hp : pc + 1 = pc') (K : Go k n0 Q kc ks T pc' Ls (.long v :: st)) : Go k n0 Q kc ks T pc Ls st := by subst hp; exact K.of fun _ q => XT.lloadN X.hh X.x rfl (X.d hd) hl q
theorem g_lload (X : Sd l Z n0 y B ml rt R k T h cc ss) {i : Nat} {v : Int64} (hd : decode B pc = .ok (.lload i, 2)) (hl : Ls[i]? = some (.val (.long v))) (pc' : Nat) (hp : pc + 2 = pc') (K : Go k n0 Q kc ks T pc' Ls (.long v :: st)) : Go k n0 Q kc ks T pc Ls st := by subst hp; exact K.of fun _ q => XT.lload X.hh X.x rfl (X.d hd) hl q
theorem g_istoreN (X : Sd l Z n0 y B ml rt R k T h cc ss) {i : Fin 4} {v : Int32} (hd : decode B pc = .ok (.istore_n i, 1)) (L' : Array Slot) (hl : storeLocals Ls i.val (.int v) = some L') (pc' : Nat) (hp : pc + 1 = pc') (K : Go k n0 Q kc ks T pc' L' st) : Go k n0 Q kc ks T pc Ls (.int v :: st) := by subst hp; exact K.of fun _ q => XS.istoreN X.hh X.x rfl (X.d hd) rfl hl q
theorem g_istore (X : Sd l Z n0 y B ml rt R k T h cc ss) {i : Nat} {v : Int32} (hd : decode B pc = .ok (.istore i, 2)) (L' : Array Slot) (hl : storeLocals Ls i (.int v) = some L') (pc' : Nat) (hp : pc + 2 = pc') (K : Go k n0 Q kc ks T pc' L' st) : Go k n0 Q kc ks T pc Ls (.int v :: st) := by subst hp; exact K.of fun _ q => XS.istore X.hh X.x rfl (X.d hd) rfl hl q
theorem g_lstoreN (X : Sd l Z n0 y B ml rt R k T h cc ss) {i : Fin 4} {v : Int64} (hd : decode B pc = .ok (.lstore_n i, 1)) (L' : Array Slot) (hl : storeLocals Ls i.val (.long v) = some L') (pc' : Nat) (hp : pc + 1 = pc') (K : Go k n0 Q kc ks T pc' L' st) : Go k n0 Q kc ks T pc Ls (.long v :: st) := by subst hp; exact K.of fun _ q => XT.lstoreN X.hh X.x rfl (X.d hd) rfl hl q
theorem g_lstore (X : Sd l Z n0 y B ml rt R k T h cc ss) {i : Nat} {v : Int64} (hd : decode B pc = .ok (.lstore i, 2)) (L' : Array Slot) (hl : storeLocals Ls i (.long v) = some L') (pc' : Nat) (hp : pc + 2 = pc') (K : Go k n0 Q kc ks T pc' L' st) : Go k n0 Q kc ks T pc Ls (.long v :: st) := by subst hp; exact K.of fun _ q => XT.lstore X.hh X.x rfl (X.d hd) rfl hl q
theorem g_astoreN (X : Sd l Z n0 y B ml rt R k T h cc ss) {i : Fin 4} {v : Value} (hd : decode B pc = .ok (.astore_n i, 1)) (hv : v.isRef = true) (L' : Array Slot) (hl : storeLocals Ls i.val v = some L') (pc' : Nat) (hp : pc + 1 = pc') (K : Go k n0 Q kc ks T pc' L' st) : Go k n0 Q kc ks T pc Ls (v :: st) := by subst hp; exact K.of fun _ q => XS.astoreN X.hh X.x rfl (X.d hd) rfl hv hl q
theorem g_astore (X : Sd l Z n0 y B ml rt R k T h cc ss) {i : Nat} {v : Value} (hd : decode B pc = .ok (.astore i, 2)) (hv : v.isRef = true) (L' : Array Slot) (hl : storeLocals Ls i v = some L') (pc' : Nat) (hp : pc + 2 = pc') (K : Go k n0 Q kc ks T pc' L' st) : Go k n0 Q kc ks T pc Ls (v :: st) := by subst hp; exact K.of fun _ q => XS.astore X.hh X.x rfl (X.d hd) rfl hv hl q
theorem g_iconst (X : Sd l Z n0 y B ml rt R k T h cc ss) {i : Int} (v : Int32) (hd : decode B pc = .ok (.iconst i, 1)) (hv : Int32.ofInt i = v) (pc' : Nat) (hp : pc + 1 = pc') (K : Go k n0 Q kc ks T pc' Ls (.int v :: st)) : Go k n0 Q kc ks T pc Ls st := by subst hp; exact K.of fun _ q => XT.iconstV X.hh X.x rfl v (X.d hd) hv q
theorem g_bipush (X : Sd l Z n0 y B ml rt R k T h cc ss) {i : Int} (v : Int32) (hd : decode B pc = .ok (.bipush i, 2)) (hv : (Int8.ofInt i).toInt32 = v) (pc' : Nat) (hp : pc + 2 = pc') (K : Go k n0 Q kc ks T pc' Ls (.int v :: st)) : Go k n0 Q kc ks T pc Ls st := by subst hp; exact K.of fun _ q => XT.bipushV X.hh X.x rfl v (X.d hd) hv q
theorem g_sipush (X : Sd l Z n0 y B ml rt R k T h cc ss) {i : Int} (v : Int32) (hd : decode B pc = .ok (.sipush i, 3)) (hv : (Int16.ofInt i).toInt32 = v) (pc' : Nat) (hp : pc + 3 = pc') (K : Go k n0 Q kc ks T pc' Ls (.int v :: st)) : Go k n0 Q kc ks T pc Ls st := by subst hp; exact K.of fun _ q => XT.sipushV X.hh X.x rfl v (X.d hd) hv q
theorem g_lconst (X : Sd l Z n0 y B ml rt R k T h cc ss) {i : Fin 2} (v : Int64) (hd : decode B pc = .ok (.lconst i, 1)) (hv : Int64.ofNat i = v) (pc' : Nat) (hp : pc + 1 = pc') (K : Go k n0 Q kc ks T pc' Ls (.long v :: st)) : Go k n0 Q kc ks T pc Ls st := by subst hp; exact K.of fun _ q => XT.lconstV X.hh X.x rfl v (X.d hd) hv q
theorem g_null (X : Sd l Z n0 y B ml rt R k T h cc ss) (hd : decode B pc = .ok (.aconst_null, 1)) (pc' : Nat) (hp : pc + 1 = pc') (K : Go k n0 Q kc ks T pc' Ls (.null :: st)) : Go k n0 Q kc ks T pc Ls st := by subst hp; exact K.of fun _ q => XS.aconstNull X.hh X.x rfl (X.d hd) q
theorem g_iinc (X : Sd l Z n0 y B ml rt R k T h cc ss) {i : Nat} {cst : Int} {x : Int32} (v : Int32) (hd : decode B pc = .ok (.iinc i cst, 3)) (hv : Int32.ofInt cst = v) (hl : Ls[i]? = some (.val (.int x))) (L' : Array Slot) (hl' : storeLocals Ls i (.int (x + v)) = some L') (pc' : Nat) (hp : pc + 3 = pc') (K : Go k n0 Q kc ks T pc' L' st) : Go k n0 Q kc ks T pc Ls st := by subst hp; exact K.of fun _ q => XT.iincV X.hh X.x rfl v (X.d hd) hv hl hl' q
/-! arithmetic -/
theorem g_iadd (X : Sd l Z n0 y B ml rt R k T h cc ss) {a b : Int32} (hd : decode B pc = .ok (.iadd, 1)) (pc' : Nat) (hp : pc + 1 = pc') (K : Go k n0 Q kc ks T pc' Ls (.int (a + b) :: st)) : Go k n0 Q kc ks T pc Ls (.int b :: .int a :: st) := by subst hp; exact K.of fun _ q => XS.iadd X.hh X.x rfl (X.d hd) rfl q
theorem g_isub (X : Sd l Z n0 y B ml rt R k T h cc ss) {a b : Int32} (hd : decode B pc = .ok (.isub, 1)) (pc' : Nat) (hp : pc + 1 = pc') (K : Go k n0 Q kc ks T pc' Ls (.int (a - b) :: st)) : Go k n0 Q kc ks T pc Ls (.int b :: .int a :: st) := by subst hp; exact K.of fun _ q => XS.isub X.hh X.x rfl (X.d hd) rfl q
theorem g_imul (X : Sd l Z n0 y B ml rt R k T h cc ss) {a b : Int32} (hd : decode B pc = .ok (.imul, 1)) (pc' : Nat) (hp : pc + 1 = pc') (K : Go k n0 Q kc ks T pc' Ls (.int (a * b) :: st)) : Go k n0 Q kc ks T pc Ls (.int b :: .int a :: st) := by subst hp; exact K.of fun _ q => XS.imul X.hh X.x rfl (X.d hd) rfl q
theorem g_idiv (X : Sd l Z n0 y B ml rt R k T h cc ss) {a b : Int32} (hd : decode B pc = .ok (.idiv, 1)) (hb : b ≠ 0) (pc' : Nat) (hp : pc + 1 = pc') (K : Go k n0 Q kc ks T pc' Ls (.int (a / b) :: st)) : Go k n0 Q kc ks T pc Ls (.int b :: .int a :: st) := by subst hp; exact K.of fun _ q => XS.idiv X.hh X.x rfl (X.d hd) rfl hb q
theorem g_irem (X : Sd l Z n0 y B ml rt R k T h cc ss) {a b : Int32} (hd : decode B pc = .ok (.irem, 1)) (hb : b ≠ 0) (pc' : Nat) (hp : pc + 1 = pc') (K : Go k n0 Q kc ks T pc' Ls (.int (a % b) :: st)) : Go k n0 Q kc ks T pc Ls (.int b :: .int a :: st) := by
  subst hp; obtain ⟨⟨locs, Y, N⟩, eh, hc⟩ := X
  exact K.of fun _ q => iremM Y hc.1 (g := mkF (owm k) pc Ls (.int b :: .int a :: st)) rfl (Jvm.hb hc.2.2.2.1 hd) rfl hb q
theorem g_iand (X : Sd l Z n0 y B ml rt R k T h cc ss) {a b : Int32} (hd : decode B pc = .ok (.iand, 1)) (pc' : Nat) (hp : pc + 1 = pc') (K : Go k n0 Q kc ks T pc' Ls (.int (a &&& b) :: st)) : Go k n0 Q kc ks T pc Ls (.int b :: .int a :: st) := by subst hp; exact K.of fun _ q => XS.iand X.hh X.x rfl (X.d hd) rfl q
theorem g_ior (X : Sd l Z n0 y B ml rt R k T h cc ss) {a b : Int32} (hd : decode B pc = .ok (.ior, 1)) (pc' : Nat) (hp : pc + 1 = pc') (K : Go k n0 Q kc ks T pc' Ls (.int (a ||| b) :: st)) : Go k n0 Q kc ks T pc Ls (.int b :: .int a :: st) := by subst hp; exact K.of fun _ q => XS.ior X.hh X.x rfl (X.d hd) rfl q
theorem g_ixor (X : Sd l Z n0 y B ml rt R k T h cc ss) {a b : Int32} (hd : decode B pc = .ok (.ixor, 1)) (pc' : Nat) (hp : pc + 1 = pc') (K : Go k n0 Q kc ks T pc' Ls (.int (a ^^^ b) :: st)) : Go k n0 Q kc ks T pc Ls (.int b :: .int a :: st) := by subst hp; exact K.of fun _ q => XS.ixor X.hh X.x rfl (X.d hd) rfl q
theorem g_ishl (X : Sd l Z n0 y B ml rt R k T h cc ss) {a b : Int32} (hd : decode B pc = .ok (.ishl, 1)) (pc' : Nat) (hp : pc + 1 = pc') (K : Go k n0 Q kc ks T pc' Ls (.int (a <<< (b &&& 31)) :: st)) : Go k n0 Q kc ks T pc Ls (.int b :: .int a :: st) := by subst hp; exact K.of fun _ q => XS.ishl X.hh X.x rfl (X.d hd) rfl q
theorem g_ishr (X : Sd l Z n0 y B ml rt R k T h cc ss) {a b : Int32} (hd : decode B pc = .ok (.ishr, 1)) (pc' : Nat) (hp : pc + 1 = pc') (K : Go k n0 Q kc ks T pc' Ls (.int (a >>> (b &&& 31)) :: st)) : Go k n0 Q kc ks T pc Ls (.int b :: .int a :: st) := by subst hp; exact K.of fun _ q => XS.ishr X.hh X.x rfl (X.d hd) rfl q
theorem g_iushr (X : Sd l Z n0 y B ml rt R k T h cc ss) {a b : Int32} (hd : decode B pc = .ok (.iushr, 1)) (pc' : Nat) (hp : pc + 1 = pc') (K : Go k n0 Q kc ks T pc' Ls (.int ((a.toUInt32 >>> (b &&& 31).toUInt32).toInt32) :: st)) : Go k n0 Q kc ks T pc Ls (.int b :: .int a :: st) := by subst hp; exact K.of fun _ q => XS.iushr X.hh X.x rfl (X.d hd) rfl q
theorem g_ineg (X : Sd l Z n0 y B ml rt R k T h cc ss) {a : Int32} (hd : decode B pc = .ok (.ineg, 1)) (pc' : Nat) (hp : pc + 1 = pc') (K : Go k n0 Q kc ks T pc' Ls (.int (-a) :: st)) : Go k n0 Q kc ks T pc Ls (.int a :: st) := by subst hp; exact K.of fun _ q => XS.ineg X.hh X.x rfl (X.d hd) rfl q
theorem g_ladd (X : Sd l Z n0 y B ml rt R k T h cc ss) {a b : Int64} (hd : decode B pc = .ok (.ladd, 1)) (pc' : Nat) (hp : pc + 1 = pc') (K : Go k n0 Q kc ks T pc' Ls (.long (a + b) :: st)) : Go k n0 Q kc ks T pc Ls (.long b :: .long a :: st) := by subst hp; exact K.of fun _ q => XS.ladd X.hh X.x rfl (X.d hd) rfl q
theorem g_lsub (X : Sd l Z n0 y B ml rt R k T h cc ss) {a b : Int64} (hd : decode B pc = .ok (.lsub, 1)) (pc' : Nat) (hp : pc + 1 = pc') (K : Go k n0 Q kc ks T pc' Ls (.long (a - b) :: st)) : Go k n0 Q kc ks T pc Ls (.long b :: .long a :: st) := by subst hp; exact K.of fun _ q => XS.lsub X.hh X.x rfl (X.d hd) rfl q
theorem g_land (X : Sd l Z n0 y B ml rt R k T h cc ss) {a b : Int64} (hd : decode B pc = .ok (.land, 1)) (pc' : Nat) (hp : pc + 1 = pc') (K : Go k n0 Q kc ks T pc' Ls (.long (a &&& b) :: st)) : Go k n0 Q kc ks T pc Ls (.long b :: .long a :: st) := by subst hp; exact K.of fun _ q => XS.land X.hh X.x rfl (X.d hd) rfl q
theorem g_lushr (X : Sd l Z n0 y B ml rt R k T h cc ss) {a : Int64} {b : Int32} (hd : decode B pc = .ok (.lushr, 1)) (pc' : Nat) (hp : pc + 1 = pc') (K : Go k n0 Q kc ks T pc' Ls (.long ((a.toUInt64 >>> (b &&& 0x3f).toInt64.toUInt64).toInt64) :: st)) : Go k n0 Q kc ks T pc Ls (.int b :: .long a :: st) := by subst hp; exact K.of fun _ q => XS.lushr X.hh X.x rfl (X.d hd) rfl q
theorem g_i2l (X : Sd l Z n0 y B ml rt R k T h cc ss) {a : Int32} (hd : decode B pc = .ok (.i2l, 1)) (pc' : Nat) (hp : pc + 1 = pc') (K : Go k n0 Q kc ks T pc' Ls (.long a.toInt64 :: st)) : Go k n0 Q kc ks T pc Ls (.int a :: st) := by subst hp; exact K.of fun _ q => XS.i2l X.hh X.x rfl (X.d hd) rfl q
theorem g_l2i (X : Sd l Z n0 y B ml rt R k T h cc ss) {a : Int64} (hd : decode B pc = .ok (.l2i, 1)) (pc' : Nat) (hp : pc + 1 = pc') (K : Go k n0 Q kc ks T pc' Ls (.int a.toInt32 :: st)) : Go k n0 Q kc ks T pc Ls (.long a :: st) := by subst hp; exact K.of fun _ q => XS.l2i X.hh X.x rfl (X.d hd) rfl q
theorem g_i2b (X : Sd l Z n0 y B ml rt R k T h cc ss) {a : Int32} (hd : decode B pc = .ok (.i2b, 1)) (pc' : Nat) (hp : pc + 1 = pc') (K : Go k n0 Q kc ks T pc' Ls (.int a.toInt8.toInt32 :: st)) : Go k n0 Q kc ks T pc Ls (.int a :: st) := by subst hp; exact K.of fun _ q => XS.i2b X.hh X.x rfl (X.d hd) rfl q
theorem g_i2c (X : Sd l Z n0 y B ml rt R k T h cc ss) {a : Int32} (hd : decode B pc = .ok (.i2c, 1)) (pc' : Nat) (hp : pc + 1 = pc') (K : Go k n0 Q kc ks T pc' Ls (.int a.toUInt32.toUInt16.toUInt32.toInt32 :: st)) : Go k n0 Q kc ks T pc Ls (.int a :: st) := by subst hp; exact K.of fun _ q => XS.i2c X.hh X.x rfl (X.d hd) rfl q
theorem g_lcmp (X : Sd l Z n0 y B ml rt R k T h cc ss) {a b : Int64} (hd : decode B pc = .ok (.lcmp, 1)) (pc' : Nat) (hp : pc + 1 = pc') (K : Go k n0 Q kc ks T pc' Ls (.int (XT.cmpL a b) :: st)) : Go k n0 Q kc ks T pc Ls (.long b :: .long a :: st) := by subst hp; exact K.of fun _ q => XT.lcmp X.hh X.x rfl (X.d hd) rfl q
/-! the stack -/
theorem g_dup (X : Sd l Z n0 y B ml rt R k T h cc ss) {v : Value} (hd : decode B pc = .ok (.dup, 1)) (hc : v.category = 1) (pc' : Nat) (hp : pc + 1 = pc') (K : Go k n0 Q kc ks T pc' Ls (v :: v :: st)) : Go k n0 Q kc ks T pc Ls (v :: st) := by subst hp; exact K.of fun _ q => XS.dup X.hh X.x rfl (X.d hd) rfl hc q
theorem g_pop (X : Sd l Z n0 y B ml rt R k T h cc ss) {v : Value} (hd : decode B pc = .ok (.pop, 1)) (hc : v.category = 1) (pc' : Nat) (hp : pc + 1 = pc') (K : Go k n0 Q kc ks T pc' Ls st) : Go k n0 Q kc ks T pc Ls (v :: st) := by subst hp; exact K.of fun _ q => XS.pop X.hh X.x rfl (X.d hd) rfl hc q
theorem g_dupX1 (X : Sd l Z n0 y B ml rt R k T h cc ss) {v w : Value} (hd : decode B pc = .ok (.dup_x1, 1)) (hc : v.category = 1) (hc2 : w.category = 1) (pc' : Nat) (hp : pc + 1 = pc') (K : Go k n0 Q kc ks T pc' Ls (v :: w :: v :: st)) : Go k n0 Q kc ks T pc Ls (v :: w :: st) := by subst hp; exact K.of fun _ q => XS.dupX1 X.hh X.x rfl (X.d hd) rfl hc hc2 q
theorem g_dup2 (X : Sd l Z n0 y B ml rt R k T h cc ss) {v w : Value} (hd : decode B pc = .ok (.dup2, 1)) (hc : v.category = 1) (hc2 : w.category = 1) (pc' : Nat) (hp : pc + 1 = pc') (K : Go k n0 Q kc ks T pc' Ls (v :: w :: v :: w :: st)) : Go k n0 Q kc ks T pc Ls (v :: w :: st) := by subst hp; exact K.of fun _ q => XT.dup2 X.hh X.x rfl (X.d hd) rfl hc hc2 q
/-! jumps -/
theorem g_goto (X : Sd l Z n0 y B ml rt R k T h cc ss) {o : Int} (hd : decode B pc = .ok (.goto o, 3)) (pc' : Nat) (ho : 0 ≤ (pc : Int) + o) (hp : ((pc : Int) + o).toNat = pc') (K : Go k n0 Q kc ks T pc' Ls st) : Go k n0 Q kc ks T pc Ls st := K.of fun _ q => XS.goto X.hh X.x rfl rfl (X.d hd) ho hp q
theorem g_if (X : Sd l Z n0 y B ml rt R k T h cc ss) {cd : ClassFile.Cond} {a : Int32} {o : Int} {C : Prop} (hc : ifCond.holds cd a = true ↔ C) (hd : decode B pc = .ok (.ifCond cd o, 3)) (pT : Nat) (ho : 0 ≤ (pc : Int) + o) (hT : ((pc : Int) + o).toNat = pT) (pF : Nat) (hF : pc + 3 = pF) (K1 : C → Go k n0 Q kc ks T pT Ls st) (K2 : ¬ C → Go k n0 Q kc ks T pF Ls st) : Go k n0 Q kc ks T pc Ls (.int a :: st) := by
  subst hF
  cases q : ifCond.holds cd a with
  | true => exact (K1 (hc.mp q)).of fun _ z => XS.ifYes X.hh X.x rfl rfl (X.d hd) rfl q ho hT z
  | false => exact (K2 (fun z => by rw [hc.mpr z] at q; cases q)).of fun _ z => XS.ifNo X.hh X.x rfl (X.d hd) rfl q z
theorem g_icmp (X : Sd l Z n0 y B ml rt R k T h cc ss) {cd : ClassFile.Cond} {a b : Int32} {o : Int} {C : Prop} (hc : if_icmp.holds cd a b = true ↔ C) (hd : decode B pc = .ok (.if_icmp cd o, 3)) (pT : Nat) (ho : 0 ≤ (pc : Int) + o) (hT : ((pc : Int) + o).toNat = pT) (pF : Nat) (hF : pc + 3 = pF) (K1 : C → Go k n0 Q kc ks T pT Ls st) (K2 : ¬ C → Go k n0 Q kc ks T pF Ls st) : Go k n0 Q kc ks T pc Ls (.int b :: .int a :: st) := by
  subst hF
  cases q : if_icmp.holds cd a b with
  | true => exact (K1 (hc.mp q)).of fun _ z => XS.icmpYes X.hh X.x rfl rfl (X.d hd) rfl q ho hT z
  | false => exact (K2 (fun z => by rw [hc.mpr z] at q; cases q)).of fun _ z => XS.icmpNo X.hh X.x rfl (X.d hd) rfl q z
/-- the same, told the other way round: the jump is taken where C fails -/
theorem g_ifN (X : Sd l Z n0 y B ml rt R k T h cc ss) {cd : ClassFile.Cond} {a : Int32} {o : Int} {C : Prop} (hc : ifCond.holds cd a = true ↔ ¬ C) (hd : decode B pc = .ok (.ifCond cd o, 3)) (pT : Nat) (ho : 0 ≤ (pc : Int) + o) (hT : ((pc : Int) + o).toNat = pT) (pF : Nat) (hF : pc + 3 = pF) (K1 : C → Go k n0 Q kc ks T pF Ls st) (K2 : ¬ C → Go k n0 Q kc ks T pT Ls st) : Go k n0 Q kc ks T pc Ls (.int a :: st) :=
  g_if X hc hd pT ho hT pF hF K2 fun q => K1 (Classical.not_not.mp q)
theorem g_icmpN (X : Sd l Z n0 y B ml rt R k T h cc ss) {cd : ClassFile.Cond} {a b : Int32} {o : Int} {C : Prop} (hc : if_icmp.holds cd a b = true ↔ ¬ C) (hd : decode B pc = .ok (.if_icmp cd o, 3)) (pT : Nat) (ho : 0 ≤ (pc : Int) + o) (hT : ((pc : Int) + o).toNat = pT) (pF : Nat) (hF : pc + 3 = pF) (K1 : C → Go k n0 Q kc ks T pF Ls st) (K2 : ¬ C → Go k n0 Q kc ks T pT Ls st) : Go k n0 Q kc ks T pc Ls (.int b :: .int a :: st) :=
  g_icmp X hc hd pT ho hT pF hF K2 fun q => K1 (Classical.not_not.mp q)
theorem z_eq {a : Int32} : ifCond.holds .eq a = true ↔ a = 0 := by simp [ifCond.holds]
theorem z_ne {a : Int32} : ifCond.holds .ne a = true ↔ ¬ a = 0 := by simp [ifCond.holds]
theorem z_lt {a : Int32} : ifCond.holds .lt a = true ↔ a < 0 := by simp [ifCond.holds]
theorem z_ge {a : Int32} : ifCond.holds .ge a = true ↔ ¬ a < 0 := by simp [ifCond.holds, Int32.not_lt]
theorem z_gt {a : Int32} : ifCond.holds .gt a = true ↔ 0 < a := by simp [ifCond.holds]
theorem z_le {a : Int32} : ifCond.holds .le a = true ↔ ¬ 0 < a := by simp [ifCond.holds, Int32.not_lt]
theorem i_eq {a b : Int32} : if_icmp.holds .eq a b = true ↔ a = b := by simp [if_icmp.holds]
theorem i_ne {a b : Int32} : if_icmp.holds .ne a b = true ↔ ¬ a = b := by simp [if_icmp.holds]
theorem i_lt {a b : Int32} : if_icmp.holds .lt a b = true ↔ a < b := by simp [if_icmp.holds]
theorem i_ge {a b : Int32} : if_icmp.holds .ge a b = true ↔ ¬ a < b := by simp [if_icmp.holds, Int32.not_lt]
theorem i_gt {a b : Int32} : if_icmp.holds .gt a b = true ↔ b < a := by simp [if_icmp.holds]
theorem i_le {a b : Int32} : if_icmp.holds .le a b = true ↔ ¬ b < a := by simp [if_icmp.holds, Int32.not_lt]
theorem l_of {b : Bool} {C : Prop} (h1 : C → b = true) (h2 : ¬ C → b = false) : b = true ↔ C := ⟨fun q => Classical.byContradiction fun z => Bool.noConfusion ((h2 z).symm.trans q), h1⟩
theorem l_eq {a b : Int64} : ifCond.holds .eq (XT.cmpL a b) = true ↔ a = b := l_of XT.ll_eq_t XT.ll_eq_f
theorem l_ne {a b : Int64} : ifCond.holds .ne (XT.cmpL a b) = true ↔ ¬ a = b := l_of XT.ll_ne_t (fun q => XT.ll_ne_f (Classical.not_not.mp q))
theorem l_lt {a b : Int64} : ifCond.holds .lt (XT.cmpL a b) = true ↔ a < b := l_of XT.ll_lt_t XT.ll_lt_f
theorem l_ge {a b : Int64} : ifCond.holds .ge (XT.cmpL a b) = true ↔ ¬ a < b := l_of XT.ll_ge_t (fun q => XT.ll_ge_f (Classical.not_not.mp q))
theorem l_gt {a b : Int64} : ifCond.holds .gt (XT.cmpL a b) = true ↔ b < a := l_of XT.ll_gt_t XT.ll_gt_f
theorem l_le {a b : Int64} : ifCond.holds .le (XT.cmpL a b) = true ↔ ¬ b < a := l_of XT.ll_le_t (fun q => XT.ll_le_f (Classical.not_not.mp q))
theorem g_nullY (X : Sd l Z n0 y B ml rt R k T h cc ss) {o : Int} (hd : decode B pc = .ok (.ifnull o, 3)) (pc' : Nat) (ho : 0 ≤ (pc : Int) + o) (hp : ((pc : Int) + o).toNat = pc') (K : Go k n0 Q kc ks T pc' Ls st) : Go k n0 Q kc ks T pc Ls (.null :: st) := K.of fun _ q => XS.ifnullYes X.hh X.x rfl rfl (X.d hd) rfl ho hp q
theorem g_nullN (X : Sd l Z n0 y B ml rt R k T h cc ss) {o : Int} {a : Addr} (hd : decode B pc = .ok (.ifnull o, 3)) (pc' : Nat) (hp : pc + 3 = pc') (K : Go k n0 Q kc ks T pc' Ls st) : Go k n0 Q kc ks T pc Ls (.ref a :: st) := by subst hp; exact K.of fun _ q => XS.ifnullNo X.hh X.x rfl (X.d hd) rfl q
theorem g_nonnullY (X : Sd l Z n0 y B ml rt R k T h cc ss) {o : Int} {a : Addr} (hd : decode B pc = .ok (.ifnonnull o, 3)) (pc' : Nat) (ho : 0 ≤ (pc : Int) + o) (hp : ((pc : Int) + o).toNat = pc') (K : Go k n0 Q kc ks T pc' Ls st) : Go k n0 Q kc ks T pc Ls (.ref a :: st) := K.of fun _ q => XS.ifnonnullYes X.hh X.x rfl rfl (X.d hd) rfl ho hp q
theorem g_nonnullN (X : Sd l Z n0 y B ml rt R k T h cc ss) {o : Int} (hd : decode B pc = .ok (.ifnonnull o, 3)) (pc' : Nat) (hp : pc + 3 = pc') (K : Go k n0 Q kc ks T pc' Ls st) : Go k n0 Q kc ks T pc Ls (.null :: st) := by subst hp; exact K.of fun _ q => XS.ifnonnullNo X.hh X.x rfl (X.d hd) rfl q
theorem g_acmpY (X : Sd l Z n0 y B ml rt R k T h cc ss) {cd : ClassFile.ACond} {v w : Value} {o : Int} (hd : decode B pc = .ok (.if_acmp cd o, 3)) (hv : v.isRef = true) (hw : w.isRef = true) (hc : XT.acmp cd v w = true) (pc' : Nat) (ho : 0 ≤ (pc : Int) + o) (hp : ((pc : Int) + o).toNat = pc') (K : Go k n0 Q kc ks T pc' Ls st) : Go k n0 Q kc ks T pc Ls (w :: v :: st) := K.of fun _ q => XT.acmpYes X.hh X.x rfl rfl (X.d hd) rfl hv hw hc ho hp q
theorem g_acmpN (X : Sd l Z n0 y B ml rt R k T h cc ss) {cd : ClassFile.ACond} {v w : Value} {o : Int} (hd : decode B pc = .ok (.if_acmp cd o, 3)) (hv : v.isRef = true) (hw : w.isRef = true) (hc : XT.acmp cd v w = false) (pc' : Nat) (hp : pc + 3 = pc') (K : Go k n0 Q kc ks T pc' Ls st) : Go k n0 Q kc ks T pc Ls (w :: v :: st) := by subst hp; exact K.of fun _ q => XT.acmpNo X.hh X.x rfl (X.d hd) rfl hv hw hc q
theorem a_eq {a b : Addr} : XT.acmp .eq (.ref a) (.ref b) = true ↔ a = b := by simp [XT.acmp]
theorem a_ne {a b : Addr} : XT.acmp .ne (.ref a) (.ref b) = true ↔ ¬ a = b := by simp [XT.acmp]
theorem g_acmp (X : Sd l Z n0 y B ml rt R k T h cc ss) {cd : ClassFile.ACond} {a b : Addr} {o : Int} {C : Prop} (hc : XT.acmp cd (.ref a) (.ref b) = true ↔ C) (hd : decode B pc = .ok (.if_acmp cd o, 3)) (pT : Nat) (ho : 0 ≤ (pc : Int) + o) (hT : ((pc : Int) + o).toNat = pT) (pF : Nat) (hF : pc + 3 = pF) (K1 : C → Go k n0 Q kc ks T pT Ls st) (K2 : ¬ C → Go k n0 Q kc ks T pF Ls st) : Go k n0 Q kc ks T pc Ls (.ref b :: .ref a :: st) := by
  cases q : XT.acmp cd (.ref a) (.ref b) with
  | true => exact g_acmpY X hd rfl rfl q pT ho hT (K1 (hc.mp q))
  | false => exact g_acmpN X hd rfl rfl q pF hF (K2 (fun z => by rw [hc.mpr z] at q; cases q))
theorem g_acmpNN (X : Sd l Z n0 y B ml rt R k T h cc ss) {cd : ClassFile.ACond} {a b : Addr} {o : Int} {C : Prop} (hc : XT.acmp cd (.ref a) (.ref b) = true ↔ ¬ C) (hd : decode B pc = .ok (.if_acmp cd o, 3)) (pT : Nat) (ho : 0 ≤ (pc : Int) + o) (hT : ((pc : Int) + o).toNat = pT) (pF : Nat) (hF : pc + 3 = pF) (K1 : C → Go k n0 Q kc ks T pF Ls st) (K2 : ¬ C → Go k n0 Q kc ks T pT Ls st) : Go k n0 Q kc ks T pc Ls (.ref b :: .ref a :: st) :=
  g_acmp X hc hd pT ho hT pF hF K2 fun q => K1 (Classical.not_not.mp q)
/-! constants of the pool -/
theorem g_ldcI (X : Sd l Z n0 y B ml rt R k T h cc ss) {i : Nat} {v : Int32} (w : (Jvm.Cond.constant y.cls i v).before a0 Z = true) (hd : decode B pc = .ok (.ldc i, 2)) (pc' : Nat) (hp : pc + 2 = pc') (K : Go k n0 Q kc ks T pc' Ls (.int v :: st)) : Go k n0 Q kc ks T pc Ls st := by
  subst hp; obtain ⟨⟨locs, Y, N⟩, eh, hx, hZ, hown, hby, -⟩ := X
  exact K.of fun _ q => Y.ldcI hx hown (mv hZ w) rfl (Jvm.hb hby hd) q
theorem g_ldc2J (X : Sd l Z n0 y B ml rt R k T h cc ss) {i : Nat} {v : Int64} (w : (Jvm.Cond.constantLong y.cls i v).before a0 Z = true) (hd : decode B pc = .ok (.ldc2_w i, 3)) (pc' : Nat) (hp : pc + 3 = pc') (K : Go k n0 Q kc ks T pc' Ls (.long v :: st)) : Go k n0 Q kc ks T pc Ls st := by
  subst hp; obtain ⟨⟨locs, Y, N⟩, eh, hx, hZ, hown, hby, -⟩ := X
  exact K.of fun _ q => Y.ldc2J hx hown (mv hZ w) rfl (Jvm.hb hby hd) q
/-! returns -/
theorem g_retI (X : Sd l Z n0 y B ml (some .int) R k T h cc ss) {z : Int32} (hd : decode B pc = .ok (.ireturn, 1)) (hk : cc ≤ kc) (hs : ss ≤ ks) (hQ : Q (some (.int z)) h) : Go k n0 Q kc ks T pc Ls [.int z] :=
  Go.end X hk hs (fun q => nomatch q) (fun fs hr => by obtain ⟨⟨locs, Y, N⟩, eh, hx, hZ, hown, hby, hml, hnm, hrt, hlk⟩ := X; exact Y.ireturnOut hx hrt rfl (Or.inl rfl) (Jvm.hb hby hd) hr) hQ
theorem g_retN (X : Sd l Z n0 y B ml rt R k T h cc ss) {z : Int32} {t : FieldType} (hrt : rt = some t) (ht : t = .boolean ∨ t = .byte ∨ t = .char ∨ t = .short) (hd : decode B pc = .ok (.ireturn, 1)) (hk : cc ≤ kc) (hs : ss ≤ ks) (hQ : Q (some (.int (nar t z))) h) : Go k n0 Q kc ks T pc Ls [.int z] :=
  Go.end X hk hs (fun q => by rw [hrt] at q; cases q) (fun fs hr => by obtain ⟨⟨locs, Y, N⟩, eh, hx, hZ, hown, hby, hml, hnm, hrt', hlk⟩ := X; exact retN Y hx (hrt'.trans hrt) ht (Jvm.hb hby hd) hr) hQ
theorem g_retZ (X : Sd l Z n0 y B ml (some .boolean) R k T h cc ss) {z : Int32} (hd : decode B pc = .ok (.ireturn, 1)) (hk : cc ≤ kc) (hs : ss ≤ ks) (hQ : Q (some (.int (z &&& 1))) h) : Go k n0 Q kc ks T pc Ls [.int z] := g_retN X rfl (Or.inl rfl) hd hk hs hQ
theorem g_retL (X : Sd l Z n0 y B ml (some .long) R k T h cc ss) {z : Int64} (hd : decode B pc = .ok (.lreturn, 1)) (hk : cc ≤ kc) (hs : ss ≤ ks) (hQ : Q (some (.long z)) h) : Go k n0 Q kc ks T pc Ls [.long z] :=
  Go.end X hk hs (fun q => nomatch q) (fun fs hr => by obtain ⟨⟨locs, Y, N⟩, eh, hx, hZ, hown, hby, hml, hnm, hrt, hlk⟩ := X; exact Y.lreturnOut hx hrt (Jvm.hb hby hd) hr) hQ
theorem g_retA (X : Sd l Z n0 y B ml rt R k T h cc ss) {v : Value} {t : FieldType} (hrt : rt = some t) (ht : t.isReference = true) (hv : v.isRef = true) (hd : decode B pc = .ok (.areturn, 1)) (hk : cc ≤ kc) (hs : ss ≤ ks) (hQ : Q (some v) h) : Go k n0 Q kc ks T pc Ls [v] :=
  Go.end X hk hs (fun q => by rw [hrt] at q; cases q) (fun fs hr => by obtain ⟨⟨locs, Y, N⟩, eh, hx, hZ, hown, hby, hml, hnm, hrt', hlk⟩ := X; exact Y.areturnOut hx hv (hrt'.trans hrt) ht (Jvm.hb hby hd) hr) hQ
theorem g_ret (X : Sd l Z n0 y B ml none R k T h cc ss) (hd : decode B pc = .ok (.return_, 1)) (hk : cc ≤ kc) (hs : ss ≤ ks) (hQ : Q none h) : Go k n0 Q kc ks T pc Ls [] :=
  Go.end X hk hs (fun _ => rfl) (fun fs hr => by obtain ⟨⟨locs, Y, N⟩, eh, hx, hZ, hown, hby, hml, hnm, hrt, hlk⟩ := X; exact Y.returnOut hx hrt (Jvm.hb hby hd) hr) hQ
/-! objects -/
theorem g_new (X : Sd l Z n0 y B ml rt R k T h cc ss) {i n : Nat} {C : String} (w : (Jvm.Cond.classLink y.cls i C).before a0 Z = true) (wi : (Jvm.Cond.instantiable C n).before a0 Z = true) (wz : (Jvm.Cond.initialized C).before a0 Z = true) (hd : decode B pc = .ok (.new i, 3)) (hc : cc + 1 ≤ R.cells) (hl : ss + n ≤ R.slots) (pc' : Nat) (hp : pc + 3 = pc')
    (K : ∀ T' h' a, Sd l Z n0 y B ml rt R k T' h' (cc + 1) (ss + n) → a = h.size → Ext h h' → Exa Z h' a C → (∀ {O nm d : String} {ty : FieldType}, Laid Z a0 C O nm d → parseFieldDescriptor d = some ty → Fld Z h' a O nm d (defaultValue ty)) → Go k n0 Q kc ks T' pc' Ls (.ref a :: st)) : Go k n0 Q kc ks T pc Ls st := by
  subst hp; obtain ⟨⟨locs, Y, N⟩, eh, hx, hZ, hown, hby, hr⟩ := X
  obtain ⟨T2, h2, X2, e2, E2, A2, D2, -, st2⟩ := newO Y hx hZ hown w wi wz eh (g := mkF (owm k) pc Ls st) rfl (Jvm.hb hby hd) hc hl
  exact (K T2 h2 h.size ⟨⟨locs, X2, N⟩, e2, hx, hZ, hown, hby, hr⟩ rfl E2 A2 D2).of st2
theorem g_getF (X : Sd l Z n0 y B ml rt R k T h cc ss) {i : Nat} {R0 O n d : String} (w : (Jvm.Cond.fieldLink y.cls i R0 n d).before a0 Z = true) (via : Via Z R0 O n d) {a : Addr} {v : Value} (F : Fld Z h a O n d v) (hd : decode B pc = .ok (.getfield i, 3)) (pc' : Nat) (hp : pc + 3 = pc')
    (K : ∀ T', Sd l Z n0 y B ml rt R k T' h cc ss → Go k n0 Q kc ks T' pc' Ls (v :: st)) : Go k n0 Q kc ks T pc Ls (.ref a :: st) := by
  subst hp; obtain ⟨⟨locs, Y, N⟩, eh, hx, hZ, hown, hby, hr⟩ := X
  obtain ⟨T2, X2, e2, st2⟩ := getF Y hx hZ hown (host := "") (Or.inl w) via eh F (g := mkF (owm k) pc Ls (.ref a :: st)) rfl rfl (Jvm.hb hby hd)
  exact (K T2 ⟨⟨locs, X2, N⟩, e2, hx, hZ, hown, hby, hr⟩).of st2
theorem g_getFH (X : Sd l Z n0 y B ml rt R k T h cc ss) {i : Nat} {R0 O n d host : String} (w : (Jvm.Cond.fieldLinkNest y.cls i R0 n d host).before a0 Z = true) (via : Via Z R0 O n d) {a : Addr} {v : Value} (F : Fld Z h a O n d v) (hd : decode B pc = .ok (.getfield i, 3)) (pc' : Nat) (hp : pc + 3 = pc')
    (K : ∀ T', Sd l Z n0 y B ml rt R k T' h cc ss → Go k n0 Q kc ks T' pc' Ls (v :: st)) : Go k n0 Q kc ks T pc Ls (.ref a :: st) := by
  subst hp; obtain ⟨⟨locs, Y, N⟩, eh, hx, hZ, hown, hby, hr⟩ := X
  obtain ⟨T2, X2, e2, st2⟩ := getF Y hx hZ hown (Or.inr w) via eh F (g := mkF (owm k) pc Ls (.ref a :: st)) rfl rfl (Jvm.hb hby hd)
  exact (K T2 ⟨⟨locs, X2, N⟩, e2, hx, hZ, hown, hby, hr⟩).of st2
theorem g_getS (X : Sd l Z n0 y B ml rt R k T h cc ss) {i : Nat} {R0 O n d : String} (w : (Jvm.Cond.fieldLink y.cls i R0 n d).before a0 Z = true) (via : Via Z R0 O n d) {v : Value} (F : Sta Z h O n d v) (hd : decode B pc = .ok (.getstatic i, 3)) (pc' : Nat) (hp : pc + 3 = pc')
    (K : ∀ T', Sd l Z n0 y B ml rt R k T' h cc ss → Go k n0 Q kc ks T' pc' Ls (v :: st)) : Go k n0 Q kc ks T pc Ls st := by
  subst hp; obtain ⟨⟨locs, Y, N⟩, eh, hx, hZ, hown, hby, hr⟩ := X
  obtain ⟨T2, X2, e2, st2⟩ := getS2 Y hx hZ hown (host := "") (Or.inl w) via eh F (g := mkF (owm k) pc Ls st) rfl (Jvm.hb hby hd)
  exact (K T2 ⟨⟨locs, X2, N⟩, e2, hx, hZ, hown, hby, hr⟩).of st2
/-- a final field in a constructor of its class -/
theorem g_putFin (X : Sd l Z n0 y B ml rt R k T h cc ss) {i kk : Nat} {O n d C : String} (w : (Jvm.Cond.fieldLink y.cls i O n d).before a0 Z = true) {a : Addr} {v old : Value} (F : Fld Z h a O n d old) (E : Exa Z h a C) (L : (Jvm.Cond.laysFinal C O n d).before a0 Z = true) (ho : y.cls = O) (hi : y.name = "<init>") (wi : (Jvm.Cond.instantiable C kk).before a0 Z = true)
    (g0 : n0 ≤ a) (ty : FieldType) (hty : parseFieldDescriptor d = some ty) (hn : narrow ty v = v) (hf : fits ty v = true) (hd : decode B pc = .ok (.putfield i, 3)) (pc' : Nat) (hp : pc + 3 = pc')
    (K : ∀ T' h', Sd l Z n0 y B ml rt R k T' h' cc ss → Wr h h' a (Jvm.RoadKit.slotOf Z O n d) v → Go k n0 Q kc ks T' pc' Ls st) : Go k n0 Q kc ks T pc Ls (v :: .ref a :: st) := by
  subst hp; obtain ⟨⟨locs, Y, N⟩, eh, hx, hZ, hown, hby, hml, hnm, hr⟩ := X
  obtain ⟨T2, h2, X2, e2, W2, st2⟩ := putF Y hx hZ hown (host := "") (Or.inl w) Via.refl eh F E (Or.inr ⟨L, ho, hnm.trans hi⟩) wi hty hn hf (g := mkF (owm k) pc Ls (v :: .ref a :: st)) rfl rfl (Jvm.hb hby hd)
  exact (K T2 h2 ⟨⟨_, X2, Fr.snoc X2 N g0⟩, e2, hx, hZ, hown, hby, hml, hnm, hr⟩ W2).of st2
theorem g_putF (X : Sd l Z n0 y B ml rt R k T h cc ss) {i kk : Nat} {R0 O n d C : String} (w : (Jvm.Cond.fieldLink y.cls i R0 n d).before a0 Z = true) (via : Via Z R0 O n d) {a : Addr} {v old : Value} (F : Fld Z h a O n d old) (E : Exa Z h a C) (L : (Jvm.Cond.lays C O n d).before a0 Z = true) (wi : (Jvm.Cond.instantiable C kk).before a0 Z = true)
    (g0 : n0 ≤ a) (ty : FieldType) (hty : parseFieldDescriptor d = some ty) (hn : narrow ty v = v) (hf : fits ty v = true) (hd : decode B pc = .ok (.putfield i, 3)) (pc' : Nat) (hp : pc + 3 = pc')
    (K : ∀ T' h', Sd l Z n0 y B ml rt R k T' h' cc ss → Wr h h' a (Jvm.RoadKit.slotOf Z O n d) v → Go k n0 Q kc ks T' pc' Ls st) : Go k n0 Q kc ks T pc Ls (v :: .ref a :: st) := by
  subst hp; obtain ⟨⟨locs, Y, N⟩, eh, hx, hZ, hown, hby, hr⟩ := X
  obtain ⟨T2, h2, X2, e2, W2, st2⟩ := putF Y hx hZ hown (host := "") (Or.inl w) via eh F E (Or.inl L) wi hty hn hf (g := mkF (owm k) pc Ls (v :: .ref a :: st)) rfl rfl (Jvm.hb hby hd)
  exact (K T2 h2 ⟨⟨_, X2, Fr.snoc X2 N g0⟩, e2, hx, hZ, hown, hby, hr⟩ W2).of st2
theorem g_putFinN (X : Sd l Z n0 y B ml rt R k T h cc ss) {i kk : Nat} {O n d C : String} (w : (Jvm.Cond.fieldLink y.cls i O n d).before a0 Z = true) {a : Addr} {v old : Value} (v' : Value) (F : Fld Z h a O n d old) (E : Exa Z h a C) (L : (Jvm.Cond.laysFinal C O n d).before a0 Z = true) (ho : y.cls = O) (hi : y.name = "<init>") (wi : (Jvm.Cond.instantiable C kk).before a0 Z = true)
    (g0 : n0 ≤ a) (ty : FieldType) (hty : parseFieldDescriptor d = some ty) (hn : narrow ty v = v') (hf : fits ty v' = true) (hd : decode B pc = .ok (.putfield i, 3)) (pc' : Nat) (hp : pc + 3 = pc')
    (K : ∀ T' h', Sd l Z n0 y B ml rt R k T' h' cc ss → Wr h h' a (Jvm.RoadKit.slotOf Z O n d) v' → Go k n0 Q kc ks T' pc' Ls st) : Go k n0 Q kc ks T pc Ls (v :: .ref a :: st) := by
  subst hp; obtain ⟨⟨locs, Y, N⟩, eh, hx, hZ, hown, hby, hml, hnm, hr⟩ := X
  obtain ⟨T2, h2, X2, e2, W2, st2⟩ := putFN Y hx hZ hown w Via.refl eh F E (Or.inr ⟨L, ho, hnm.trans hi⟩) wi hty hn hf (g := mkF (owm k) pc Ls (v :: .ref a :: st)) rfl rfl (Jvm.hb hby hd)
  exact (K T2 h2 ⟨⟨_, X2, Fr.snoc X2 N g0⟩, e2, hx, hZ, hown, hby, hml, hnm, hr⟩ W2).of st2
theorem g_initO (X : Sd l Z n0 y B ml rt R k T h cc ss) {i : Nat} {a : Addr} (w1 : (Jvm.Cond.methodLink y.cls i Lib.objectInit).before a0 Z = true) (w2 : (Jvm.Cond.instanceMethod Lib.objectInit).before a0 Z = true) (w3 : (Jvm.Cond.code Lib.objectInit ⟨#[0xb1]⟩ 1 none).before a0 Z = true) (hsz : Ls.size = ml) (hf : 1 ≤ R.frames) (hl : (st.map fun v => v.category).sum + 12 ≤ R.locals) (hd : decode B pc = .ok (.invokespecial i, 3)) (pc' : Nat) (hp : pc + 3 = pc')
    (K : ∀ T', Sd l Z n0 y B ml rt R k T' h cc ss → Go k n0 Q kc ks T' pc' Ls st) : Go k n0 Q kc ks T pc Ls (.ref a :: st) := by
  subst hp; obtain ⟨⟨locs, Y, N⟩, eh, hx, hZ, hown, hby, hml, hr⟩ := X
  obtain ⟨T2, X2, e2, st2⟩ := initO Y hx hZ hown w1 w2 w3 eh (g := mkF (owm k) pc Ls (.ref a :: st)) rfl (hsz.trans hml.symm) rfl (Jvm.hb hby hd) hf (W := (st.map fun v => v.category).sum) (by show 2 * 0 + _ ≤ _; omega) hl
  exact (K T2 ⟨⟨locs, X2, N⟩, e2, hx, hZ, hown, hby, hml, hr⟩).of st2
/-! calls -/
theorem g_callS (X : Sd l Z n0 y B ml rt R k T h cc ss) {i : Nat} {z : MethodName} {Bz : ByteArray} {mz : Nat} {rz : Option FieldType} {rm : Room} {Qz : Option Value → Heap → Prop} (argsL rest : List Value) {ps : List FieldType} {pr : Option FieldType} (M : Met l Z n0 z Bz mz rz [] rm argsL.toArray h Qz rm.cells rm.slots)
    (w1 : (Jvm.Cond.methodLink y.cls i z).before a0 Z = true) (w2 : (Jvm.Cond.static z).before a0 Z = true) (w3 : (Jvm.Cond.initialized z.cls).before a0 Z = true) (w4 : (Jvm.Cond.code z Bz mz rz).before a0 Z = true) (hy : z.cls ≠ "java/lang/invoke/MethodHandle" ∧ z.cls ≠ "java/lang/invoke/VarHandle") (pd : parseMethodDescriptor z.desc = some ⟨ps, pr⟩) (hlen : argsL.length = ps.length)
    (hsz : Ls.size = ml) (hf : rm.frames + 1 ≤ R.frames) (hlo : (rest.map fun v => v.category).sum + (mz + 11) + rm.locals ≤ R.locals) (hc : cc + rm.cells ≤ R.cells) (hs : ss + rm.slots ≤ R.slots) (hd : decode B pc = .ok (.invokestatic i, 3)) (hst : st = argsL.reverse ++ rest) (pc' : Nat) (hp : pc + 3 = pc')
    (K : ∀ v T' h', Sd l Z n0 y B ml rt R k T' h' (cc + rm.cells) (ss + rm.slots) → Qz v h' → Go k n0 Q kc ks T' pc' Ls (v.toList ++ rest)) : Go k n0 Q kc ks T pc Ls st := by
  subst hp; obtain ⟨⟨locs, Y, N⟩, eh, hx, hZ, hown, hby, hml, hr⟩ := X
  obtain ⟨v, _, ⟨T', L', c', n'⟩, -, X', ⟨Lc, hQ, l1, y1, z1⟩, stp⟩ := Jvm.LawKit.callS Y hx (y := z) hown (mvT hZ w1) (mvT hZ w2) (mvT hZ w3) (mvT hZ w4) hy (backOf (W := (rest.map fun v => v.category).sum) (Q := fun v h L => Fr n0 L ∧ Qz v h) M hZ w4 w3 hf hlo) (g := mkF (owm k) pc Ls st) rfl (hsz.trans hml.symm) (argsL := argsL) (rest := rest) (lenOf pd hlen) hst (by show 2 * 0 + _ ≤ _; omega) (Jvm.hb hby hd) (fun _ _ => ⟨rfl, eh, hc, hs⟩)
  dsimp only [Pt.U, Pt.locs, Pt.cells, Pt.slots] at X' l1 y1 z1 stp hQ
  subst l1 y1 z1
  exact (K v T' _ ⟨⟨_, X', N.app hQ.1⟩, rfl, hx, hZ, hown, hby, hml, hr⟩ hQ.2).of stp
theorem g_callI (X : Sd l Z n0 y B ml rt R k T h cc ss) {i : Nat} {z : MethodName} {Bz : ByteArray} {mz : Nat} {rm : Room} {Qz : Option Value → Heap → Prop} (a : Addr) (argsL rest : List Value) {ps : List FieldType} {pr : Option FieldType} (M : Met l Z n0 z Bz mz none [] rm (Value.ref a :: argsL).toArray h Qz rm.cells rm.slots) (hi : z.name = "<init>")
    (w1 : (Jvm.Cond.methodLink y.cls i z).before a0 Z = true) (w2 : (Jvm.Cond.instanceMethod z).before a0 Z = true) (w3 : (Jvm.Cond.initialized z.cls).before a0 Z = true) (w4 : (Jvm.Cond.code z Bz mz none).before a0 Z = true) (hy : z.cls ≠ "java/lang/invoke/MethodHandle" ∧ z.cls ≠ "java/lang/invoke/VarHandle") (pd : parseMethodDescriptor z.desc = some ⟨ps, pr⟩) (hlen : argsL.length = ps.length)
    (hsz : Ls.size = ml) (hf : rm.frames + 1 ≤ R.frames) (hlo : (rest.map fun v => v.category).sum + (mz + 11) + rm.locals ≤ R.locals) (hc : cc + rm.cells ≤ R.cells) (hs : ss + rm.slots ≤ R.slots) (hd : decode B pc = .ok (.invokespecial i, 3)) (hst : st = argsL.reverse ++ .ref a :: rest) (pc' : Nat) (hp : pc + 3 = pc')
    (K : ∀ v T' h', Sd l Z n0 y B ml rt R k T' h' (cc + rm.cells) (ss + rm.slots) → Qz v h' → Go k n0 Q kc ks T' pc' Ls (v.toList ++ rest)) : Go k n0 Q kc ks T pc Ls st := by
  subst hp; obtain ⟨⟨locs, Y, N⟩, eh, hx, hZ, hown, hby, hml, hr⟩ := X
  obtain ⟨v, _, ⟨T', L', c', n'⟩, -, X', ⟨Lc, hQ, l1, y1, z1⟩, stp⟩ := Y.specialBack hx (y := z) hi hown (mvT hZ w1) (mvT hZ w2) (mvT hZ w4) hy (backOf (W := (rest.map fun v => v.category).sum) (Q := fun v h L => Fr n0 L ∧ Qz v h) M hZ w4 w3 hf hlo) (g := mkF (owm k) pc Ls st) rfl (hsz.trans hml.symm) (Steps.refl _) (a := a) (argsL := argsL) (rest := rest) (lenOf pd hlen) hst (by show 2 * 0 + _ ≤ _; omega) (Jvm.hb hby hd) (fun _ _ => ⟨rfl, eh, hc, hs⟩)
  dsimp only [Pt.U, Pt.locs, Pt.cells, Pt.slots] at X' l1 y1 z1 stp hQ
  subst l1 y1 z1
  exact (K v T' _ ⟨⟨_, X', N.app hQ.1⟩, rfl, hx, hZ, hown, hby, hml, hr⟩ hQ.2).of fun _ q => stp.trans q
/-- an instance method, found where it is named -/
theorem g_callV (X : Sd l Z n0 y B ml rt R k T h cc ss) {i : Nat} {z : MethodName} {C : String} {Bz : ByteArray} {mz : Nat} {rz : Option FieldType} {rm : Room} {Qz : Option Value → Heap → Prop} (a : Addr) (argsL rest : List Value) {ps : List FieldType} {pr : Option FieldType} (M : Met l Z n0 z Bz mz rz [] rm (Value.ref a :: argsL).toArray h Qz rm.cells rm.slots) (E : Exa Z h a C)
    (w1 : (Jvm.Cond.methodLink y.cls i z).before a0 Z = true) (w2 : (Jvm.Cond.declares z).before a0 Z = true) (w5 : (Jvm.Cond.selects C z z).before a0 Z = true) (w6 : (Jvm.Cond.instanceMethod z).before a0 Z = true) (w3 : (Jvm.Cond.initialized z.cls).before a0 Z = true) (w4 : (Jvm.Cond.code z Bz mz rz).before a0 Z = true) (hy : z.cls ≠ "java/lang/invoke/MethodHandle" ∧ z.cls ≠ "java/lang/invoke/VarHandle") (pd : parseMethodDescriptor z.desc = some ⟨ps, pr⟩) (hlen : argsL.length = ps.length)
    (hsz : Ls.size = ml) (hf : rm.frames + 1 ≤ R.frames) (hlo : (rest.map fun v => v.category).sum + (mz + 11) + rm.locals ≤ R.locals) (hc : cc + rm.cells ≤ R.cells) (hs : ss + rm.slots ≤ R.slots) (hd : decode B pc = .ok (.invokevirtual i, 3)) (hst : st = argsL.reverse ++ .ref a :: rest) (pc' : Nat) (hp : pc + 3 = pc')
    (K : ∀ v T' h', Sd l Z n0 y B ml rt R k T' h' (cc + rm.cells) (ss + rm.slots) → Qz v h' → Go k n0 Q kc ks T' pc' Ls (v.toList ++ rest)) : Go k n0 Q kc ks T pc Ls st := by
  subst hp; obtain ⟨⟨locs, Y, N⟩, eh, hx, hZ, hown, hby, hml, hr⟩ := X
  obtain ⟨cq, kq, qa, qb, qc⟩ := isOf hZ eh E
  obtain ⟨v, _, ⟨T', L', c', n'⟩, -, X', ⟨Lc, hQ, l1, y1, z1⟩, stp⟩ := Y.virtualBack hx (y := z) (z := z) hown (mvT hZ w1) (mvT hZ w2) (notFace_of_selects (args := #[]) (mvT hZ w5)) (mvT hZ w5) (mvT hZ w6) hy (backOf (W := (rest.map fun v => v.category).sum) (Q := fun v h L => Fr n0 L ∧ Qz v h) M hZ w4 w3 hf hlo) qa qc (g := mkF (owm k) pc Ls st) rfl (hsz.trans hml.symm) (Steps.refl _) (argsL := argsL) (rest := rest) (lenOf pd hlen) hst (by show 2 * 0 + _ ≤ _; omega) (Jvm.hb hby hd) (fun _ _ => ⟨rfl, eh, hc, hs⟩)
  dsimp only [Pt.U, Pt.locs, Pt.cells, Pt.slots] at X' l1 y1 z1 stp hQ
  subst l1 y1 z1
  exact (K v T' _ ⟨⟨_, X', N.app hQ.1⟩, rfl, hx, hZ, hown, hby, hml, hr⟩ hQ.2).of fun _ q => stp.trans q
/-- a private instance method by invokevirtual -/
theorem g_callP (X : Sd l Z n0 y B ml rt R k T h cc ss) {i : Nat} {z : MethodName} {C : String} {Bz : ByteArray} {mz : Nat} {rz : Option FieldType} {rm : Room} {Qz : Option Value → Heap → Prop} (a : Addr) (argsL rest : List Value) {ps : List FieldType} {pr : Option FieldType} (M : Met l Z n0 z Bz mz rz [] rm (Value.ref a :: argsL).toArray h Qz rm.cells rm.slots) (E : Exa Z h a C)
    (w1 : (Jvm.Cond.methodLink y.cls i z).before a0 Z = true) (w2 : (Jvm.Cond.privateMethod z).before a0 Z = true) (w5 : (Jvm.Cond.selects z.cls z z).before a0 Z = true) (w6 : (Jvm.Cond.instanceMethod z).before a0 Z = true) (w3 : (Jvm.Cond.initialized z.cls).before a0 Z = true) (w4 : (Jvm.Cond.code z Bz mz rz).before a0 Z = true) (hy : z.cls ≠ "java/lang/invoke/MethodHandle" ∧ z.cls ≠ "java/lang/invoke/VarHandle") (pd : parseMethodDescriptor z.desc = some ⟨ps, pr⟩) (hlen : argsL.length = ps.length)
    (hsz : Ls.size = ml) (hf : rm.frames + 1 ≤ R.frames) (hlo : (rest.map fun v => v.category).sum + (mz + 11) + rm.locals ≤ R.locals) (hc : cc + rm.cells ≤ R.cells) (hs : ss + rm.slots ≤ R.slots) (hd : decode B pc = .ok (.invokevirtual i, 3)) (hst : st = argsL.reverse ++ .ref a :: rest) (pc' : Nat) (hp : pc + 3 = pc')
    (K : ∀ v T' h', Sd l Z n0 y B ml rt R k T' h' (cc + rm.cells) (ss + rm.slots) → Qz v h' → Go k n0 Q kc ks T' pc' Ls (v.toList ++ rest)) : Go k n0 Q kc ks T pc Ls st := by
  subst hp; obtain ⟨⟨locs, Y, N⟩, eh, hx, hZ, hown, hby, hml, hr⟩ := X
  obtain ⟨cl, qa, qb⟩ := E.cell
  obtain ⟨v, _, ⟨T', L', c', n'⟩, -, X', ⟨Lc, hQ, l1, y1, z1⟩, stp⟩ := Y.privateBack hx (y := z) hown (mvT hZ w1) (mvT hZ w6) (mvT hZ w5) (Cond.privateMethod_at (mvP (args := #[]) hZ w2)) (mvT hZ w4) hy (backOf (W := (rest.map fun v => v.category).sum) (Q := fun v h L => Fr n0 L ∧ Qz v h) M hZ w4 w3 hf hlo) (g := mkF (owm k) pc Ls st) rfl (hsz.trans hml.symm) (Steps.refl _) (by rw [eh]; exact qa) qb (argsL := argsL) (rest := rest) (lenOf pd hlen) hst (by show 2 * 0 + _ ≤ _; omega) (Jvm.hb hby hd) (fun _ _ => ⟨rfl, eh, hc, hs⟩)
  dsimp only [Pt.U, Pt.locs, Pt.cells, Pt.slots] at X' l1 y1 z1 stp hQ
  subst l1 y1 z1
  exact (K v T' _ ⟨⟨_, X', N.app hQ.1⟩, rfl, hx, hZ, hown, hby, hml, hr⟩ hQ.2).of fun _ q => stp.trans q
/-! arrays: n places, f says what each holds -/
def AI (Z : State) (h : Heap) (a : Addr) (ty : FieldType) (n : Nat) (f : Nat → Value) : Prop := ∃ c : Cell, Arr Z h a c ty ∧ c.slots.size = n ∧ n < 2147483648 ∧ ∀ i, i < n → c.slots[i]? = some (f i)
theorem AI.lt {a : Addr} {ty : FieldType} {n : Nat} {f : Nat → Value} (A : AI Z h a ty n f) : a < h.size := by obtain ⟨c, A, -⟩ := A; exact A.lt
theorem AI.ext {h' : Heap} {a : Addr} {ty : FieldType} {n : Nat} {f : Nat → Value} (A : AI Z h a ty n f) (E : Ext h h') : AI Z h' a ty n f := by obtain ⟨c, A, r⟩ := A; exact ⟨c, A.ext E, r⟩
theorem AI.other {h' : Heap} {a b : Addr} {sl : Nat} {v : Value} {ty : FieldType} {n : Nat} {f : Nat → Value} (A : AI Z h a ty n f) (W : Wr h h' b sl v) (q : a ≠ b) : AI Z h' a ty n f := by obtain ⟨c, A, r⟩ := A; exact ⟨c, A.other W q, r⟩
theorem AI.keep {h' : Heap} {ws : List Addr} {a : Addr} {ty : FieldType} {n : Nat} {f : Nat → Value} (A : AI Z h a ty n f) (K : Keep h h' ws) (q : a ∉ ws) : AI Z h' a ty n f := by obtain ⟨c, A, r⟩ := A; exact ⟨c, ⟨K.2.1 a c A.1 q, A.2⟩, r⟩
theorem AI.to {a : Addr} {ty : FieldType} {n : Nat} {f g : Nat → Value} (A : AI Z h a ty n f) (e : ∀ i, i < n → f i = g i) : AI Z h a ty n g := by obtain ⟨c, A, r1, r2, r3⟩ := A; exact ⟨c, A, r1, r2, fun i hi => by rw [r3 i hi, e i hi]⟩
theorem AI.set {h' : Heap} {a : Addr} {ty : FieldType} {n i : Nat} {v : Value} {f : Nat → Value} (A : AI Z h a ty n f) (W : Wr h h' a i v) : AI Z h' a ty n (fun j => if j = i then v else f j) := by
  obtain ⟨c, A, r1, r2, r3⟩ := A
  refine ⟨_, A.same W, by rw [sz_set]; exact r1, r2, fun j hj => ?_⟩
  obtain ⟨c', q1, -, q3, -⟩ := W
  cases A.1.symm.trans q1
  by_cases e : j = i
  · subst e; simp [Cell.setSlot, r1, hj]
  · have e' : ¬ i = j := fun z => e z.symm
    simp [Cell.setSlot, Array.getElem?_setIfInBounds, e', e, r3 j hj]
theorem AI.new {a : Addr} {ty : FieldType} {cA : ClassId} {m : Int32} (A : Arr Z h a (newA cA ty m) ty) (q : ¬ m < 0) {n : Nat} (e : m.toInt = n) : AI Z h a ty n (fun _ => defaultValue ty) := by
  have e1 : m.toNatClampNeg = n := by simp [Int32.toNatClampNeg, e]
  have e2 : n < 2147483648 := by have := m.toInt_lt; omega
  refine ⟨_, A, by rw [sz_new]; exact e1, e2, fun i hi => ?_⟩
  simp [newA, e1, hi]
theorem ix_of {j : Int32} {i n : Nat} (hj : j.toInt = i) (hi : i < n) : ¬ (j < 0 ∨ n ≤ j.toNatClampNeg) ∧ j.toNatClampNeg = i := by
  have e1 : j.toNatClampNeg = i := by simp [Int32.toNatClampNeg, hj]
  refine ⟨fun q => ?_, e1⟩
  rcases q with q | q
  · rw [Int32.lt_iff_toInt_lt, hj] at q; simp at q; omega
  · omega
theorem g_iaload (X : Sd l Z n0 y B ml rt R k T h cc ss) {a : Addr} {n : Nat} {f : Nat → Value} (A : AI Z h a .int n f) {j : Int32} (i : Nat) (hj : j.toInt = i) (hi : i < n) (v : Value) (hv : f i = v) (hd : decode B pc = .ok (.iaload, 1)) (pc' : Nat) (hp : pc + 1 = pc') (K : Go k n0 Q kc ks T pc' Ls (v :: st)) : Go k n0 Q kc ks T pc Ls (.int j :: .ref a :: st) := by
  subst hp hv; obtain ⟨⟨locs, Y, N⟩, eh, hx, hZ, hown, hby, hr⟩ := X
  obtain ⟨c, A, r1, r2, r3⟩ := A; obtain ⟨q1, q2⟩ := ix_of hj hi
  exact K.of fun t q => Y.iaload hx (by rw [eh]; exact A.1) (State.isArrayOf_alike hZ.alike A.2.1) A.2.2 (by rw [r1]; exact q1) (by rw [q2]; exact r3 i hi) (g := mkF (owm k) pc Ls (.int j :: .ref a :: st)) rfl rfl (Jvm.hb hby hd) t q
theorem g_baload (X : Sd l Z n0 y B ml rt R k T h cc ss) {a : Addr} {n : Nat} {f : Nat → Value} (A : AI Z h a .byte n f) {j : Int32} (i : Nat) (hj : j.toInt = i) (hi : i < n) (v : Value) (hv : f i = v) (hd : decode B pc = .ok (.baload, 1)) (pc' : Nat) (hp : pc + 1 = pc') (K : Go k n0 Q kc ks T pc' Ls (v :: st)) : Go k n0 Q kc ks T pc Ls (.int j :: .ref a :: st) := by
  subst hp hv; obtain ⟨⟨locs, Y, N⟩, eh, hx, hZ, hown, hby, hr⟩ := X
  obtain ⟨c, A, r1, r2, r3⟩ := A; obtain ⟨q1, q2⟩ := ix_of hj hi
  exact K.of fun t q => Y.baloadBytes hx (by rw [eh]; exact A.1) (State.isArrayOf_alike hZ.alike A.2.1) A.2.2 (by rw [r1]; exact q1) (by rw [q2]; exact r3 i hi) (g := mkF (owm k) pc Ls (.int j :: .ref a :: st)) rfl rfl (Jvm.hb hby hd) t q
theorem g_laload (X : Sd l Z n0 y B ml rt R k T h cc ss) {a : Addr} {n : Nat} {f : Nat → Value} (A : AI Z h a .long n f) {j : Int32} (i : Nat) (hj : j.toInt = i) (hi : i < n) (v : Value) (hv : f i = v) (hd : decode B pc = .ok (.laload, 1)) (pc' : Nat) (hp : pc + 1 = pc') (K : Go k n0 Q kc ks T pc' Ls (v :: st)) : Go k n0 Q kc ks T pc Ls (.int j :: .ref a :: st) := by
  subst hp hv; obtain ⟨⟨locs, Y, N⟩, eh, hx, hZ, hown, hby, hr⟩ := X
  obtain ⟨c, A, r1, r2, r3⟩ := A; obtain ⟨q1, q2⟩ := ix_of hj hi
  exact K.of fun t q => Y.laload hx (by rw [eh]; exact A.1) (State.isArrayOf_alike hZ.alike A.2.1) A.2.2 (by rw [r1]; exact q1) (by rw [q2]; exact r3 i hi) (g := mkF (owm k) pc Ls (.int j :: .ref a :: st)) rfl rfl (Jvm.hb hby hd) t q
theorem g_aaload (X : Sd l Z n0 y B ml rt R k T h cc ss) {a : Addr} {ty : FieldType} {n : Nat} {f : Nat → Value} (A : AI Z h a ty n f) (hty : ty.isReference = true) {j : Int32} (i : Nat) (hj : j.toInt = i) (hi : i < n) (v : Value) (hv : f i = v) (hd : decode B pc = .ok (.aaload, 1)) (pc' : Nat) (hp : pc + 1 = pc') (K : Go k n0 Q kc ks T pc' Ls (v :: st)) : Go k n0 Q kc ks T pc Ls (.int j :: .ref a :: st) := by
  subst hp hv; obtain ⟨⟨locs, Y, N⟩, eh, hx, hZ, hown, hby, hr⟩ := X
  obtain ⟨c, A, r1, r2, r3⟩ := A; obtain ⟨q1, q2⟩ := ix_of hj hi
  exact K.of fun t q => Y.aaload hx (by rw [eh]; exact A.1) (State.isArrayOf_alike hZ.alike A.2.1) hty A.2.2 (by rw [r1]; exact q1) (by rw [q2]; exact r3 i hi) (g := mkF (owm k) pc Ls (.int j :: .ref a :: st)) rfl rfl (Jvm.hb hby hd) t q
theorem g_alen (X : Sd l Z n0 y B ml rt R k T h cc ss) {a : Addr} {ty : FieldType} {n : Nat} {f : Nat → Value} (A : AI Z h a ty n f) (v : Int32) (hv : v.toInt = n) (hd : decode B pc = .ok (.arraylength, 1)) (pc' : Nat) (hp : pc + 1 = pc') (K : Go k n0 Q kc ks T pc' Ls (.int v :: st)) : Go k n0 Q kc ks T pc Ls (.ref a :: st) := by
  subst hp; obtain ⟨⟨locs, Y, N⟩, eh, hx, hZ, hown, hby, hr⟩ := X
  obtain ⟨c, A, r1, r2, r3⟩ := A
  have ev : c.slots.size.toInt32 = v := by
    rw [r1]; apply Int32.toInt_inj.mp; rw [hv]
    show (Int32.ofNat n).toInt = _
    rw [Int32.toInt_ofNat_of_lt (by omega)]
  exact K.of fun t q => Y.arraylength hx (by rw [eh]; exact A.1) (State.isArrayOf_alike hZ.alike A.2.1) (g := mkF (owm k) pc Ls (.ref a :: st)) rfl rfl (Jvm.hb hby hd) t (by rw [ev]; exact q)
theorem g_newP (X : Sd l Z n0 y B ml rt R k T h cc ss) {aty : ArrayType} (w : (Jvm.Cond.arrayClass (newarray.typeOf aty)).before a0 Z = true) {m : Int32} (n cap : Nat) (hm : m.toInt = n) (hn : n ≤ cap) (hb : cap * 8 ≤ 536870912) (hd : decode B pc = .ok (.newarray aty, 2)) (hc : cc + 1 ≤ R.cells) (hl : ss + cap ≤ R.slots) (pc' : Nat) (hp : pc + 2 = pc')
    (K : ∀ T' h' a, Sd l Z n0 y B ml rt R k T' h' (cc + 1) (ss + cap) → a = h.size → Ext h h' → AI Z h' a (newarray.typeOf aty) n (fun _ => defaultValue (newarray.typeOf aty)) → Go k n0 Q kc ks T' pc' Ls (.ref a :: st)) : Go k n0 Q kc ks T pc Ls (.int m :: st) := by
  subst hp; obtain ⟨⟨locs, Y, N⟩, eh, hx, hZ, hown, hby, hr⟩ := X
  have q : ¬ m < 0 := by
    have e : (0 : Int32).toInt = 0 := by decide
    rw [Int32.lt_iff_toInt_lt, hm]; omega
  have e1 : m.toNatClampNeg = n := by simp [Int32.toNatClampNeg, hm]
  obtain ⟨T2, h2, cA, X2, e2, E2, A2, st2⟩ := newP Y hx hZ w eh (g := mkF (owm k) pc Ls (.int m :: st)) rfl (Jvm.hb hby hd) rfl q (cap := cap) (by omega) hb hc hl
  exact (K T2 h2 h.size ⟨⟨locs, X2, N⟩, e2, hx, hZ, hown, hby, hr⟩ rfl E2 (AI.new A2 q hm)).of st2
theorem g_iastore (X : Sd l Z n0 y B ml rt R k T h cc ss) {a : Addr} {n : Nat} {f : Nat → Value} (A : AI Z h a .int n f) {j x : Int32} (i : Nat) (hj : j.toInt = i) (hi : i < n) (g0 : n0 ≤ a) (hd : decode B pc = .ok (.iastore, 1)) (pc' : Nat) (hp : pc + 1 = pc')
    (K : ∀ T' h', Sd l Z n0 y B ml rt R k T' h' cc ss → Wr h h' a i (.int x) → Go k n0 Q kc ks T' pc' Ls st) : Go k n0 Q kc ks T pc Ls (.int x :: .int j :: .ref a :: st) := by
  subst hp; obtain ⟨⟨locs, Y, N⟩, eh, hx, hZ, hown, hby, hr⟩ := X
  obtain ⟨c, A, r1, r2, r3⟩ := A; obtain ⟨q1, q2⟩ := ix_of hj hi
  obtain ⟨T2, h2, X2, e2, W2, st2⟩ := stI Y hx hZ eh A (j := j) (x := x) (by rw [r1]; exact q1) (g := mkF (owm k) pc Ls (.int x :: .int j :: .ref a :: st)) rfl rfl (Jvm.hb hby hd)
  rw [q2] at X2 W2
  exact (K T2 h2 ⟨⟨_, X2, Fr.snoc X2 N g0⟩, e2, hx, hZ, hown, hby, hr⟩ W2).of st2
theorem g_lastore (X : Sd l Z n0 y B ml rt R k T h cc ss) {a : Addr} {n : Nat} {f : Nat → Value} (A : AI Z h a .long n f) {j : Int32} {x : Int64} (i : Nat) (hj : j.toInt = i) (hi : i < n) (g0 : n0 ≤ a) (hd : decode B pc = .ok (.lastore, 1)) (pc' : Nat) (hp : pc + 1 = pc')
    (K : ∀ T' h', Sd l Z n0 y B ml rt R k T' h' cc ss → Wr h h' a i (.long x) → Go k n0 Q kc ks T' pc' Ls st) : Go k n0 Q kc ks T pc Ls (.long x :: .int j :: .ref a :: st) := by
  subst hp; obtain ⟨⟨locs, Y, N⟩, eh, hx, hZ, hown, hby, hr⟩ := X
  obtain ⟨c, A, r1, r2, r3⟩ := A; obtain ⟨q1, q2⟩ := ix_of hj hi
  obtain ⟨T2, h2, X2, e2, W2, st2⟩ := stJ Y hx hZ eh A (j := j) (x := x) (by rw [r1]; exact q1) (g := mkF (owm k) pc Ls (.long x :: .int j :: .ref a :: st)) rfl rfl (Jvm.hb hby hd)
  rw [q2] at X2 W2
  exact (K T2 h2 ⟨⟨_, X2, Fr.snoc X2 N g0⟩, e2, hx, hZ, hown, hby, hr⟩ W2).of st2
theorem g_bastore (X : Sd l Z n0 y B ml rt R k T h cc ss) {a : Addr} {n : Nat} {f : Nat → Value} (A : AI Z h a .byte n f) {j x : Int32} (i : Nat) (hj : j.toInt = i) (hi : i < n) (g0 : n0 ≤ a) (hd : decode B pc = .ok (.bastore, 1)) (pc' : Nat) (hp : pc + 1 = pc')
    (K : ∀ T' h', Sd l Z n0 y B ml rt R k T' h' cc ss → Wr h h' a i (.int x.toInt8.toInt32) → Go k n0 Q kc ks T' pc' Ls st) : Go k n0 Q kc ks T pc Ls (.int x :: .int j :: .ref a :: st) := by
  subst hp; obtain ⟨⟨locs, Y, N⟩, eh, hx, hZ, hown, hby, hr⟩ := X
  obtain ⟨c, A, r1, r2, r3⟩ := A; obtain ⟨q1, q2⟩ := ix_of hj hi
  obtain ⟨T2, h2, X2, e2, W2, st2⟩ := stB Y hx hZ eh A (j := j) (x := x) (by rw [r1]; exact q1) (g := mkF (owm k) pc Ls (.int x :: .int j :: .ref a :: st)) rfl rfl (Jvm.hb hby hd)
  rw [q2] at X2 W2
  exact (K T2 h2 ⟨⟨_, X2, Fr.snoc X2 N g0⟩, e2, hx, hZ, hown, hby, hr⟩ W2).of st2
end Ow
theorem own_b1 : ((1 : Int32) &&& 1) = 1 := by decide
theorem own_b0 : ((0 : Int32) &&& 1) = 0 := by decide
theorem own_one : (some (Value.int ((1 : Int32) &&& 1))) = some (.int 1) := congrArg (fun z => some (Value.int z)) own_b1
theorem w0 {Z : State} {a0 : Array Value} (hw : ∀ d ∈ tables_1, d.before a0 Z = true) : (Jvm.Cond.fieldLink "com/example/fluxmark/fluxmark/logic/ConnectiveApplyPinLaw" (7 : Nat) "com/example/fluxmark/fluxmark/logic/Formula$Connective" "AND" "Lcom/example/fluxmark/fluxmark/logic/Formula$Connective;").before a0 Z = true := hw _ (List.mem_of_getElem? (i := 0) rfl)
theorem w1 {Z : State} {a0 : Array Value} (hw : ∀ d ∈ tables_1, d.before a0 Z = true) : (Jvm.Cond.initialized "com/example/fluxmark/fluxmark/logic/Formula$Connective").before a0 Z = true := hw _ (List.mem_of_getElem? (i := 1) rfl)
theorem w2 {Z : State} {a0 : Array Value} (hw : ∀ d ∈ tables_1, d.before a0 Z = true) : (Jvm.Cond.laysStatic "com/example/fluxmark/fluxmark/logic/Formula$Connective" "AND" "Lcom/example/fluxmark/fluxmark/logic/Formula$Connective;").before a0 Z = true := hw _ (List.mem_of_getElem? (i := 2) rfl)
theorem w3 {Z : State} {a0 : Array Value} (hw : ∀ d ∈ tables_1, d.before a0 Z = true) : (Jvm.Cond.methodLink "com/example/fluxmark/fluxmark/logic/ConnectiveApplyPinLaw" (22 : Nat) ({ cls := "com/example/fluxmark/fluxmark/logic/Formula$Connective", name := "apply", desc := "(ZZ)Z" } : Jvm.MethodName)).before a0 Z = true := hw _ (List.mem_of_getElem? (i := 3) rfl)
theorem w4 {Z : State} {a0 : Array Value} (hw : ∀ d ∈ tables_1, d.before a0 Z = true) : (Jvm.Cond.declares ({ cls := "com/example/fluxmark/fluxmark/logic/Formula$Connective", name := "apply", desc := "(ZZ)Z" } : Jvm.MethodName)).before a0 Z = true := hw _ (List.mem_of_getElem? (i := 4) rfl)
theorem w5 {Z : State} {a0 : Array Value} (hw : ∀ d ∈ tables_1, d.before a0 Z = true) : (Jvm.Cond.instanceMethod ({ cls := "com/example/fluxmark/fluxmark/logic/Formula$Connective", name := "apply", desc := "(ZZ)Z" } : Jvm.MethodName)).before a0 Z = true := hw _ (List.mem_of_getElem? (i := 5) rfl)
theorem w6 {Z : State} {a0 : Array Value} (hw : ∀ d ∈ tables_1, d.before a0 Z = true) : (Jvm.Cond.selects "com/example/fluxmark/fluxmark/logic/Formula$Connective" ({ cls := "com/example/fluxmark/fluxmark/logic/Formula$Connective", name := "apply", desc := "(ZZ)Z" } : Jvm.MethodName) ({ cls := "com/example/fluxmark/fluxmark/logic/Formula$Connective", name := "apply", desc := "(ZZ)Z" } : Jvm.MethodName)).before a0 Z = true := hw _ (List.mem_of_getElem? (i := 6) rfl)
theorem w7 {Z : State} {a0 : Array Value} (hw : ∀ d ∈ tables_1, d.before a0 Z = true) : (Jvm.Cond.code ({ cls := "com/example/fluxmark/fluxmark/logic/Formula$Connective", name := "apply", desc := "(ZZ)Z" } : Jvm.MethodName) prog_49_method_5_code (4 : Nat) (Option.some Jvm.ClassFile.FieldType.boolean)).before a0 Z = true := hw _ (List.mem_of_getElem? (i := 7) rfl)
theorem w8 {Z : State} {a0 : Array Value} (hw : ∀ d ∈ tables_1, d.before a0 Z = true) : (Jvm.Cond.fieldLink "com/example/fluxmark/fluxmark/logic/Formula$Connective" (3 : Nat) "com/example/fluxmark/fluxmark/logic/Formula$Connective" "AND" "Lcom/example/fluxmark/fluxmark/logic/Formula$Connective;").before a0 Z = true := hw _ (List.mem_of_getElem? (i := 8) rfl)
theorem w9 {Z : State} {a0 : Array Value} (hw : ∀ d ∈ tables_1, d.before a0 Z = true) : (Jvm.Cond.fieldLink "com/example/fluxmark/fluxmark/logic/ConnectiveApplyPinLaw" (13 : Nat) "com/example/fluxmark/fluxmark/logic/Formula$Connective" "OR" "Lcom/example/fluxmark/fluxmark/logic/Formula$Connective;").before a0 Z = true := hw _ (List.mem_of_getElem? (i := 9) rfl)
theorem w10 {Z : State} {a0 : Array Value} (hw : ∀ d ∈ tables_1, d.before a0 Z = true) : (Jvm.Cond.laysStatic "com/example/fluxmark/fluxmark/logic/Formula$Connective" "OR" "Lcom/example/fluxmark/fluxmark/logic/Formula$Connective;").before a0 Z = true := hw _ (List.mem_of_getElem? (i := 10) rfl)
theorem w11 {Z : State} {a0 : Array Value} (hw : ∀ d ∈ tables_1, d.before a0 Z = true) : (Jvm.Cond.fieldLink "com/example/fluxmark/fluxmark/logic/Formula$Connective" (7 : Nat) "com/example/fluxmark/fluxmark/logic/Formula$Connective" "OR" "Lcom/example/fluxmark/fluxmark/logic/Formula$Connective;").before a0 Z = true := hw _ (List.mem_of_getElem? (i := 11) rfl)
theorem w12 {Z : State} {a0 : Array Value} (hw : ∀ d ∈ tables_1, d.before a0 Z = true) : (Jvm.Cond.fieldLink "com/example/fluxmark/fluxmark/logic/ConnectiveApplyPinLaw" (19 : Nat) "com/example/fluxmark/fluxmark/logic/Formula$Connective" "IFF" "Lcom/example/fluxmark/fluxmark/logic/Formula$Connective;").before a0 Z = true := hw _ (List.mem_of_getElem? (i := 12) rfl)
theorem w13 {Z : State} {a0 : Array Value} (hw : ∀ d ∈ tables_1, d.before a0 Z = true) : (Jvm.Cond.laysStatic "com/example/fluxmark/fluxmark/logic/Formula$Connective" "IFF" "Lcom/example/fluxmark/fluxmark/logic/Formula$Connective;").before a0 Z = true := hw _ (List.mem_of_getElem? (i := 13) rfl)
theorem w14 {Z : State} {a0 : Array Value} (hw : ∀ d ∈ tables_1, d.before a0 Z = true) : (Jvm.Cond.fieldLink "com/example/fluxmark/fluxmark/logic/Formula$Connective" (10 : Nat) "com/example/fluxmark/fluxmark/logic/Formula$Connective" "IMPLIES" "Lcom/example/fluxmark/fluxmark/logic/Formula$Connective;").before a0 Z = true := hw _ (List.mem_of_getElem? (i := 14) rfl)
theorem w15 {Z : State} {a0 : Array Value} (hw : ∀ d ∈ tables_1, d.before a0 Z = true) : (Jvm.Cond.laysStatic "com/example/fluxmark/fluxmark/logic/Formula$Connective" "IMPLIES" "Lcom/example/fluxmark/fluxmark/logic/Formula$Connective;").before a0 Z = true := hw _ (List.mem_of_getElem? (i := 15) rfl)
theorem w16 {Z : State} {a0 : Array Value} (hw : ∀ d ∈ tables_1, d.before a0 Z = true) : (Jvm.Cond.fieldLink "com/example/fluxmark/fluxmark/logic/ConnectiveApplyPinLaw" (16 : Nat) "com/example/fluxmark/fluxmark/logic/Formula$Connective" "IMPLIES" "Lcom/example/fluxmark/fluxmark/logic/Formula$Connective;").before a0 Z = true := hw _ (List.mem_of_getElem? (i := 16) rfl)
theorem pd0 : parseMethodDescriptor "(ZZ)Z" = some ⟨[.boolean, .boolean], some .boolean⟩ := by decide +kernel
theorem pn0 : Jvm.plainName "com/example/fluxmark/fluxmark/logic/Formula$Connective" = true := by first | (simp [Jvm.plainName, overriddenIn]; done) | decide +kernel
theorem pn1 : Jvm.plainName "com/example/fluxmark/fluxmark/logic/ConnectiveApplyPinLaw" = true := by first | (simp [Jvm.plainName, overriddenIn]; done) | decide +kernel
def gAnd (l r : Int32) : Int32 := if l = 0 then 0 else if r = 0 then 0 else 1
def gOr (l r : Int32) : Int32 := if l = 0 then (if r = 0 then 0 else 1) else 1
def gImp (l r : Int32) : Int32 := if l = 0 then 1 else if r = 0 then 0 else 1
def gIff (l r : Int32) : Int32 := if l = r then 1 else 0
def fApp (a A O I : Addr) (l r : Int32) : Int32 := if a = A then gAnd l r else if a = O then gOr l r else if a = I then gImp l r else gIff l r
theorem own_app1 {A O I : Addr} {l r : Int32} : fApp A A O I l r = gAnd l r := by simp [fApp]
theorem own_app2 {A O I : Addr} {l r : Int32} (h : ¬ O = A) : fApp O A O I l r = gOr l r := by simp [fApp, h]
theorem own_app3 {A O I : Addr} {l r : Int32} (h : ¬ I = A) (h2 : ¬ I = O) : fApp I A O I l r = gImp l r := by simp [fApp, h, h2]
theorem own_app4 {A O I F : Addr} {l r : Int32} (h : ¬ F = A) (h2 : ¬ F = O) (h3 : ¬ F = I) : fApp F A O I l r = gIff l r := by simp [fApp, h, h2, h3]
theorem own_01 {v : Int32} {P : Prop} [Decidable P] (h : v = if P then (0 : Int32) else (1 : Int32)) : v = 0 ∨ v = 1 := by subst h; split <;> simp
theorem own_leaf {l r va vb v9 t : Int32} (G : Int32 → Int32 → Int32) (hl : l = 0 ∨ l = 1) (hr : r = 0 ∨ r = 1) (ha : va = if l = 0 then (0 : Int32) else (2 : Int32)) (hb : vb = if r = 0 then (0 : Int32) else (1 : Int32)) (h9 : v9 = if ((t >>> ((va + vb) &&& 31)) &&& (1 : Int32)) = 0 then (0 : Int32) else (1 : Int32))
    (c0 : G 0 0 = if ((t >>> (((0 : Int32) + 0) &&& 31)) &&& (1 : Int32)) = 0 then (0 : Int32) else (1 : Int32)) (c1 : G 0 1 = if ((t >>> (((0 : Int32) + 1) &&& 31)) &&& (1 : Int32)) = 0 then (0 : Int32) else (1 : Int32)) (c2 : G 1 0 = if ((t >>> (((2 : Int32) + 0) &&& 31)) &&& (1 : Int32)) = 0 then (0 : Int32) else (1 : Int32)) (c3 : G 1 1 = if ((t >>> (((2 : Int32) + 1) &&& 31)) &&& (1 : Int32)) = 0 then (0 : Int32) else (1 : Int32)) : G l r = v9 := by
  rcases hl with rfl | rfl <;> rcases hr with rfl | rfl <;> subst ha hb h9
  · exact c0
  · exact c1
  · exact c2
  · exact c3
theorem d1_0 : decode prog_49_method_5_code 0 = .ok (.aload_n 0, 1) := by decide +kernel
theorem d1_1 : decode prog_49_method_5_code 1 = .ok (.getstatic 3, 3) := by decide +kernel
theorem d1_4 : decode prog_49_method_5_code 4 = .ok (.if_acmp .ne 20, 3) := by decide +kernel
theorem d1_7 : decode prog_49_method_5_code 7 = .ok (.iload_n 1, 1) := by decide +kernel
theorem d1_8 : decode prog_49_method_5_code 8 = .ok (.ifCond .eq 11, 3) := by decide +kernel
theorem d1_11 : decode prog_49_method_5_code 11 = .ok (.iload_n 2, 1) := by decide +kernel
theorem d1_12 : decode prog_49_method_5_code 12 = .ok (.ifCond .eq 7, 3) := by decide +kernel
theorem d1_15 : decode prog_49_method_5_code 15 = .ok (.iconst 1, 1) := by decide +kernel
theorem d1_16 : decode prog_49_method_5_code 16 = .ok (.goto 4, 3) := by decide +kernel
theorem d1_19 : decode prog_49_method_5_code 19 = .ok (.iconst 0, 1) := by decide +kernel
theorem d1_20 : decode prog_49_method_5_code 20 = .ok (.istore_n 3, 1) := by decide +kernel
theorem d1_21 : decode prog_49_method_5_code 21 = .ok (.goto 62, 3) := by decide +kernel
theorem d1_24 : decode prog_49_method_5_code 24 = .ok (.aload_n 0, 1) := by decide +kernel
theorem d1_25 : decode prog_49_method_5_code 25 = .ok (.getstatic 7, 3) := by decide +kernel
theorem d1_28 : decode prog_49_method_5_code 28 = .ok (.if_acmp .ne 20, 3) := by decide +kernel
theorem d1_31 : decode prog_49_method_5_code 31 = .ok (.iload_n 1, 1) := by decide +kernel
theorem d1_32 : decode prog_49_method_5_code 32 = .ok (.ifCond .ne 7, 3) := by decide +kernel
theorem d1_35 : decode prog_49_method_5_code 35 = .ok (.iload_n 2, 1) := by decide +kernel
theorem d1_36 : decode prog_49_method_5_code 36 = .ok (.ifCond .eq 7, 3) := by decide +kernel
theorem d1_39 : decode prog_49_method_5_code 39 = .ok (.iconst 1, 1) := by decide +kernel
theorem d1_40 : decode prog_49_method_5_code 40 = .ok (.goto 4, 3) := by decide +kernel
theorem d1_43 : decode prog_49_method_5_code 43 = .ok (.iconst 0, 1) := by decide +kernel
theorem d1_44 : decode prog_49_method_5_code 44 = .ok (.istore_n 3, 1) := by decide +kernel
theorem d1_45 : decode prog_49_method_5_code 45 = .ok (.goto 38, 3) := by decide +kernel
theorem d1_48 : decode prog_49_method_5_code 48 = .ok (.aload_n 0, 1) := by decide +kernel
theorem d1_49 : decode prog_49_method_5_code 49 = .ok (.getstatic 10, 3) := by decide +kernel
theorem d1_52 : decode prog_49_method_5_code 52 = .ok (.if_acmp .ne 20, 3) := by decide +kernel
theorem d1_55 : decode prog_49_method_5_code 55 = .ok (.iload_n 1, 1) := by decide +kernel
theorem d1_56 : decode prog_49_method_5_code 56 = .ok (.ifCond .eq 7, 3) := by decide +kernel
theorem d1_59 : decode prog_49_method_5_code 59 = .ok (.iload_n 2, 1) := by decide +kernel
theorem d1_60 : decode prog_49_method_5_code 60 = .ok (.ifCond .eq 7, 3) := by decide +kernel
theorem d1_63 : decode prog_49_method_5_code 63 = .ok (.iconst 1, 1) := by decide +kernel
theorem d1_64 : decode prog_49_method_5_code 64 = .ok (.goto 4, 3) := by decide +kernel
theorem d1_67 : decode prog_49_method_5_code 67 = .ok (.iconst 0, 1) := by decide +kernel
theorem d1_68 : decode prog_49_method_5_code 68 = .ok (.istore_n 3, 1) := by decide +kernel
theorem d1_69 : decode prog_49_method_5_code 69 = .ok (.goto 14, 3) := by decide +kernel
theorem d1_72 : decode prog_49_method_5_code 72 = .ok (.iload_n 1, 1) := by decide +kernel
theorem d1_73 : decode prog_49_method_5_code 73 = .ok (.iload_n 2, 1) := by decide +kernel
theorem d1_74 : decode prog_49_method_5_code 74 = .ok (.if_icmp .ne 7, 3) := by decide +kernel
theorem d1_77 : decode prog_49_method_5_code 77 = .ok (.iconst 1, 1) := by decide +kernel
theorem d1_78 : decode prog_49_method_5_code 78 = .ok (.goto 4, 3) := by decide +kernel
theorem d1_81 : decode prog_49_method_5_code 81 = .ok (.iconst 0, 1) := by decide +kernel
theorem d1_82 : decode prog_49_method_5_code 82 = .ok (.istore_n 3, 1) := by decide +kernel
theorem d1_83 : decode prog_49_method_5_code 83 = .ok (.iload_n 3, 1) := by decide +kernel
theorem d1_84 : decode prog_49_method_5_code 84 = .ok (.ireturn, 1) := by decide +kernel
abbrev Q1 (a : Addr) (lt : Int32) (rt : Int32) (AA : Addr) (OO : Addr) (II : Addr) (h0 : Heap) : Option Value → Heap → Prop := fun v h => v = some (.int (fApp a AA OO II lt rt)) ∧ h0 = h
set_option maxRecDepth 65536 in
set_option maxHeartbeats 40000000 in
theorem rm1 {l : Launch} {Z : State} {a0 : Array Value} (hw : ∀ d ∈ tables_1, d.before a0 Z = true) (n0 : Nat) (a : Addr) (lt : Int32) (rt : Int32) (AA : Addr) (OO : Addr) (II : Addr) (h0 : Heap) (SA : Sta Z h0 "com/example/fluxmark/fluxmark/logic/Formula$Connective" "AND" "Lcom/example/fluxmark/fluxmark/logic/Formula$Connective;" (.ref AA)) (SO : Sta Z h0 "com/example/fluxmark/fluxmark/logic/Formula$Connective" "OR" "Lcom/example/fluxmark/fluxmark/logic/Formula$Connective;" (.ref OO)) (SI : Sta Z h0 "com/example/fluxmark/fluxmark/logic/Formula$Connective" "IMPLIES" "Lcom/example/fluxmark/fluxmark/logic/Formula$Connective;" (.ref II)) :
    Met l Z n0 (⟨"com/example/fluxmark/fluxmark/logic/Formula$Connective", "apply", "(ZZ)Z"⟩ : MethodName) prog_49_method_5_code 4 (some .boolean) [] ({ frames := 0, cells := 0, slots := 0, locals := 0 } : Room) #[(.ref a), (.int lt), (.int rt)] h0 (Q1 a lt rt AA OO II h0) 0 0 := by
  refine Met.of pn0 (Ls := #[.val (.ref a), .val (.int lt), .val (.int rt), .unset]) (fun m => by first | rfl | (simp [entryFrame, mkF, argsToLocals, Value.category, maxLocals]; done)) (fun k T0 X0 => ?_)
  refine g_aloadN X0 d1_0 rfl rfl 1 rfl ?_
  refine g_getS X0 (w8 hw) Via.refl SA d1_1 4 rfl (fun T1 X1 => ?_)
  refine g_acmpNN X1 a_ne d1_4 24 (by decide) (by decide) 7 rfl (fun h2 => ?_) (fun h2 => ?_)
  · skip
    refine g_iloadN X1 d1_7 rfl 8 rfl ?_
    have k20_1 : ∀ (v3 : Int32), (Q1 a lt rt AA OO II h0) (some (.int (v3 &&& 1))) h0 → Go k n0 (Q1 a lt rt AA OO II h0) 0 0 T1 20 #[.val (.ref a), .val (.int lt), .val (.int rt), .unset] [(.int v3)] := by
      intro v3 hQ
      refine g_istoreN X1 d1_20 #[.val (.ref a), .val (.int lt), .val (.int rt), .val (.int v3)] rfl 21 rfl ?_
      refine g_goto X1 d1_21 83 (by decide) (by decide) ?_
      refine g_iloadN X1 d1_83 rfl 84 rfl ?_
      exact g_retZ X1 d1_84 (by decide) (by decide) hQ
    refine g_if X1 z_eq d1_8 19 (by decide) (by decide) 11 rfl (fun h4 => ?_) (fun h4 => ?_)
    · skip
      refine g_iconst X1 (0 : Int32) d1_19 rfl 20 rfl ?_
      exact k20_1 ((0 : Int32)) ⟨by unfold fApp; rw [if_pos h2]; simp [gAnd, gOr, gImp, gIff, own_b0, own_b1, h4], rfl⟩
    · skip
      refine g_iloadN X1 d1_11 rfl 12 rfl ?_
      refine g_if X1 z_eq d1_12 19 (by decide) (by decide) 15 rfl (fun h5 => ?_) (fun h5 => ?_)
      · skip
        refine g_iconst X1 (0 : Int32) d1_19 rfl 20 rfl ?_
        exact k20_1 ((0 : Int32)) ⟨by unfold fApp; rw [if_pos h2]; simp [gAnd, gOr, gImp, gIff, own_b0, own_b1, h4, h5], rfl⟩
      · skip
        refine g_iconst X1 (1 : Int32) d1_15 rfl 16 rfl ?_
        refine g_goto X1 d1_16 20 (by decide) (by decide) ?_
        exact k20_1 ((1 : Int32)) ⟨by unfold fApp; rw [if_pos h2]; simp [gAnd, gOr, gImp, gIff, own_b0, own_b1, h4, h5], rfl⟩
  · skip
    refine g_aloadN X1 d1_24 rfl rfl 25 rfl ?_
    refine g_getS X1 (w11 hw) Via.refl SO d1_25 28 rfl (fun T6 X6 => ?_)
    refine g_acmpNN X6 a_ne d1_28 48 (by decide) (by decide) 31 rfl (fun h7 => ?_) (fun h7 => ?_)
    · skip
      refine g_iloadN X6 d1_31 rfl 32 rfl ?_
      have k44_2 : ∀ (v8 : Int32), (Q1 a lt rt AA OO II h0) (some (.int (v8 &&& 1))) h0 → Go k n0 (Q1 a lt rt AA OO II h0) 0 0 T6 44 #[.val (.ref a), .val (.int lt), .val (.int rt), .unset] [(.int v8)] := by
        intro v8 hQ
        refine g_istoreN X6 d1_44 #[.val (.ref a), .val (.int lt), .val (.int rt), .val (.int v8)] rfl 45 rfl ?_
        refine g_goto X6 d1_45 83 (by decide) (by decide) ?_
        refine g_iloadN X6 d1_83 rfl 84 rfl ?_
        exact g_retZ X6 d1_84 (by decide) (by decide) hQ
      refine g_ifN X6 z_ne d1_32 39 (by decide) (by decide) 35 rfl (fun h9 => ?_) (fun h9 => ?_)
      · skip
        refine g_iloadN X6 d1_35 rfl 36 rfl ?_
        refine g_if X6 z_eq d1_36 43 (by decide) (by decide) 39 rfl (fun h10 => ?_) (fun h10 => ?_)
        · skip
          refine g_iconst X6 (0 : Int32) d1_43 rfl 44 rfl ?_
          exact k44_2 ((0 : Int32)) ⟨by unfold fApp; rw [if_neg h2, if_pos h7]; simp [gAnd, gOr, gImp, gIff, own_b0, own_b1, h9, h10], rfl⟩
        · skip
          refine g_iconst X6 (1 : Int32) d1_39 rfl 40 rfl ?_
          refine g_goto X6 d1_40 44 (by decide) (by decide) ?_
          exact k44_2 ((1 : Int32)) ⟨by unfold fApp; rw [if_neg h2, if_pos h7]; simp [gAnd, gOr, gImp, gIff, own_b0, own_b1, h9, h10], rfl⟩
      · skip
        refine g_iconst X6 (1 : Int32) d1_39 rfl 40 rfl ?_
        refine g_goto X6 d1_40 44 (by decide) (by decide) ?_
        exact k44_2 ((1 : Int32)) ⟨by unfold fApp; rw [if_neg h2, if_pos h7]; simp [gAnd, gOr, gImp, gIff, own_b0, own_b1, h9], rfl⟩
    · skip
      refine g_aloadN X6 d1_48 rfl rfl 49 rfl ?_
      refine g_getS X6 (w14 hw) Via.refl SI d1_49 52 rfl (fun T11 X11 => ?_)
      refine g_acmpNN X11 a_ne d1_52 72 (by decide) (by decide) 55 rfl (fun h12 => ?_) (fun h12 => ?_)
      · skip
        refine g_iloadN X11 d1_55 rfl 56 rfl ?_
        have k68_3 : ∀ (v13 : Int32), (Q1 a lt rt AA OO II h0) (some (.int (v13 &&& 1))) h0 → Go k n0 (Q1 a lt rt AA OO II h0) 0 0 T11 68 #[.val (.ref a), .val (.int lt), .val (.int rt), .unset] [(.int v13)] := by
          intro v13 hQ
          refine g_istoreN X11 d1_68 #[.val (.ref a), .val (.int lt), .val (.int rt), .val (.int v13)] rfl 69 rfl ?_
          refine g_goto X11 d1_69 83 (by decide) (by decide) ?_
          refine g_iloadN X11 d1_83 rfl 84 rfl ?_
          exact g_retZ X11 d1_84 (by decide) (by decide) hQ
        refine g_if X11 z_eq d1_56 63 (by decide) (by decide) 59 rfl (fun h14 => ?_) (fun h14 => ?_)
        · skip
          refine g_iconst X11 (1 : Int32) d1_63 rfl 64 rfl ?_
          refine g_goto X11 d1_64 68 (by decide) (by decide) ?_
          exact k68_3 ((1 : Int32)) ⟨by unfold fApp; rw [if_neg h2, if_neg h7, if_pos h12]; simp [gAnd, gOr, gImp, gIff, own_b0, own_b1, h14], rfl⟩
        · skip
          refine g_iloadN X11 d1_59 rfl 60 rfl ?_
          refine g_if X11 z_eq d1_60 67 (by decide) (by decide) 63 rfl (fun h15 => ?_) (fun h15 => ?_)
          · skip
            refine g_iconst X11 (0 : Int32) d1_67 rfl 68 rfl ?_
            exact k68_3 ((0 : Int32)) ⟨by unfold fApp; rw [if_neg h2, if_neg h7, if_pos h12]; simp [gAnd, gOr, gImp, gIff, own_b0, own_b1, h14, h15], rfl⟩
          · skip
            refine g_iconst X11 (1 : Int32) d1_63 rfl 64 rfl ?_
            refine g_goto X11 d1_64 68 (by decide) (by decide) ?_
            exact k68_3 ((1 : Int32)) ⟨by unfold fApp; rw [if_neg h2, if_neg h7, if_pos h12]; simp [gAnd, gOr, gImp, gIff, own_b0, own_b1, h14, h15], rfl⟩
      · skip
        refine g_iloadN X11 d1_72 rfl 73 rfl ?_
        refine g_iloadN X11 d1_73 rfl 74 rfl ?_
        have k82_4 : ∀ (v16 : Int32), (Q1 a lt rt AA OO II h0) (some (.int (v16 &&& 1))) h0 → Go k n0 (Q1 a lt rt AA OO II h0) 0 0 T11 82 #[.val (.ref a), .val (.int lt), .val (.int rt), .unset] [(.int v16)] := by
          intro v16 hQ
          refine g_istoreN X11 d1_82 #[.val (.ref a), .val (.int lt), .val (.int rt), .val (.int v16)] rfl 83 rfl ?_
          refine g_iloadN X11 d1_83 rfl 84 rfl ?_
          exact g_retZ X11 d1_84 (by decide) (by decide) hQ
        refine g_icmpN X11 i_ne d1_74 81 (by decide) (by decide) 77 rfl (fun h17 => ?_) (fun h17 => ?_)
        · skip
          refine g_iconst X11 (1 : Int32) d1_77 rfl 78 rfl ?_
          refine g_goto X11 d1_78 82 (by decide) (by decide) ?_
          exact k82_4 ((1 : Int32)) ⟨by unfold fApp; rw [if_neg h2, if_neg h7, if_neg h12]; simp [gAnd, gOr, gImp, gIff, own_b0, own_b1, h17], rfl⟩
        · skip
          refine g_iconst X11 (0 : Int32) d1_81 rfl 82 rfl ?_
          exact k82_4 ((0 : Int32)) ⟨by unfold fApp; rw [if_neg h2, if_neg h7, if_neg h12]; simp [gAnd, gOr, gImp, gIff, own_b0, own_b1, h17], rfl⟩
abbrev Q0 (c : Int32) (lx : Int32) (rx : Int32) (AA : Addr) (OO : Addr) (II : Addr) (FF : Addr) (h0 : Heap) : Option Value → Heap → Prop := fun v h => v = some (.int 1)
set_option maxRecDepth 65536 in
set_option maxHeartbeats 40000000 in
theorem rm0 {l : Launch} {Z : State} {a0 : Array Value} (hw : ∀ d ∈ tables_1, d.before a0 Z = true) (n0 : Nat) (c : Int32) (lx : Int32) (rx : Int32) (AA : Addr) (OO : Addr) (II : Addr) (FF : Addr) (h0 : Heap) (SA : Sta Z h0 "com/example/fluxmark/fluxmark/logic/Formula$Connective" "AND" "Lcom/example/fluxmark/fluxmark/logic/Formula$Connective;" (.ref AA)) (SO : Sta Z h0 "com/example/fluxmark/fluxmark/logic/Formula$Connective" "OR" "Lcom/example/fluxmark/fluxmark/logic/Formula$Connective;" (.ref OO)) (SI : Sta Z h0 "com/example/fluxmark/fluxmark/logic/Formula$Connective" "IMPLIES" "Lcom/example/fluxmark/fluxmark/logic/Formula$Connective;" (.ref II)) (SF : Sta Z h0 "com/example/fluxmark/fluxmark/logic/Formula$Connective" "IFF" "Lcom/example/fluxmark/fluxmark/logic/Formula$Connective;" (.ref FF)) (EA : Exa Z h0 AA "com/example/fluxmark/fluxmark/logic/Formula$Connective") (EO : Exa Z h0 OO "com/example/fluxmark/fluxmark/logic/Formula$Connective") (EI : Exa Z h0 II "com/example/fluxmark/fluxmark/logic/Formula$Connective") (EF : Exa Z h0 FF "com/example/fluxmark/fluxmark/logic/Formula$Connective") (nOA : ¬ OO = AA) (nIA : ¬ II = AA) (nIO : ¬ II = OO) (nFA : ¬ FF = AA) (nFO : ¬ FF = OO) (nFI : ¬ FF = II) :
    Met l Z n0 x code maxLocals ret tables_1 room_1 #[(.int c), (.int lx), (.int rx)] h0 (Q0 c lx rx AA OO II FF h0) 0 0 := by
  refine Met.of pn1 (Ls := #[.val (.int c), .val (.int lx), .val (.int rx), .unset, .unset, .unset, .unset, .unset, .unset, .unset]) (fun m => by first | rfl | (simp [entryFrame, mkF, argsToLocals, Value.category, maxLocals]; done)) (fun k T0 X0 => ?_)
  refine g_iloadN X0 at_0 rfl 1 rfl ?_
  refine g_iconst X0 (3 : Int32) at_1 rfl 2 rfl ?_
  refine g_iand X0 at_2 3 rfl ?_
  refine g_istoreN X0 at_3 #[.val (.int c), .val (.int lx), .val (.int rx), .val (.int (c &&& (3 : Int32))), .unset, .unset, .unset, .unset, .unset, .unset] rfl 4 rfl ?_
  refine g_iloadN X0 at_4 rfl 5 rfl ?_
  refine g_ifN X0 z_ne at_5 20 (by decide) (by decide) 8 rfl (fun h1 => ?_) (fun h1 => ?_)
  · skip
    refine g_getS X0 (w0 hw) Via.refl SA at_8 11 rfl (fun T2 X2 => ?_)
    refine g_astore X2 at_11 rfl #[.val (.int c), .val (.int lx), .val (.int rx), .val (.int (c &&& (3 : Int32))), .val (.ref AA), .unset, .unset, .unset, .unset, .unset] rfl 13 rfl ?_
    refine g_bipush X2 (8 : Int32) at_13 rfl 15 rfl ?_
    refine g_istore X2 at_15 #[.val (.int c), .val (.int lx), .val (.int rx), .val (.int (c &&& (3 : Int32))), .val (.ref AA), .val (.int (8 : Int32)), .unset, .unset, .unset, .unset] rfl 17 rfl ?_
    refine g_goto X2 at_17 63 (by decide) (by decide) ?_
    refine g_iloadN X2 at_63 rfl 64 rfl ?_
    refine g_iconst X2 (1 : Int32) at_64 rfl 65 rfl ?_
    refine g_iand X2 at_65 66 rfl ?_
    have k74_5 : ∀ (v3 : Int32), v3 = (if (lx &&& (1 : Int32)) = 0 then (0 : Int32) else (1 : Int32)) → Go k n0 (Q0 c lx rx AA OO II FF h0) 0 0 T2 74 #[.val (.int c), .val (.int lx), .val (.int rx), .val (.int (c &&& (3 : Int32))), .val (.ref AA), .val (.int (8 : Int32)), .unset, .unset, .unset, .unset] [(.int v3)] := by
      intro v3 hv3
      refine g_istore X2 at_74 #[.val (.int c), .val (.int lx), .val (.int rx), .val (.int (c &&& (3 : Int32))), .val (.ref AA), .val (.int (8 : Int32)), .val (.int v3), .unset, .unset, .unset] rfl 76 rfl ?_
      refine g_iloadN X2 at_76 rfl 77 rfl ?_
      refine g_iconst X2 (1 : Int32) at_77 rfl 78 rfl ?_
      refine g_iand X2 at_78 79 rfl ?_
      have k87_6 : ∀ (v4 : Int32), v4 = (if (rx &&& (1 : Int32)) = 0 then (0 : Int32) else (1 : Int32)) → Go k n0 (Q0 c lx rx AA OO II FF h0) 0 0 T2 87 #[.val (.int c), .val (.int lx), .val (.int rx), .val (.int (c &&& (3 : Int32))), .val (.ref AA), .val (.int (8 : Int32)), .val (.int v3), .unset, .unset, .unset] [(.int v4)] := by
        intro v4 hv4
        refine g_istore X2 at_87 #[.val (.int c), .val (.int lx), .val (.int rx), .val (.int (c &&& (3 : Int32))), .val (.ref AA), .val (.int (8 : Int32)), .val (.int v3), .val (.int v4), .unset, .unset] rfl 89 rfl ?_
        refine g_iload X2 at_89 rfl 91 rfl ?_
        have k99_7 : ∀ (v5 : Int32), v5 = (if v3 = 0 then (0 : Int32) else (2 : Int32)) → Go k n0 (Q0 c lx rx AA OO II FF h0) 0 0 T2 99 #[.val (.int c), .val (.int lx), .val (.int rx), .val (.int (c &&& (3 : Int32))), .val (.ref AA), .val (.int (8 : Int32)), .val (.int v3), .val (.int v4), .unset, .unset] [(.int v5)] := by
          intro v5 hv5
          refine g_iload X2 at_99 rfl 101 rfl ?_
          have k109_8 : ∀ (v6 : Int32), v6 = (if v4 = 0 then (0 : Int32) else (1 : Int32)) → Go k n0 (Q0 c lx rx AA OO II FF h0) 0 0 T2 109 #[.val (.int c), .val (.int lx), .val (.int rx), .val (.int (c &&& (3 : Int32))), .val (.ref AA), .val (.int (8 : Int32)), .val (.int v3), .val (.int v4), .unset, .unset] [(.int v6), (.int v5)] := by
            intro v6 hv6
            refine g_iadd X2 at_109 110 rfl ?_
            refine g_istore X2 at_110 #[.val (.int c), .val (.int lx), .val (.int rx), .val (.int (c &&& (3 : Int32))), .val (.ref AA), .val (.int (8 : Int32)), .val (.int v3), .val (.int v4), .val (.int (v5 + v6)), .unset] rfl 112 rfl ?_
            refine g_iload X2 at_112 rfl 114 rfl ?_
            refine g_iload X2 at_114 rfl 116 rfl ?_
            refine g_ishr X2 at_116 117 rfl ?_
            refine g_iconst X2 (1 : Int32) at_117 rfl 118 rfl ?_
            refine g_iand X2 at_118 119 rfl ?_
            have k127_9 : ∀ (v7 : Int32), v7 = (if (((8 : Int32) >>> ((v5 + v6) &&& 31)) &&& (1 : Int32)) = 0 then (0 : Int32) else (1 : Int32)) → Go k n0 (Q0 c lx rx AA OO II FF h0) 0 0 T2 127 #[.val (.int c), .val (.int lx), .val (.int rx), .val (.int (c &&& (3 : Int32))), .val (.ref AA), .val (.int (8 : Int32)), .val (.int v3), .val (.int v4), .val (.int (v5 + v6)), .unset] [(.int v7)] := by
              intro v7 hv7
              refine g_istore X2 at_127 #[.val (.int c), .val (.int lx), .val (.int rx), .val (.int (c &&& (3 : Int32))), .val (.ref AA), .val (.int (8 : Int32)), .val (.int v3), .val (.int v4), .val (.int (v5 + v6)), .val (.int v7)] rfl 129 rfl ?_
              refine g_aload X2 at_129 rfl rfl 131 rfl ?_
              refine g_iload X2 at_131 rfl 133 rfl ?_
              refine g_iload X2 at_133 rfl 135 rfl ?_
              refine g_callV X2 AA [(.int v3), (.int v4)] [] (rm1 hw n0 AA v3 v4 AA OO II h0 SA SO SI) EA (w3 hw) (w4 hw) (w6 hw) (w5 hw) (w1 hw) (w7 hw) (by decide) pd0 rfl rfl (by decide) (Nat.le_of_ble_eq_true rfl) (by decide) (by decide) at_135 rfl 138 rfl (fun v8 T8 h8 X8 q8 => ?_)
              obtain ⟨rfl, rfl⟩ := q8
              show Go k n0 (Q0 c lx rx AA OO II FF h0) 0 0 T8 138 #[.val (.int c), .val (.int lx), .val (.int rx), .val (.int (c &&& (3 : Int32))), .val (.ref AA), .val (.int (8 : Int32)), .val (.int v3), .val (.int v4), .val (.int (v5 + v6)), .val (.int v7)] [(.int (fApp AA AA OO II v3 v4))]
              refine g_iload X8 at_138 rfl 140 rfl ?_
              have k148_10 : ∀ (v9 : Int32), (Q0 c lx rx AA OO II FF h0) (some (.int (v9 &&& 1))) h0 → Go k n0 (Q0 c lx rx AA OO II FF h0) 0 0 T8 148 #[.val (.int c), .val (.int lx), .val (.int rx), .val (.int (c &&& (3 : Int32))), .val (.ref AA), .val (.int (8 : Int32)), .val (.int v3), .val (.int v4), .val (.int (v5 + v6)), .val (.int v7)] [(.int v9)] := by
                intro v9 hQ
                exact g_retZ X8 at_148 (by decide) (by decide) hQ
              refine g_icmpN X8 i_ne at_140 147 (by decide) (by decide) 143 rfl (fun h10 => ?_) (fun h10 => ?_)
              · skip
                refine g_iconst X8 (1 : Int32) at_143 rfl 144 rfl ?_
                refine g_goto X8 at_144 148 (by decide) (by decide) ?_
                exact k148_10 ((1 : Int32)) own_one
              · skip
                refine g_iconst X8 (0 : Int32) at_147 rfl 148 rfl ?_
                exact k148_10 ((0 : Int32)) (absurd (by rw [own_app1]; exact own_leaf gAnd (own_01 hv3) (own_01 hv4) hv5 hv6 hv7 (by decide) (by decide) (by decide) (by decide)) h10)
            refine g_if X2 z_eq at_119 126 (by decide) (by decide) 122 rfl (fun h11 => ?_) (fun h11 => ?_)
            · skip
              refine g_iconst X2 (0 : Int32) at_126 rfl 127 rfl ?_
              exact k127_9 ((0 : Int32)) (by first | (simp only [h1, h11, if_true, if_false, true_or, or_true, true_and, and_true, not_true_eq_false, not_false_eq_true, false_or, or_false, false_and, and_false]; done) | (simp only [h1, h11, hv3, hv4, hv5, hv6, if_true, if_false, true_or, or_true, true_and, and_true, not_true_eq_false, not_false_eq_true, false_or, or_false, false_and, and_false]; done))
            · skip
              refine g_iconst X2 (1 : Int32) at_122 rfl 123 rfl ?_
              refine g_goto X2 at_123 127 (by decide) (by decide) ?_
              exact k127_9 ((1 : Int32)) (by first | (simp only [h1, h11, if_true, if_false, true_or, or_true, true_and, and_true, not_true_eq_false, not_false_eq_true, false_or, or_false, false_and, and_false]; done) | (simp only [h1, h11, hv3, hv4, hv5, hv6, if_true, if_false, true_or, or_true, true_and, and_true, not_true_eq_false, not_false_eq_true, false_or, or_false, false_and, and_false]; done))
          refine g_if X2 z_eq at_101 108 (by decide) (by decide) 104 rfl (fun h12 => ?_) (fun h12 => ?_)
          · skip
            refine g_iconst X2 (0 : Int32) at_108 rfl 109 rfl ?_
            exact k109_8 ((0 : Int32)) (by first | (simp only [h1, h12, if_true, if_false, true_or, or_true, true_and, and_true, not_true_eq_false, not_false_eq_true, false_or, or_false, false_and, and_false]; done) | (simp only [h1, h12, hv3, hv4, hv5, if_true, if_false, true_or, or_true, true_and, and_true, not_true_eq_false, not_false_eq_true, false_or, or_false, false_and, and_false]; done))
          · skip
            refine g_iconst X2 (1 : Int32) at_104 rfl 105 rfl ?_
            refine g_goto X2 at_105 109 (by decide) (by decide) ?_
            exact k109_8 ((1 : Int32)) (by first | (simp only [h1, h12, if_true, if_false, true_or, or_true, true_and, and_true, not_true_eq_false, not_false_eq_true, false_or, or_false, false_and, and_false]; done) | (simp only [h1, h12, hv3, hv4, hv5, if_true, if_false, true_or, or_true, true_and, and_true, not_true_eq_false, not_false_eq_true, false_or, or_false, false_and, and_false]; done))
        refine g_if X2 z_eq at_91 98 (by decide) (by decide) 94 rfl (fun h13 => ?_) (fun h13 => ?_)
        · skip
          refine g_iconst X2 (0 : Int32) at_98 rfl 99 rfl ?_
          exact k99_7 ((0 : Int32)) (by first | (simp only [h1, h13, if_true, if_false, true_or, or_true, true_and, and_true, not_true_eq_false, not_false_eq_true, false_or, or_false, false_and, and_false]; done) | (simp only [h1, h13, hv3, hv4, if_true, if_false, true_or, or_true, true_and, and_true, not_true_eq_false, not_false_eq_true, false_or, or_false, false_and, and_false]; done))
        · skip
          refine g_iconst X2 (2 : Int32) at_94 rfl 95 rfl ?_
          refine g_goto X2 at_95 99 (by decide) (by decide) ?_
          exact k99_7 ((2 : Int32)) (by first | (simp only [h1, h13, if_true, if_false, true_or, or_true, true_and, and_true, not_true_eq_false, not_false_eq_true, false_or, or_false, false_and, and_false]; done) | (simp only [h1, h13, hv3, hv4, if_true, if_false, true_or, or_true, true_and, and_true, not_true_eq_false, not_false_eq_true, false_or, or_false, false_and, and_false]; done))
      refine g_if X2 z_eq at_79 86 (by decide) (by decide) 82 rfl (fun h14 => ?_) (fun h14 => ?_)
      · skip
        refine g_iconst X2 (0 : Int32) at_86 rfl 87 rfl ?_
        exact k87_6 ((0 : Int32)) (by first | (simp only [h1, h14, if_true, if_false, true_or, or_true, true_and, and_true, not_true_eq_false, not_false_eq_true, false_or, or_false, false_and, and_false]; done) | (simp only [h1, h14, hv3, if_true, if_false, true_or, or_true, true_and, and_true, not_true_eq_false, not_false_eq_true, false_or, or_false, false_and, and_false]; done))
      · skip
        refine g_iconst X2 (1 : Int32) at_82 rfl 83 rfl ?_
        refine g_goto X2 at_83 87 (by decide) (by decide) ?_
        exact k87_6 ((1 : Int32)) (by first | (simp only [h1, h14, if_true, if_false, true_or, or_true, true_and, and_true, not_true_eq_false, not_false_eq_true, false_or, or_false, false_and, and_false]; done) | (simp only [h1, h14, hv3, if_true, if_false, true_or, or_true, true_and, and_true, not_true_eq_false, not_false_eq_true, false_or, or_false, false_and, and_false]; done))
    refine g_if X2 z_eq at_66 73 (by decide) (by decide) 69 rfl (fun h15 => ?_) (fun h15 => ?_)
    · skip
      refine g_iconst X2 (0 : Int32) at_73 rfl 74 rfl ?_
      exact k74_5 ((0 : Int32)) (by first | (simp only [h1, h15, if_true, if_false, true_or, or_true, true_and, and_true, not_true_eq_false, not_false_eq_true, false_or, or_false, false_and, and_false]; done) | (simp only [h1, h15, if_true, if_false, true_or, or_true, true_and, and_true, not_true_eq_false, not_false_eq_true, false_or, or_false, false_and, and_false]; done))
    · skip
      refine g_iconst X2 (1 : Int32) at_69 rfl 70 rfl ?_
      refine g_goto X2 at_70 74 (by decide) (by decide) ?_
      exact k74_5 ((1 : Int32)) (by first | (simp only [h1, h15, if_true, if_false, true_or, or_true, true_and, and_true, not_true_eq_false, not_false_eq_true, false_or, or_false, false_and, and_false]; done) | (simp only [h1, h15, if_true, if_false, true_or, or_true, true_and, and_true, not_true_eq_false, not_false_eq_true, false_or, or_false, false_and, and_false]; done))
  · skip
    refine g_iloadN X0 at_20 rfl 21 rfl ?_
    refine g_iconst X0 (1 : Int32) at_21 rfl 22 rfl ?_
    refine g_icmpN X0 i_ne at_22 37 (by decide) (by decide) 25 rfl (fun h16 => ?_) (fun h16 => ?_)
    · skip
      refine g_getS X0 (w9 hw) Via.refl SO at_25 28 rfl (fun T17 X17 => ?_)
      refine g_astore X17 at_28 rfl #[.val (.int c), .val (.int lx), .val (.int rx), .val (.int (c &&& (3 : Int32))), .val (.ref OO), .unset, .unset, .unset, .unset, .unset] rfl 30 rfl ?_
      refine g_bipush X17 (14 : Int32) at_30 rfl 32 rfl ?_
      refine g_istore X17 at_32 #[.val (.int c), .val (.int lx), .val (.int rx), .val (.int (c &&& (3 : Int32))), .val (.ref OO), .val (.int (14 : Int32)), .unset, .unset, .unset, .unset] rfl 34 rfl ?_
      refine g_goto X17 at_34 63 (by decide) (by decide) ?_
      refine g_iloadN X17 at_63 rfl 64 rfl ?_
      refine g_iconst X17 (1 : Int32) at_64 rfl 65 rfl ?_
      refine g_iand X17 at_65 66 rfl ?_
      have k74_11 : ∀ (v18 : Int32), v18 = (if (lx &&& (1 : Int32)) = 0 then (0 : Int32) else (1 : Int32)) → Go k n0 (Q0 c lx rx AA OO II FF h0) 0 0 T17 74 #[.val (.int c), .val (.int lx), .val (.int rx), .val (.int (c &&& (3 : Int32))), .val (.ref OO), .val (.int (14 : Int32)), .unset, .unset, .unset, .unset] [(.int v18)] := by
        intro v18 hv18
        refine g_istore X17 at_74 #[.val (.int c), .val (.int lx), .val (.int rx), .val (.int (c &&& (3 : Int32))), .val (.ref OO), .val (.int (14 : Int32)), .val (.int v18), .unset, .unset, .unset] rfl 76 rfl ?_
        refine g_iloadN X17 at_76 rfl 77 rfl ?_
        refine g_iconst X17 (1 : Int32) at_77 rfl 78 rfl ?_
        refine g_iand X17 at_78 79 rfl ?_
        have k87_12 : ∀ (v19 : Int32), v19 = (if (rx &&& (1 : Int32)) = 0 then (0 : Int32) else (1 : Int32)) → Go k n0 (Q0 c lx rx AA OO II FF h0) 0 0 T17 87 #[.val (.int c), .val (.int lx), .val (.int rx), .val (.int (c &&& (3 : Int32))), .val (.ref OO), .val (.int (14 : Int32)), .val (.int v18), .unset, .unset, .unset] [(.int v19)] := by
          intro v19 hv19
          refine g_istore X17 at_87 #[.val (.int c), .val (.int lx), .val (.int rx), .val (.int (c &&& (3 : Int32))), .val (.ref OO), .val (.int (14 : Int32)), .val (.int v18), .val (.int v19), .unset, .unset] rfl 89 rfl ?_
          refine g_iload X17 at_89 rfl 91 rfl ?_
          have k99_13 : ∀ (v20 : Int32), v20 = (if v18 = 0 then (0 : Int32) else (2 : Int32)) → Go k n0 (Q0 c lx rx AA OO II FF h0) 0 0 T17 99 #[.val (.int c), .val (.int lx), .val (.int rx), .val (.int (c &&& (3 : Int32))), .val (.ref OO), .val (.int (14 : Int32)), .val (.int v18), .val (.int v19), .unset, .unset] [(.int v20)] := by
            intro v20 hv20
            refine g_iload X17 at_99 rfl 101 rfl ?_
            have k109_14 : ∀ (v21 : Int32), v21 = (if v19 = 0 then (0 : Int32) else (1 : Int32)) → Go k n0 (Q0 c lx rx AA OO II FF h0) 0 0 T17 109 #[.val (.int c), .val (.int lx), .val (.int rx), .val (.int (c &&& (3 : Int32))), .val (.ref OO), .val (.int (14 : Int32)), .val (.int v18), .val (.int v19), .unset, .unset] [(.int v21), (.int v20)] := by
              intro v21 hv21
              refine g_iadd X17 at_109 110 rfl ?_
              refine g_istore X17 at_110 #[.val (.int c), .val (.int lx), .val (.int rx), .val (.int (c &&& (3 : Int32))), .val (.ref OO), .val (.int (14 : Int32)), .val (.int v18), .val (.int v19), .val (.int (v20 + v21)), .unset] rfl 112 rfl ?_
              refine g_iload X17 at_112 rfl 114 rfl ?_
              refine g_iload X17 at_114 rfl 116 rfl ?_
              refine g_ishr X17 at_116 117 rfl ?_
              refine g_iconst X17 (1 : Int32) at_117 rfl 118 rfl ?_
              refine g_iand X17 at_118 119 rfl ?_
              have k127_15 : ∀ (v22 : Int32), v22 = (if (((14 : Int32) >>> ((v20 + v21) &&& 31)) &&& (1 : Int32)) = 0 then (0 : Int32) else (1 : Int32)) → Go k n0 (Q0 c lx rx AA OO II FF h0) 0 0 T17 127 #[.val (.int c), .val (.int lx), .val (.int rx), .val (.int (c &&& (3 : Int32))), .val (.ref OO), .val (.int (14 : Int32)), .val (.int v18), .val (.int v19), .val (.int (v20 + v21)), .unset] [(.int v22)] := by
                intro v22 hv22
                refine g_istore X17 at_127 #[.val (.int c), .val (.int lx), .val (.int rx), .val (.int (c &&& (3 : Int32))), .val (.ref OO), .val (.int (14 : Int32)), .val (.int v18), .val (.int v19), .val (.int (v20 + v21)), .val (.int v22)] rfl 129 rfl ?_
                refine g_aload X17 at_129 rfl rfl 131 rfl ?_
                refine g_iload X17 at_131 rfl 133 rfl ?_
                refine g_iload X17 at_133 rfl 135 rfl ?_
                refine g_callV X17 OO [(.int v18), (.int v19)] [] (rm1 hw n0 OO v18 v19 AA OO II h0 SA SO SI) EO (w3 hw) (w4 hw) (w6 hw) (w5 hw) (w1 hw) (w7 hw) (by decide) pd0 rfl rfl (by decide) (Nat.le_of_ble_eq_true rfl) (by decide) (by decide) at_135 rfl 138 rfl (fun v23 T23 h23 X23 q23 => ?_)
                obtain ⟨rfl, rfl⟩ := q23
                show Go k n0 (Q0 c lx rx AA OO II FF h0) 0 0 T23 138 #[.val (.int c), .val (.int lx), .val (.int rx), .val (.int (c &&& (3 : Int32))), .val (.ref OO), .val (.int (14 : Int32)), .val (.int v18), .val (.int v19), .val (.int (v20 + v21)), .val (.int v22)] [(.int (fApp OO AA OO II v18 v19))]
                refine g_iload X23 at_138 rfl 140 rfl ?_
                have k148_16 : ∀ (v24 : Int32), (Q0 c lx rx AA OO II FF h0) (some (.int (v24 &&& 1))) h0 → Go k n0 (Q0 c lx rx AA OO II FF h0) 0 0 T23 148 #[.val (.int c), .val (.int lx), .val (.int rx), .val (.int (c &&& (3 : Int32))), .val (.ref OO), .val (.int (14 : Int32)), .val (.int v18), .val (.int v19), .val (.int (v20 + v21)), .val (.int v22)] [(.int v24)] := by
                  intro v24 hQ
                  exact g_retZ X23 at_148 (by decide) (by decide) hQ
                refine g_icmpN X23 i_ne at_140 147 (by decide) (by decide) 143 rfl (fun h25 => ?_) (fun h25 => ?_)
                · skip
                  refine g_iconst X23 (1 : Int32) at_143 rfl 144 rfl ?_
                  refine g_goto X23 at_144 148 (by decide) (by decide) ?_
                  exact k148_16 ((1 : Int32)) own_one
                · skip
                  refine g_iconst X23 (0 : Int32) at_147 rfl 148 rfl ?_
                  exact k148_16 ((0 : Int32)) (absurd (by rw [(own_app2 nOA)]; exact own_leaf gOr (own_01 hv18) (own_01 hv19) hv20 hv21 hv22 (by decide) (by decide) (by decide) (by decide)) h25)
              refine g_if X17 z_eq at_119 126 (by decide) (by decide) 122 rfl (fun h26 => ?_) (fun h26 => ?_)
              · skip
                refine g_iconst X17 (0 : Int32) at_126 rfl 127 rfl ?_
                exact k127_15 ((0 : Int32)) (by first | (simp only [h1, h16, h26, if_true, if_false, true_or, or_true, true_and, and_true, not_true_eq_false, not_false_eq_true, false_or, or_false, false_and, and_false]; done) | (simp only [h1, h16, h26, hv18, hv19, hv20, hv21, if_true, if_false, true_or, or_true, true_and, and_true, not_true_eq_false, not_false_eq_true, false_or, or_false, false_and, and_false]; done))
              · skip
                refine g_iconst X17 (1 : Int32) at_122 rfl 123 rfl ?_
                refine g_goto X17 at_123 127 (by decide) (by decide) ?_
                exact k127_15 ((1 : Int32)) (by first | (simp only [h1, h16, h26, if_true, if_false, true_or, or_true, true_and, and_true, not_true_eq_false, not_false_eq_true, false_or, or_false, false_and, and_false]; done) | (simp only [h1, h16, h26, hv18, hv19, hv20, hv21, if_true, if_false, true_or, or_true, true_and, and_true, not_true_eq_false, not_false_eq_true, false_or, or_false, false_and, and_false]; done))
            refine g_if X17 z_eq at_101 108 (by decide) (by decide) 104 rfl (fun h27 => ?_) (fun h27 => ?_)
            · skip
              refine g_iconst X17 (0 : Int32) at_108 rfl 109 rfl ?_
              exact k109_14 ((0 : Int32)) (by first | (simp only [h1, h16, h27, if_true, if_false, true_or, or_true, true_and, and_true, not_true_eq_false, not_false_eq_true, false_or, or_false, false_and, and_false]; done) | (simp only [h1, h16, h27, hv18, hv19, hv20, if_true, if_false, true_or, or_true, true_and, and_true, not_true_eq_false, not_false_eq_true, false_or, or_false, false_and, and_false]; done))
            · skip
              refine g_iconst X17 (1 : Int32) at_104 rfl 105 rfl ?_
              refine g_goto X17 at_105 109 (by decide) (by decide) ?_
              exact k109_14 ((1 : Int32)) (by first | (simp only [h1, h16, h27, if_true, if_false, true_or, or_true, true_and, and_true, not_true_eq_false, not_false_eq_true, false_or, or_false, false_and, and_false]; done) | (simp only [h1, h16, h27, hv18, hv19, hv20, if_true, if_false, true_or, or_true, true_and, and_true, not_true_eq_false, not_false_eq_true, false_or, or_false, false_and, and_false]; done))
          refine g_if X17 z_eq at_91 98 (by decide) (by decide) 94 rfl (fun h28 => ?_) (fun h28 => ?_)
          · skip
            refine g_iconst X17 (0 : Int32) at_98 rfl 99 rfl ?_
            exact k99_13 ((0 : Int32)) (by first | (simp only [h1, h16, h28, if_true, if_false, true_or, or_true, true_and, and_true, not_true_eq_false, not_false_eq_true, false_or, or_false, false_and, and_false]; done) | (simp only [h1, h16, h28, hv18, hv19, if_true, if_false, true_or, or_true, true_and, and_true, not_true_eq_false, not_false_eq_true, false_or, or_false, false_and, and_false]; done))
          · skip
            refine g_iconst X17 (2 : Int32) at_94 rfl 95 rfl ?_
            refine g_goto X17 at_95 99 (by decide) (by decide) ?_
            exact k99_13 ((2 : Int32)) (by first | (simp only [h1, h16, h28, if_true, if_false, true_or, or_true, true_and, and_true, not_true_eq_false, not_false_eq_true, false_or, or_false, false_and, and_false]; done) | (simp only [h1, h16, h28, hv18, hv19, if_true, if_false, true_or, or_true, true_and, and_true, not_true_eq_false, not_false_eq_true, false_or, or_false, false_and, and_false]; done))
        refine g_if X17 z_eq at_79 86 (by decide) (by decide) 82 rfl (fun h29 => ?_) (fun h29 => ?_)
        · skip
          refine g_iconst X17 (0 : Int32) at_86 rfl 87 rfl ?_
          exact k87_12 ((0 : Int32)) (by first | (simp only [h1, h16, h29, if_true, if_false, true_or, or_true, true_and, and_true, not_true_eq_false, not_false_eq_true, false_or, or_false, false_and, and_false]; done) | (simp only [h1, h16, h29, hv18, if_true, if_false, true_or, or_true, true_and, and_true, not_true_eq_false, not_false_eq_true, false_or, or_false, false_and, and_false]; done))
        · skip
          refine g_iconst X17 (1 : Int32) at_82 rfl 83 rfl ?_
          refine g_goto X17 at_83 87 (by decide) (by decide) ?_
          exact k87_12 ((1 : Int32)) (by first | (simp only [h1, h16, h29, if_true, if_false, true_or, or_true, true_and, and_true, not_true_eq_false, not_false_eq_true, false_or, or_false, false_and, and_false]; done) | (simp only [h1, h16, h29, hv18, if_true, if_false, true_or, or_true, true_and, and_true, not_true_eq_false, not_false_eq_true, false_or, or_false, false_and, and_false]; done))
      refine g_if X17 z_eq at_66 73 (by decide) (by decide) 69 rfl (fun h30 => ?_) (fun h30 => ?_)
      · skip
        refine g_iconst X17 (0 : Int32) at_73 rfl 74 rfl ?_
        exact k74_11 ((0 : Int32)) (by first | (simp only [h1, h16, h30, if_true, if_false, true_or, or_true, true_and, and_true, not_true_eq_false, not_false_eq_true, false_or, or_false, false_and, and_false]; done) | (simp only [h1, h16, h30, if_true, if_false, true_or, or_true, true_and, and_true, not_true_eq_false, not_false_eq_true, false_or, or_false, false_and, and_false]; done))
      · skip
        refine g_iconst X17 (1 : Int32) at_69 rfl 70 rfl ?_
        refine g_goto X17 at_70 74 (by decide) (by decide) ?_
        exact k74_11 ((1 : Int32)) (by first | (simp only [h1, h16, h30, if_true, if_false, true_or, or_true, true_and, and_true, not_true_eq_false, not_false_eq_true, false_or, or_false, false_and, and_false]; done) | (simp only [h1, h16, h30, if_true, if_false, true_or, or_true, true_and, and_true, not_true_eq_false, not_false_eq_true, false_or, or_false, false_and, and_false]; done))
    · skip
      refine g_iloadN X0 at_37 rfl 38 rfl ?_
      refine g_iconst X0 (2 : Int32) at_38 rfl 39 rfl ?_
      refine g_icmpN X0 i_ne at_39 54 (by decide) (by decide) 42 rfl (fun h31 => ?_) (fun h31 => ?_)
      · skip
        refine g_getS X0 (w16 hw) Via.refl SI at_42 45 rfl (fun T32 X32 => ?_)
        refine g_astore X32 at_45 rfl #[.val (.int c), .val (.int lx), .val (.int rx), .val (.int (c &&& (3 : Int32))), .val (.ref II), .unset, .unset, .unset, .unset, .unset] rfl 47 rfl ?_
        refine g_bipush X32 (11 : Int32) at_47 rfl 49 rfl ?_
        refine g_istore X32 at_49 #[.val (.int c), .val (.int lx), .val (.int rx), .val (.int (c &&& (3 : Int32))), .val (.ref II), .val (.int (11 : Int32)), .unset, .unset, .unset, .unset] rfl 51 rfl ?_
        refine g_goto X32 at_51 63 (by decide) (by decide) ?_
        refine g_iloadN X32 at_63 rfl 64 rfl ?_
        refine g_iconst X32 (1 : Int32) at_64 rfl 65 rfl ?_
        refine g_iand X32 at_65 66 rfl ?_
        have k74_17 : ∀ (v33 : Int32), v33 = (if (lx &&& (1 : Int32)) = 0 then (0 : Int32) else (1 : Int32)) → Go k n0 (Q0 c lx rx AA OO II FF h0) 0 0 T32 74 #[.val (.int c), .val (.int lx), .val (.int rx), .val (.int (c &&& (3 : Int32))), .val (.ref II), .val (.int (11 : Int32)), .unset, .unset, .unset, .unset] [(.int v33)] := by
          intro v33 hv33
          refine g_istore X32 at_74 #[.val (.int c), .val (.int lx), .val (.int rx), .val (.int (c &&& (3 : Int32))), .val (.ref II), .val (.int (11 : Int32)), .val (.int v33), .unset, .unset, .unset] rfl 76 rfl ?_
          refine g_iloadN X32 at_76 rfl 77 rfl ?_
          refine g_iconst X32 (1 : Int32) at_77 rfl 78 rfl ?_
          refine g_iand X32 at_78 79 rfl ?_
          have k87_18 : ∀ (v34 : Int32), v34 = (if (rx &&& (1 : Int32)) = 0 then (0 : Int32) else (1 : Int32)) → Go k n0 (Q0 c lx rx AA OO II FF h0) 0 0 T32 87 #[.val (.int c), .val (.int lx), .val (.int rx), .val (.int (c &&& (3 : Int32))), .val (.ref II), .val (.int (11 : Int32)), .val (.int v33), .unset, .unset, .unset] [(.int v34)] := by
            intro v34 hv34
            refine g_istore X32 at_87 #[.val (.int c), .val (.int lx), .val (.int rx), .val (.int (c &&& (3 : Int32))), .val (.ref II), .val (.int (11 : Int32)), .val (.int v33), .val (.int v34), .unset, .unset] rfl 89 rfl ?_
            refine g_iload X32 at_89 rfl 91 rfl ?_
            have k99_19 : ∀ (v35 : Int32), v35 = (if v33 = 0 then (0 : Int32) else (2 : Int32)) → Go k n0 (Q0 c lx rx AA OO II FF h0) 0 0 T32 99 #[.val (.int c), .val (.int lx), .val (.int rx), .val (.int (c &&& (3 : Int32))), .val (.ref II), .val (.int (11 : Int32)), .val (.int v33), .val (.int v34), .unset, .unset] [(.int v35)] := by
              intro v35 hv35
              refine g_iload X32 at_99 rfl 101 rfl ?_
              have k109_20 : ∀ (v36 : Int32), v36 = (if v34 = 0 then (0 : Int32) else (1 : Int32)) → Go k n0 (Q0 c lx rx AA OO II FF h0) 0 0 T32 109 #[.val (.int c), .val (.int lx), .val (.int rx), .val (.int (c &&& (3 : Int32))), .val (.ref II), .val (.int (11 : Int32)), .val (.int v33), .val (.int v34), .unset, .unset] [(.int v36), (.int v35)] := by
                intro v36 hv36
                refine g_iadd X32 at_109 110 rfl ?_
                refine g_istore X32 at_110 #[.val (.int c), .val (.int lx), .val (.int rx), .val (.int (c &&& (3 : Int32))), .val (.ref II), .val (.int (11 : Int32)), .val (.int v33), .val (.int v34), .val (.int (v35 + v36)), .unset] rfl 112 rfl ?_
                refine g_iload X32 at_112 rfl 114 rfl ?_
                refine g_iload X32 at_114 rfl 116 rfl ?_
                refine g_ishr X32 at_116 117 rfl ?_
                refine g_iconst X32 (1 : Int32) at_117 rfl 118 rfl ?_
                refine g_iand X32 at_118 119 rfl ?_
                have k127_21 : ∀ (v37 : Int32), v37 = (if (((11 : Int32) >>> ((v35 + v36) &&& 31)) &&& (1 : Int32)) = 0 then (0 : Int32) else (1 : Int32)) → Go k n0 (Q0 c lx rx AA OO II FF h0) 0 0 T32 127 #[.val (.int c), .val (.int lx), .val (.int rx), .val (.int (c &&& (3 : Int32))), .val (.ref II), .val (.int (11 : Int32)), .val (.int v33), .val (.int v34), .val (.int (v35 + v36)), .unset] [(.int v37)] := by
                  intro v37 hv37
                  refine g_istore X32 at_127 #[.val (.int c), .val (.int lx), .val (.int rx), .val (.int (c &&& (3 : Int32))), .val (.ref II), .val (.int (11 : Int32)), .val (.int v33), .val (.int v34), .val (.int (v35 + v36)), .val (.int v37)] rfl 129 rfl ?_
                  refine g_aload X32 at_129 rfl rfl 131 rfl ?_
                  refine g_iload X32 at_131 rfl 133 rfl ?_
                  refine g_iload X32 at_133 rfl 135 rfl ?_
                  refine g_callV X32 II [(.int v33), (.int v34)] [] (rm1 hw n0 II v33 v34 AA OO II h0 SA SO SI) EI (w3 hw) (w4 hw) (w6 hw) (w5 hw) (w1 hw) (w7 hw) (by decide) pd0 rfl rfl (by decide) (Nat.le_of_ble_eq_true rfl) (by decide) (by decide) at_135 rfl 138 rfl (fun v38 T38 h38 X38 q38 => ?_)
                  obtain ⟨rfl, rfl⟩ := q38
                  show Go k n0 (Q0 c lx rx AA OO II FF h0) 0 0 T38 138 #[.val (.int c), .val (.int lx), .val (.int rx), .val (.int (c &&& (3 : Int32))), .val (.ref II), .val (.int (11 : Int32)), .val (.int v33), .val (.int v34), .val (.int (v35 + v36)), .val (.int v37)] [(.int (fApp II AA OO II v33 v34))]
                  refine g_iload X38 at_138 rfl 140 rfl ?_
                  have k148_22 : ∀ (v39 : Int32), (Q0 c lx rx AA OO II FF h0) (some (.int (v39 &&& 1))) h0 → Go k n0 (Q0 c lx rx AA OO II FF h0) 0 0 T38 148 #[.val (.int c), .val (.int lx), .val (.int rx), .val (.int (c &&& (3 : Int32))), .val (.ref II), .val (.int (11 : Int32)), .val (.int v33), .val (.int v34), .val (.int (v35 + v36)), .val (.int v37)] [(.int v39)] := by
                    intro v39 hQ
                    exact g_retZ X38 at_148 (by decide) (by decide) hQ
                  refine g_icmpN X38 i_ne at_140 147 (by decide) (by decide) 143 rfl (fun h40 => ?_) (fun h40 => ?_)
                  · skip
                    refine g_iconst X38 (1 : Int32) at_143 rfl 144 rfl ?_
                    refine g_goto X38 at_144 148 (by decide) (by decide) ?_
                    exact k148_22 ((1 : Int32)) own_one
                  · skip
                    refine g_iconst X38 (0 : Int32) at_147 rfl 148 rfl ?_
                    exact k148_22 ((0 : Int32)) (absurd (by rw [(own_app3 nIA nIO)]; exact own_leaf gImp (own_01 hv33) (own_01 hv34) hv35 hv36 hv37 (by decide) (by decide) (by decide) (by decide)) h40)
                refine g_if X32 z_eq at_119 126 (by decide) (by decide) 122 rfl (fun h41 => ?_) (fun h41 => ?_)
                · skip
                  refine g_iconst X32 (0 : Int32) at_126 rfl 127 rfl ?_
                  exact k127_21 ((0 : Int32)) (by first | (simp only [h1, h16, h31, h41, if_true, if_false, true_or, or_true, true_and, and_true, not_true_eq_false, not_false_eq_true, false_or, or_false, false_and, and_false]; done) | (simp only [h1, h16, h31, h41, hv33, hv34, hv35, hv36, if_true, if_false, true_or, or_true, true_and, and_true, not_true_eq_false, not_false_eq_true, false_or, or_false, false_and, and_false]; done))
                · skip
                  refine g_iconst X32 (1 : Int32) at_122 rfl 123 rfl ?_
                  refine g_goto X32 at_123 127 (by decide) (by decide) ?_
                  exact k127_21 ((1 : Int32)) (by first | (simp only [h1, h16, h31, h41, if_true, if_false, true_or, or_true, true_and, and_true, not_true_eq_false, not_false_eq_true, false_or, or_false, false_and, and_false]; done) | (simp only [h1, h16, h31, h41, hv33, hv34, hv35, hv36, if_true, if_false, true_or, or_true, true_and, and_true, not_true_eq_false, not_false_eq_true, false_or, or_false, false_and, and_false]; done))
              refine g_if X32 z_eq at_101 108 (by decide) (by decide) 104 rfl (fun h42 => ?_) (fun h42 => ?_)
              · skip
                refine g_iconst X32 (0 : Int32) at_108 rfl 109 rfl ?_
                exact k109_20 ((0 : Int32)) (by first | (simp only [h1, h16, h31, h42, if_true, if_false, true_or, or_true, true_and, and_true, not_true_eq_false, not_false_eq_true, false_or, or_false, false_and, and_false]; done) | (simp only [h1, h16, h31, h42, hv33, hv34, hv35, if_true, if_false, true_or, or_true, true_and, and_true, not_true_eq_false, not_false_eq_true, false_or, or_false, false_and, and_false]; done))
              · skip
                refine g_iconst X32 (1 : Int32) at_104 rfl 105 rfl ?_
                refine g_goto X32 at_105 109 (by decide) (by decide) ?_
                exact k109_20 ((1 : Int32)) (by first | (simp only [h1, h16, h31, h42, if_true, if_false, true_or, or_true, true_and, and_true, not_true_eq_false, not_false_eq_true, false_or, or_false, false_and, and_false]; done) | (simp only [h1, h16, h31, h42, hv33, hv34, hv35, if_true, if_false, true_or, or_true, true_and, and_true, not_true_eq_false, not_false_eq_true, false_or, or_false, false_and, and_false]; done))
            refine g_if X32 z_eq at_91 98 (by decide) (by decide) 94 rfl (fun h43 => ?_) (fun h43 => ?_)
            · skip
              refine g_iconst X32 (0 : Int32) at_98 rfl 99 rfl ?_
              exact k99_19 ((0 : Int32)) (by first | (simp only [h1, h16, h31, h43, if_true, if_false, true_or, or_true, true_and, and_true, not_true_eq_false, not_false_eq_true, false_or, or_false, false_and, and_false]; done) | (simp only [h1, h16, h31, h43, hv33, hv34, if_true, if_false, true_or, or_true, true_and, and_true, not_true_eq_false, not_false_eq_true, false_or, or_false, false_and, and_false]; done))
            · skip
              refine g_iconst X32 (2 : Int32) at_94 rfl 95 rfl ?_
              refine g_goto X32 at_95 99 (by decide) (by decide) ?_
              exact k99_19 ((2 : Int32)) (by first | (simp only [h1, h16, h31, h43, if_true, if_false, true_or, or_true, true_and, and_true, not_true_eq_false, not_false_eq_true, false_or, or_false, false_and, and_false]; done) | (simp only [h1, h16, h31, h43, hv33, hv34, if_true, if_false, true_or, or_true, true_and, and_true, not_true_eq_false, not_false_eq_true, false_or, or_false, false_and, and_false]; done))
          refine g_if X32 z_eq at_79 86 (by decide) (by decide) 82 rfl (fun h44 => ?_) (fun h44 => ?_)
          · skip
            refine g_iconst X32 (0 : Int32) at_86 rfl 87 rfl ?_
            exact k87_18 ((0 : Int32)) (by first | (simp only [h1, h16, h31, h44, if_true, if_false, true_or, or_true, true_and, and_true, not_true_eq_false, not_false_eq_true, false_or, or_false, false_and, and_false]; done) | (simp only [h1, h16, h31, h44, hv33, if_true, if_false, true_or, or_true, true_and, and_true, not_true_eq_false, not_false_eq_true, false_or, or_false, false_and, and_false]; done))
          · skip
            refine g_iconst X32 (1 : Int32) at_82 rfl 83 rfl ?_
            refine g_goto X32 at_83 87 (by decide) (by decide) ?_
            exact k87_18 ((1 : Int32)) (by first | (simp only [h1, h16, h31, h44, if_true, if_false, true_or, or_true, true_and, and_true, not_true_eq_false, not_false_eq_true, false_or, or_false, false_and, and_false]; done) | (simp only [h1, h16, h31, h44, hv33, if_true, if_false, true_or, or_true, true_and, and_true, not_true_eq_false, not_false_eq_true, false_or, or_false, false_and, and_false]; done))
        refine g_if X32 z_eq at_66 73 (by decide) (by decide) 69 rfl (fun h45 => ?_) (fun h45 => ?_)
        · skip
          refine g_iconst X32 (0 : Int32) at_73 rfl 74 rfl ?_
          exact k74_17 ((0 : Int32)) (by first | (simp only [h1, h16, h31, h45, if_true, if_false, true_or, or_true, true_and, and_true, not_true_eq_false, not_false_eq_true, false_or, or_false, false_and, and_false]; done) | (simp only [h1, h16, h31, h45, if_true, if_false, true_or, or_true, true_and, and_true, not_true_eq_false, not_false_eq_true, false_or, or_false, false_and, and_false]; done))
        · skip
          refine g_iconst X32 (1 : Int32) at_69 rfl 70 rfl ?_
          refine g_goto X32 at_70 74 (by decide) (by decide) ?_
          exact k74_17 ((1 : Int32)) (by first | (simp only [h1, h16, h31, h45, if_true, if_false, true_or, or_true, true_and, and_true, not_true_eq_false, not_false_eq_true, false_or, or_false, false_and, and_false]; done) | (simp only [h1, h16, h31, h45, if_true, if_false, true_or, or_true, true_and, and_true, not_true_eq_false, not_false_eq_true, false_or, or_false, false_and, and_false]; done))
      · skip
        refine g_getS X0 (w12 hw) Via.refl SF at_54 57 rfl (fun T46 X46 => ?_)
        refine g_astore X46 at_57 rfl #[.val (.int c), .val (.int lx), .val (.int rx), .val (.int (c &&& (3 : Int32))), .val (.ref FF), .unset, .unset, .unset, .unset, .unset] rfl 59 rfl ?_
        refine g_bipush X46 (9 : Int32) at_59 rfl 61 rfl ?_
        refine g_istore X46 at_61 #[.val (.int c), .val (.int lx), .val (.int rx), .val (.int (c &&& (3 : Int32))), .val (.ref FF), .val (.int (9 : Int32)), .unset, .unset, .unset, .unset] rfl 63 rfl ?_
        refine g_iloadN X46 at_63 rfl 64 rfl ?_
        refine g_iconst X46 (1 : Int32) at_64 rfl 65 rfl ?_
        refine g_iand X46 at_65 66 rfl ?_
        have k74_23 : ∀ (v47 : Int32), v47 = (if (lx &&& (1 : Int32)) = 0 then (0 : Int32) else (1 : Int32)) → Go k n0 (Q0 c lx rx AA OO II FF h0) 0 0 T46 74 #[.val (.int c), .val (.int lx), .val (.int rx), .val (.int (c &&& (3 : Int32))), .val (.ref FF), .val (.int (9 : Int32)), .unset, .unset, .unset, .unset] [(.int v47)] := by
          intro v47 hv47
          refine g_istore X46 at_74 #[.val (.int c), .val (.int lx), .val (.int rx), .val (.int (c &&& (3 : Int32))), .val (.ref FF), .val (.int (9 : Int32)), .val (.int v47), .unset, .unset, .unset] rfl 76 rfl ?_
          refine g_iloadN X46 at_76 rfl 77 rfl ?_
          refine g_iconst X46 (1 : Int32) at_77 rfl 78 rfl ?_
          refine g_iand X46 at_78 79 rfl ?_
          have k87_24 : ∀ (v48 : Int32), v48 = (if (rx &&& (1 : Int32)) = 0 then (0 : Int32) else (1 : Int32)) → Go k n0 (Q0 c lx rx AA OO II FF h0) 0 0 T46 87 #[.val (.int c), .val (.int lx), .val (.int rx), .val (.int (c &&& (3 : Int32))), .val (.ref FF), .val (.int (9 : Int32)), .val (.int v47), .unset, .unset, .unset] [(.int v48)] := by
            intro v48 hv48
            refine g_istore X46 at_87 #[.val (.int c), .val (.int lx), .val (.int rx), .val (.int (c &&& (3 : Int32))), .val (.ref FF), .val (.int (9 : Int32)), .val (.int v47), .val (.int v48), .unset, .unset] rfl 89 rfl ?_
            refine g_iload X46 at_89 rfl 91 rfl ?_
            have k99_25 : ∀ (v49 : Int32), v49 = (if v47 = 0 then (0 : Int32) else (2 : Int32)) → Go k n0 (Q0 c lx rx AA OO II FF h0) 0 0 T46 99 #[.val (.int c), .val (.int lx), .val (.int rx), .val (.int (c &&& (3 : Int32))), .val (.ref FF), .val (.int (9 : Int32)), .val (.int v47), .val (.int v48), .unset, .unset] [(.int v49)] := by
              intro v49 hv49
              refine g_iload X46 at_99 rfl 101 rfl ?_
              have k109_26 : ∀ (v50 : Int32), v50 = (if v48 = 0 then (0 : Int32) else (1 : Int32)) → Go k n0 (Q0 c lx rx AA OO II FF h0) 0 0 T46 109 #[.val (.int c), .val (.int lx), .val (.int rx), .val (.int (c &&& (3 : Int32))), .val (.ref FF), .val (.int (9 : Int32)), .val (.int v47), .val (.int v48), .unset, .unset] [(.int v50), (.int v49)] := by
                intro v50 hv50
                refine g_iadd X46 at_109 110 rfl ?_
                refine g_istore X46 at_110 #[.val (.int c), .val (.int lx), .val (.int rx), .val (.int (c &&& (3 : Int32))), .val (.ref FF), .val (.int (9 : Int32)), .val (.int v47), .val (.int v48), .val (.int (v49 + v50)), .unset] rfl 112 rfl ?_
                refine g_iload X46 at_112 rfl 114 rfl ?_
                refine g_iload X46 at_114 rfl 116 rfl ?_
                refine g_ishr X46 at_116 117 rfl ?_
                refine g_iconst X46 (1 : Int32) at_117 rfl 118 rfl ?_
                refine g_iand X46 at_118 119 rfl ?_
                have k127_27 : ∀ (v51 : Int32), v51 = (if (((9 : Int32) >>> ((v49 + v50) &&& 31)) &&& (1 : Int32)) = 0 then (0 : Int32) else (1 : Int32)) → Go k n0 (Q0 c lx rx AA OO II FF h0) 0 0 T46 127 #[.val (.int c), .val (.int lx), .val (.int rx), .val (.int (c &&& (3 : Int32))), .val (.ref FF), .val (.int (9 : Int32)), .val (.int v47), .val (.int v48), .val (.int (v49 + v50)), .unset] [(.int v51)] := by
                  intro v51 hv51
                  refine g_istore X46 at_127 #[.val (.int c), .val (.int lx), .val (.int rx), .val (.int (c &&& (3 : Int32))), .val (.ref FF), .val (.int (9 : Int32)), .val (.int v47), .val (.int v48), .val (.int (v49 + v50)), .val (.int v51)] rfl 129 rfl ?_
                  refine g_aload X46 at_129 rfl rfl 131 rfl ?_
                  refine g_iload X46 at_131 rfl 133 rfl ?_
                  refine g_iload X46 at_133 rfl 135 rfl ?_
                  refine g_callV X46 FF [(.int v47), (.int v48)] [] (rm1 hw n0 FF v47 v48 AA OO II h0 SA SO SI) EF (w3 hw) (w4 hw) (w6 hw) (w5 hw) (w1 hw) (w7 hw) (by decide) pd0 rfl rfl (by decide) (Nat.le_of_ble_eq_true rfl) (by decide) (by decide) at_135 rfl 138 rfl (fun v52 T52 h52 X52 q52 => ?_)
                  obtain ⟨rfl, rfl⟩ := q52
                  show Go k n0 (Q0 c lx rx AA OO II FF h0) 0 0 T52 138 #[.val (.int c), .val (.int lx), .val (.int rx), .val (.int (c &&& (3 : Int32))), .val (.ref FF), .val (.int (9 : Int32)), .val (.int v47), .val (.int v48), .val (.int (v49 + v50)), .val (.int v51)] [(.int (fApp FF AA OO II v47 v48))]
                  refine g_iload X52 at_138 rfl 140 rfl ?_
                  have k148_28 : ∀ (v53 : Int32), (Q0 c lx rx AA OO II FF h0) (some (.int (v53 &&& 1))) h0 → Go k n0 (Q0 c lx rx AA OO II FF h0) 0 0 T52 148 #[.val (.int c), .val (.int lx), .val (.int rx), .val (.int (c &&& (3 : Int32))), .val (.ref FF), .val (.int (9 : Int32)), .val (.int v47), .val (.int v48), .val (.int (v49 + v50)), .val (.int v51)] [(.int v53)] := by
                    intro v53 hQ
                    exact g_retZ X52 at_148 (by decide) (by decide) hQ
                  refine g_icmpN X52 i_ne at_140 147 (by decide) (by decide) 143 rfl (fun h54 => ?_) (fun h54 => ?_)
                  · skip
                    refine g_iconst X52 (1 : Int32) at_143 rfl 144 rfl ?_
                    refine g_goto X52 at_144 148 (by decide) (by decide) ?_
                    exact k148_28 ((1 : Int32)) own_one
                  · skip
                    refine g_iconst X52 (0 : Int32) at_147 rfl 148 rfl ?_
                    exact k148_28 ((0 : Int32)) (absurd (by rw [(own_app4 nFA nFO nFI)]; exact own_leaf gIff (own_01 hv47) (own_01 hv48) hv49 hv50 hv51 (by decide) (by decide) (by decide) (by decide)) h54)
                refine g_if X46 z_eq at_119 126 (by decide) (by decide) 122 rfl (fun h55 => ?_) (fun h55 => ?_)
                · skip
                  refine g_iconst X46 (0 : Int32) at_126 rfl 127 rfl ?_
                  exact k127_27 ((0 : Int32)) (by first | (simp only [h1, h16, h31, h55, if_true, if_false, true_or, or_true, true_and, and_true, not_true_eq_false, not_false_eq_true, false_or, or_false, false_and, and_false]; done) | (simp only [h1, h16, h31, h55, hv47, hv48, hv49, hv50, if_true, if_false, true_or, or_true, true_and, and_true, not_true_eq_false, not_false_eq_true, false_or, or_false, false_and, and_false]; done))
                · skip
                  refine g_iconst X46 (1 : Int32) at_122 rfl 123 rfl ?_
                  refine g_goto X46 at_123 127 (by decide) (by decide) ?_
                  exact k127_27 ((1 : Int32)) (by first | (simp only [h1, h16, h31, h55, if_true, if_false, true_or, or_true, true_and, and_true, not_true_eq_false, not_false_eq_true, false_or, or_false, false_and, and_false]; done) | (simp only [h1, h16, h31, h55, hv47, hv48, hv49, hv50, if_true, if_false, true_or, or_true, true_and, and_true, not_true_eq_false, not_false_eq_true, false_or, or_false, false_and, and_false]; done))
              refine g_if X46 z_eq at_101 108 (by decide) (by decide) 104 rfl (fun h56 => ?_) (fun h56 => ?_)
              · skip
                refine g_iconst X46 (0 : Int32) at_108 rfl 109 rfl ?_
                exact k109_26 ((0 : Int32)) (by first | (simp only [h1, h16, h31, h56, if_true, if_false, true_or, or_true, true_and, and_true, not_true_eq_false, not_false_eq_true, false_or, or_false, false_and, and_false]; done) | (simp only [h1, h16, h31, h56, hv47, hv48, hv49, if_true, if_false, true_or, or_true, true_and, and_true, not_true_eq_false, not_false_eq_true, false_or, or_false, false_and, and_false]; done))
              · skip
                refine g_iconst X46 (1 : Int32) at_104 rfl 105 rfl ?_
                refine g_goto X46 at_105 109 (by decide) (by decide) ?_
                exact k109_26 ((1 : Int32)) (by first | (simp only [h1, h16, h31, h56, if_true, if_false, true_or, or_true, true_and, and_true, not_true_eq_false, not_false_eq_true, false_or, or_false, false_and, and_false]; done) | (simp only [h1, h16, h31, h56, hv47, hv48, hv49, if_true, if_false, true_or, or_true, true_and, and_true, not_true_eq_false, not_false_eq_true, false_or, or_false, false_and, and_false]; done))
            refine g_if X46 z_eq at_91 98 (by decide) (by decide) 94 rfl (fun h57 => ?_) (fun h57 => ?_)
            · skip
              refine g_iconst X46 (0 : Int32) at_98 rfl 99 rfl ?_
              exact k99_25 ((0 : Int32)) (by first | (simp only [h1, h16, h31, h57, if_true, if_false, true_or, or_true, true_and, and_true, not_true_eq_false, not_false_eq_true, false_or, or_false, false_and, and_false]; done) | (simp only [h1, h16, h31, h57, hv47, hv48, if_true, if_false, true_or, or_true, true_and, and_true, not_true_eq_false, not_false_eq_true, false_or, or_false, false_and, and_false]; done))
            · skip
              refine g_iconst X46 (2 : Int32) at_94 rfl 95 rfl ?_
              refine g_goto X46 at_95 99 (by decide) (by decide) ?_
              exact k99_25 ((2 : Int32)) (by first | (simp only [h1, h16, h31, h57, if_true, if_false, true_or, or_true, true_and, and_true, not_true_eq_false, not_false_eq_true, false_or, or_false, false_and, and_false]; done) | (simp only [h1, h16, h31, h57, hv47, hv48, if_true, if_false, true_or, or_true, true_and, and_true, not_true_eq_false, not_false_eq_true, false_or, or_false, false_and, and_false]; done))
          refine g_if X46 z_eq at_79 86 (by decide) (by decide) 82 rfl (fun h58 => ?_) (fun h58 => ?_)
          · skip
            refine g_iconst X46 (0 : Int32) at_86 rfl 87 rfl ?_
            exact k87_24 ((0 : Int32)) (by first | (simp only [h1, h16, h31, h58, if_true, if_false, true_or, or_true, true_and, and_true, not_true_eq_false, not_false_eq_true, false_or, or_false, false_and, and_false]; done) | (simp only [h1, h16, h31, h58, hv47, if_true, if_false, true_or, or_true, true_and, and_true, not_true_eq_false, not_false_eq_true, false_or, or_false, false_and, and_false]; done))
          · skip
            refine g_iconst X46 (1 : Int32) at_82 rfl 83 rfl ?_
            refine g_goto X46 at_83 87 (by decide) (by decide) ?_
            exact k87_24 ((1 : Int32)) (by first | (simp only [h1, h16, h31, h58, if_true, if_false, true_or, or_true, true_and, and_true, not_true_eq_false, not_false_eq_true, false_or, or_false, false_and, and_false]; done) | (simp only [h1, h16, h31, h58, hv47, if_true, if_false, true_or, or_true, true_and, and_true, not_true_eq_false, not_false_eq_true, false_or, or_false, false_and, and_false]; done))
        refine g_if X46 z_eq at_66 73 (by decide) (by decide) 69 rfl (fun h59 => ?_) (fun h59 => ?_)
        · skip
          refine g_iconst X46 (0 : Int32) at_73 rfl 74 rfl ?_
          exact k74_23 ((0 : Int32)) (by first | (simp only [h1, h16, h31, h59, if_true, if_false, true_or, or_true, true_and, and_true, not_true_eq_false, not_false_eq_true, false_or, or_false, false_and, and_false]; done) | (simp only [h1, h16, h31, h59, if_true, if_false, true_or, or_true, true_and, and_true, not_true_eq_false, not_false_eq_true, false_or, or_false, false_and, and_false]; done))
        · skip
          refine g_iconst X46 (1 : Int32) at_69 rfl 70 rfl ?_
          refine g_goto X46 at_70 74 (by decide) (by decide) ?_
          exact k74_23 ((1 : Int32)) (by first | (simp only [h1, h16, h31, h59, if_true, if_false, true_or, or_true, true_and, and_true, not_true_eq_false, not_false_eq_true, false_or, or_false, false_and, and_false]; done) | (simp only [h1, h16, h31, h59, if_true, if_false, true_or, or_true, true_and, and_true, not_true_eq_false, not_false_eq_true, false_or, or_false, false_and, and_false]; done))
set_option maxRecDepth 65536 in
set_option maxHeartbeats 40000000 in
theorem comes_1 {Post : Tables → Env → Array Value → State → Outcome → State → Prop} (hpost : ∀ tb e args s v u, (limb_1_1.after args s (.returned v) u = true ∧ limb_1_2.after args s (.returned v) u = true ∧ True) → FrameEnd s (.returned v) u (Jvm.fieldLocs frame_1_writes args s ++ Jvm.arrayLocs frame_1_arrays args s ++ Jvm.staticLocs frame_1_statics s) 0 0 → Post tb e args s (.returned v) u) :
    ArmFor flags0 classFile x code maxLocals ret World_1 tables_1 room_1 Calls_1 rest_1 Pre_1 Post := by
  intro l hfl _ _ p e ha hc hk s m args below hf hA hF happ hP
  obtain ⟨hcalls, hrest, hpre⟩ := hP
  obtain ⟨-, -, -, hnamed, -, -, -, hat⟩ := (Spec.applies_iff hf).mp happ
  obtain ⟨hg, hn⟩ := and_e (Cond.before_iff.mp (show (Jvm.Cond.and given_1 narrow_1).before args s = true from hpre))
  obtain ⟨hcount, g0⟩ := and_e hg
  obtain ⟨q0, g1⟩ := and_e g0
  obtain ⟨q1, g2⟩ := and_e g1
  have q2 := g2
  obtain ⟨w0, w1, w2, rfl⟩ : ∃ w0 w1 w2 : Value, args = #[w0, w1, w2] := by
    have hs : args.size = 3 := by simpa [Cond.value, given_1] using hcount
    obtain ⟨L⟩ := args
    match L, hs with
    | [w0, w1, w2], _ => exact ⟨w0, w1, w2, rfl⟩
  have hw := fun d (hd : d ∈ tables_1) => atoms_spec (ws := Jvm.Cond.code x code maxLocals ret :: tables_1) hat d (List.mem_cons_of_mem _ hd)
  have hfit : Fit s := fun {y c} hc i hi => by
    obtain ⟨ha, rfl⟩ := Array.getElem?_eq_some_iff.mp hc
    have q := List.all_eq_true.mp ((Array.all_eq_true_iff_forall_mem.mp hF) _ (Array.getElem_mem ha)) i (List.mem_range.mpr hi)
    simpa [Array.getElem?_eq_getElem hi] using q
  obtain ⟨i0, e0⟩ := is_v q0
  obtain rfl : w0 = (.int i0) := Option.some.inj e0
  obtain ⟨i1, e1⟩ := is_v q1
  obtain rfl : w1 = (.int i1) := Option.some.inj e1
  obtain ⟨i2, e2⟩ := is_v q2
  obtain rfl : w2 = (.int i2) := Option.some.inj e2
  obtain ⟨m1, n1⟩ := and_e hn
  obtain ⟨m2, n2⟩ := and_e n1
  obtain ⟨m3, n3⟩ := and_e n2
  obtain ⟨m4, n4⟩ := and_e n3
  obtain ⟨m5, n5⟩ := and_e n4
  obtain ⟨m6, n6⟩ := and_e n5
  obtain ⟨m7, m8⟩ := and_e n6
  obtain ⟨AA, eAA⟩ := exa_v m1
  have SA : Sta s s.heap "com/example/fluxmark/fluxmark/logic/Formula$Connective" "AND" "Lcom/example/fluxmark/fluxmark/logic/Formula$Connective;" (.ref AA) := Sta.start eAA (Or.inr ⟨(w1 hw), (w2 hw)⟩)
  have EA : Exa s s.heap AA "com/example/fluxmark/fluxmark/logic/Formula$Connective" := Exa.start eAA m1
  have OrA : Fld s s.heap AA "java/lang/Enum" "ordinal" "I" (.int 0) := Fld.start (by rw [← fld_at eAA]; exact eqv_i (Term.int_eval 0) m4)
  obtain ⟨OO, eOO⟩ := exa_v m2
  have SO : Sta s s.heap "com/example/fluxmark/fluxmark/logic/Formula$Connective" "OR" "Lcom/example/fluxmark/fluxmark/logic/Formula$Connective;" (.ref OO) := Sta.start eOO (Or.inr ⟨(w1 hw), (w10 hw)⟩)
  have EO : Exa s s.heap OO "com/example/fluxmark/fluxmark/logic/Formula$Connective" := Exa.start eOO m2
  have OrO : Fld s s.heap OO "java/lang/Enum" "ordinal" "I" (.int 1) := Fld.start (by rw [← fld_at eOO]; exact eqv_i (Term.int_eval 1) m3)
  obtain ⟨FF, eFF⟩ := exa_v m5
  have SF : Sta s s.heap "com/example/fluxmark/fluxmark/logic/Formula$Connective" "IFF" "Lcom/example/fluxmark/fluxmark/logic/Formula$Connective;" (.ref FF) := Sta.start eFF (Or.inr ⟨(w1 hw), (w13 hw)⟩)
  have EF : Exa s s.heap FF "com/example/fluxmark/fluxmark/logic/Formula$Connective" := Exa.start eFF m5
  have OrF : Fld s s.heap FF "java/lang/Enum" "ordinal" "I" (.int 3) := Fld.start (by rw [← fld_at eFF]; exact eqv_i (Term.int_eval 3) m6)
  obtain ⟨II, eII⟩ := exa_v m7
  have SI : Sta s s.heap "com/example/fluxmark/fluxmark/logic/Formula$Connective" "IMPLIES" "Lcom/example/fluxmark/fluxmark/logic/Formula$Connective;" (.ref II) := Sta.start eII (Or.inr ⟨(w1 hw), (w15 hw)⟩)
  have EI : Exa s s.heap II "com/example/fluxmark/fluxmark/logic/Formula$Connective" := Exa.start eII m7
  have OrI : Fld s s.heap II "java/lang/Enum" "ordinal" "I" (.int 2) := Fld.start (by rw [← fld_at eII]; exact eqv_i (Term.int_eval 2) m8)
  have nOA : ¬ OO = AA := Fld.ne OrO OrA (by decide)
  have nIA : ¬ II = AA := Fld.ne OrI OrA (by decide)
  have nIO : ¬ II = OO := Fld.ne OrI OrO (by decide)
  have nFA : ¬ FF = AA := Fld.ne OrF OrA (by decide)
  have nFO : ¬ FF = OO := Fld.ne OrF OrO (by decide)
  have nFI : ¬ FF = II := Fld.ne OrF OrI (by decide)
  obtain ⟨n, o, h1, h2, h3, v, L, rfl, ⟨N, hQ⟩, hq⟩ := rm0 (l := l) hw s.heap.size i0 i1 i2 AA OO II FF s.heap SA SO SI SF EA EO EI EF nOA nIA nIO nFA nFO nFI p e ha hc hk s m _ below hf ((Spec.applies_iff_loose hf).mp happ).1 ⟨rfl, State.Warmed39.refl s, rfl⟩ trivial
  obtain rfl : v = some (.int 1) := hQ
  refine ⟨n, _, h1, h2, h3, hpost _ _ _ _ _ _ ⟨Cond.after_iff.mpr rfl, Cond.after_iff.mpr (eq_i res_at (Term.int_eval (1)) rfl), trivial⟩ ⟨hq.1, hq.2.1, (hq.2.2.sift fun y hy => Or.inr (N y hy)).mono (by decide) (by decide)⟩⟩
theorem main_1_1 : Claimed_1_1 := comes_1 fun _ _ _ _ _ _ h hF => ⟨h.1, hF⟩
theorem main_1_2 : Claimed_1_2 := comes_1 fun _ _ _ _ _ _ h hF => ⟨h.2.1, hF⟩
end Jvm.Pilot.@@N@@
namespace Jvm.Pilot.@@N@@
open Jvm Jvm.ClassFile Sem Op Lib Jvm.Free Jvm.Stand Jvm.Pilot.@@N@@.Jvm.D
/-! MADE BY PROGRAM (witnessworld.py) out of the Statement's table words and the real class files: 12 classes; the members and pool entries that the words name. The judged class is class 1, her method 1. -/
namespace start1
open Jvm.ClassFile
def u (s : String) : CpInfo := .utf8 (stringToUtf16 s)
/-- a pool by its gaps: so many unusable entries, then the entry; so many at the end -/
def gap : Nat → List CpInfo → List CpInfo
  | 0, r => r
  | n + 1, r => .unusable :: gap n r
def poolList (es : List (Nat × CpInfo)) (last : Nat) : List CpInfo := es.foldr (fun e r => gap e.1 (e.2 :: r)) (gap last [])
def pool (es : List (Nat × CpInfo)) (last : Nat) : Array CpInfo := ⟨poolList es last⟩
def fileOf (pool : Array CpInfo) (this : Nat) (attrs : Array Attribute := #[]) (ms : Array MethodInfo := #[]) (fl : Nat := 33) (sup : Nat := 0) (ifs : Array Nat := #[]) (fds : Array FieldInfo := #[]) : ClassFile where
  minorVersion := 0
  majorVersion := 65
  constantPool := pool
  accessFlags := fl
  thisClass := this
  superClass := sup
  interfaces := ifs
  fields := fds
  methods := ms
  attributes := attrs
def plain (name : String) (sup : Option ClassId) : Class where
  name := name
  kind := .ordinary
  loader := none
  accessFlags := 33
  super := sup
  interfaces := #[]
  cf := none
  fields := #[]
  methods := #[]
  instanceTypes := #[]
  staticTypes := #[]
  resolved := #[]
  callSites := []
  init := .initialized
  statics := none
  mirror := none

def pool0 : Array CpInfo := pool [(5, u "<init>"), (0, u "()V"), (1, .class_ 10), (1, u "java/lang/Object")] 113

def k0m0 : Method := { name := "<init>", desc := "()V", sig := { parameters := [], returnType := none }, accessFlags := 1, code := none }
/-- java/lang/Object -/
def k0 : Class := { plain "java/lang/Object" none with
  accessFlags := 33
  interfaces := #[]
  cf := some (fileOf pool0 8 #[] #[{ accessFlags := 1, nameIndex := 5, descriptorIndex := 6, attributes := #[] }] 33 0 #[] #[])
  fields := #[]
  methods := #[k0m0]
  instanceTypes := #[]
  staticTypes := #[]
  resolved := Array.replicate 124 none
  statics := none }

def pool1 : Array CpInfo := pool [(2, .class_ 4), (1, u "java/lang/Object"), (0, u "<init>"), (0, u "()V"), (0, .fieldref 8 9), (0, .class_ 10), (0, .nameAndType 11 12), (0, u "com/example/fluxmark/fluxmark/logic/Formula$Connective"), (0, u "AND"), (0, u "Lcom/example/fluxmark/fluxmark/logic/Formula$Connective;"), (0, .fieldref 8 14), (0, .nameAndType 15 12), (0, u "OR"), (0, .fieldref 8 17), (0, .nameAndType 18 12), (0, u "IMPLIES"), (0, .fieldref 8 20), (0, .nameAndType 21 12), (0, u "IFF"), (0, .methodref 8 23), (0, .nameAndType 24 25), (0, u "apply"), (0, u "(ZZ)Z"), (0, .class_ 27), (0, u "com/example/fluxmark/fluxmark/logic/ConnectiveApplyPinLaw"), (2, u "law"), (0, u "(III)Z")] 7

def k1m0 : Method := { name := "<init>", desc := "()V", sig := { parameters := [], returnType := none }, accessFlags := 1, code := none }
def k1c1 : Code := { maxStack := 3, maxLocals := 10, code := code, exceptionTable := #[], attributes := #[] }
def k1m1 : Method := { name := "law", desc := "(III)Z", sig := { parameters := [.int, .int, .int], returnType := some .boolean }, accessFlags := 9, code := some k1c1 }
/-- com/example/fluxmark/fluxmark/logic/ConnectiveApplyPinLaw -/
def k1 : Class := { plain "com/example/fluxmark/fluxmark/logic/ConnectiveApplyPinLaw" (some 0) with
  accessFlags := 49
  interfaces := #[]
  cf := some (fileOf pool1 26 #[] #[{ accessFlags := 1, nameIndex := 5, descriptorIndex := 6, attributes := #[] }, { accessFlags := 9, nameIndex := 30, descriptorIndex := 31, attributes := #[] }] 49 2 #[] #[])
  fields := #[]
  methods := #[k1m0, k1m1]
  instanceTypes := #[]
  staticTypes := #[]
  resolved := Array.replicate 39 none
  statics := none }

def pool2 : Array CpInfo := pool [(1, .class_ 2), (0, u "java/lang/constant/Constable"), (0, .class_ 4), (0, u "java/lang/Object")] 6

/-- java/lang/constant/Constable -/
def k2 : Class := { plain "java/lang/constant/Constable" (some 0) with
  accessFlags := 1537
  interfaces := #[]
  cf := some (fileOf pool2 1 #[] #[] 1537 3 #[] #[])
  fields := #[]
  methods := #[]
  instanceTypes := #[]
  staticTypes := #[]
  resolved := Array.replicate 11 none
  statics := none }

def pool3 : Array CpInfo := pool [(1, .class_ 2), (0, u "java/lang/Comparable"), (0, .class_ 4), (0, u "java/lang/Object")] 7

/-- java/lang/Comparable -/
def k3 : Class := { plain "java/lang/Comparable" (some 0) with
  accessFlags := 1537
  interfaces := #[]
  cf := some (fileOf pool3 1 #[] #[] 1537 3 #[] #[])
  fields := #[]
  methods := #[]
  instanceTypes := #[]
  staticTypes := #[]
  resolved := Array.replicate 12 none
  statics := none }

def pool4 : Array CpInfo := pool [(1, .class_ 2), (0, u "java/io/Serializable"), (0, .class_ 4), (0, u "java/lang/Object")] 2

/-- java/io/Serializable -/
def k4 : Class := { plain "java/io/Serializable" (some 0) with
  accessFlags := 1537
  interfaces := #[]
  cf := some (fileOf pool4 1 #[] #[] 1537 3 #[] #[])
  fields := #[]
  methods := #[]
  instanceTypes := #[]
  staticTypes := #[]
  resolved := Array.replicate 7 none
  statics := none }

def pool5 : Array CpInfo := pool [(2, .class_ 4), (1, u "java/lang/Enum"), (0, u "name"), (0, u "Ljava/lang/String;"), (2, u "ordinal"), (0, u "I"), (1, .class_ 14), (1, u "java/lang/Object"), (4, u "hash"), (86, .class_ 108), (1, u "java/lang/Enum$EnumDesc"), (2, .class_ 112), (0, u "java/lang/constant/Constable"), (0, .class_ 114), (0, u "java/lang/Comparable"), (0, .class_ 116), (0, u "java/io/Serializable")] 87

/-- java/lang/Enum -/
def k5 : Class := { plain "java/lang/Enum" (some 0) with
  accessFlags := 1057
  interfaces := #[2, 3, 4]
  cf := some (fileOf pool5 2 #[.nestMembers #[106]] #[] 1057 12 #[111, 113, 115] #[{ accessFlags := 18, nameIndex := 5, descriptorIndex := 6, attributes := #[] }, { accessFlags := 18, nameIndex := 9, descriptorIndex := 10, attributes := #[] }, { accessFlags := 2, nameIndex := 19, descriptorIndex := 10, attributes := #[] }])
  fields := #[{ name := "name", type := (.object "java/lang/String"), accessFlags := 18, slot := 0, constantValue := 0 }, { name := "ordinal", type := .int, accessFlags := 18, slot := 1, constantValue := 0 }, { name := "hash", type := .int, accessFlags := 2, slot := 2, constantValue := 0 }]
  methods := #[]
  instanceTypes := #[(.object "java/lang/String"), .int, .int]
  staticTypes := #[]
  resolved := Array.replicate 204 none
  statics := none }

def pool6 : Array CpInfo := pool [(1, .class_ 2), (0, u "com/example/fluxmark/fluxmark/logic/Formula$Connective"), (0, .fieldref 1 4), (0, .nameAndType 5 6), (0, u "AND"), (0, u "Lcom/example/fluxmark/fluxmark/logic/Formula$Connective;"), (0, .fieldref 1 8), (0, .nameAndType 9 6), (0, u "OR"), (0, .fieldref 1 11), (0, .nameAndType 12 6), (0, u "IMPLIES"), (2, u "IFF"), (2, u "$VALUES"), (0, u "[Lcom/example/fluxmark/fluxmark/logic/Formula$Connective;"), (6, .class_ 28), (1, u "java/lang/Enum"), (8, u "symbol"), (0, u "Ljava/lang/String;"), (27, u "apply"), (0, u "(ZZ)Z"), (7, .class_ 76), (0, u "com/example/fluxmark/fluxmark/logic/Formula")] 2

def k6c0 : Code := { maxStack := 2, maxLocals := 4, code := prog_49_method_5_code, exceptionTable := #[], attributes := #[] }
def k6m0 : Method := { name := "apply", desc := "(ZZ)Z", sig := { parameters := [.boolean, .boolean], returnType := some .boolean }, accessFlags := 1, code := some k6c0 }
/-- com/example/fluxmark/fluxmark/logic/Formula$Connective -/
def k6 : Class := { plain "com/example/fluxmark/fluxmark/logic/Formula$Connective" (some 5) with
  accessFlags := 16433
  interfaces := #[]
  cf := some (fileOf pool6 1 #[.nestHost 75] #[{ accessFlags := 1, nameIndex := 66, descriptorIndex := 67, attributes := #[] }] 16433 26 #[] #[{ accessFlags := 16409, nameIndex := 5, descriptorIndex := 6, attributes := #[] }, { accessFlags := 16409, nameIndex := 9, descriptorIndex := 6, attributes := #[] }, { accessFlags := 16409, nameIndex := 12, descriptorIndex := 6, attributes := #[] }, { accessFlags := 16409, nameIndex := 15, descriptorIndex := 6, attributes := #[] }, { accessFlags := 18, nameIndex := 37, descriptorIndex := 38, attributes := #[] }, { accessFlags := 4122, nameIndex := 18, descriptorIndex := 19, attributes := #[] }])
  fields := #[{ name := "AND", type := (.object "com/example/fluxmark/fluxmark/logic/Formula$Connective"), accessFlags := 16409, slot := 0, constantValue := 0 }, { name := "OR", type := (.object "com/example/fluxmark/fluxmark/logic/Formula$Connective"), accessFlags := 16409, slot := 1, constantValue := 0 }, { name := "IMPLIES", type := (.object "com/example/fluxmark/fluxmark/logic/Formula$Connective"), accessFlags := 16409, slot := 2, constantValue := 0 }, { name := "IFF", type := (.object "com/example/fluxmark/fluxmark/logic/Formula$Connective"), accessFlags := 16409, slot := 3, constantValue := 0 }, { name := "symbol", type := (.object "java/lang/String"), accessFlags := 18, slot := 3, constantValue := 0 }, { name := "$VALUES", type := (.array (.object "com/example/fluxmark/fluxmark/logic/Formula$Connective")), accessFlags := 4122, slot := 4, constantValue := 0 }]
  methods := #[k6m0]
  instanceTypes := #[(.object "java/lang/String"), .int, .int, (.object "java/lang/String")]
  staticTypes := #[(.object "com/example/fluxmark/fluxmark/logic/Formula$Connective"), (.object "com/example/fluxmark/fluxmark/logic/Formula$Connective"), (.object "com/example/fluxmark/fluxmark/logic/Formula$Connective"), (.object "com/example/fluxmark/fluxmark/logic/Formula$Connective"), (.array (.object "com/example/fluxmark/fluxmark/logic/Formula$Connective"))]
  resolved := Array.replicate 79 none
  statics := some 0 }

def pool7 : Array CpInfo := pool [(1, u "java/lang/Cloneable"), (0, .class_ 1), (0, u "java/lang/Object"), (0, .class_ 3)] 3

/-- java/lang/Cloneable -/
def k7 : Class := { plain "java/lang/Cloneable" (some 0) with
  accessFlags := 1537
  interfaces := #[]
  cf := some (fileOf pool7 2 #[] #[] 1537 4 #[] #[])
  fields := #[]
  methods := #[]
  instanceTypes := #[]
  staticTypes := #[]
  resolved := Array.replicate 8 none
  statics := none }

/-- the primitive byte -/
def k8 : Class := { plain "byte" none with kind := .primitive 'B', accessFlags := 0x411 }
/-- [B -/
def k9 : Class := { plain "[B" (some 0) with kind := .array 8 .byte, interfaces := #[7, 4], accessFlags := 1041 }

/-- the primitive int -/
def k10 : Class := { plain "int" none with kind := .primitive 'I', accessFlags := 0x411 }
/-- [I -/
def k11 : Class := { plain "[I" (some 0) with kind := .array 10 .int, interfaces := #[7, 4], accessFlags := 1041 }

def heap : Heap := #[{ cls := 6, slots := #[.ref 1, .ref 2, .ref 3, .ref 4, .null], vm := .statics 6 },
  { cls := 6, slots := #[.null, .int 0, .int 0, .null], vm := .none },
  { cls := 6, slots := #[.null, .int 1, .int 0, .null], vm := .none },
  { cls := 6, slots := #[.null, .int 2, .int 0, .null], vm := .none },
  { cls := 6, slots := #[.null, .int 3, .int 0, .null], vm := .none }]
def classes : Array Class := #[k0, k1, k2, k3, k4, k5, k6, k7, k8, k9, k10, k11]
def interned : List (Array UInt16 × Addr) := []
def slotsUsed : Nat := 21
def theMethod : MethodId := ⟨1, 1⟩
def args0 : Array Value := #[.int 5, .int 1, .int 1]
def aboutOver (below : List Frame) : State where
  vm := { classes := classes, interned := interned.toArray }
  heap := heap
  slotsUsed := slotsUsed
  threads := #[{ frames := .invoking theMethod args0 :: below }]
def below0 : List Frame := [.native { method := ⟨0, 0⟩, args := #[] }]
def about1 : State := aboutOver below0
def p0 : Program := .bare "" "" ""
def e0 : Env := launch0.env 0 0 0
theorem w_frames : about1.frames = Frame.invoking theMethod args0 :: below0 := rfl
set_option maxRecDepth 65536 in
theorem w_args : argsFit about1.vm theMethod args0 = true := by decide +kernel
set_option maxRecDepth 65536 in
theorem w_heap : heapFits about1 = true := by decide +kernel
set_option maxRecDepth 65536 in
theorem w_runnable : about1.curStatus? = some .runnable := by decide +kernel
set_option maxRecDepth 65536 in
theorem w_alone : about1.alone = true := by decide +kernel
set_option maxRecDepth 65536 in
theorem w_named : about1.methodNamed? x = some theMethod := by decide +kernel
set_option maxRecDepth 65536 in
theorem w_hears : about1.hears theMethod below0 = true := by decide +kernel
set_option maxRecDepth 65536 in
theorem w_ripe : about1.ripe theMethod args0 below0 = true := by decide +kernel
theorem w_running : about1.status = .running := rfl
set_option maxRecDepth 65536 in
theorem w_room : about1.hasRoom e0.platform room_1 = true :=
  launch0.hasRoom_least _ room_1 (by decide +kernel) (by decide +kernel) (by decide +kernel) (by decide +kernel) (by decide +kernel) (by decide +kernel)
theorem allAtoms_all (ts : List Jvm.Cond) (a : Array Jvm.Value) (st : Jvm.State) : (allAtoms ts).before a st = ts.all (fun c => c.before a st) := by
  induction ts with
  | nil => rfl
  | cons c t ih =>
    show (Jvm.Cond.and c (allAtoms t)).before a st = _
    rw [Jvm.Cond.before_and, ih, List.all_cons]
def words1 : List Jvm.Cond := Jvm.Cond.code x code maxLocals ret :: tables_1
/-- a 'code' word, met by the world's own term for the bytes: nothing is compared byte by byte -/
theorem code_word {y : MethodName} {bytes : ByteArray} {mx : Nat} {rt : Option FieldType} {a : Array Value} {s : State} {m : MethodId} {meth : Method} {c : Code} (h1 : s.methodNamed? y = some m) (h2 : s.vm.method? m = some meth) (h3 : meth.code = some c) (h4 : c.code = bytes)
    (h5 : (c.maxLocals == mx && c.exceptionTable.isEmpty && decide (c.maxStack ≤ mostOperands) && decide (meth.sig.returnType = rt) && !meth.locks && decide (parseMethodDescriptor y.desc = some meth.sig)) = true) : (Jvm.Cond.code y bytes mx rt).before a s = true := by
  simp only [Bool.and_eq_true, beq_iff_eq, Bool.not_eq_true', decide_eq_true_eq] at h5
  obtain ⟨⟨⟨⟨⟨g1, g2⟩, g3⟩, g4⟩, g5⟩, g6⟩ := h5
  simp [Cond.before, Cond.holds, Cond.value, h1, h2, h3, h4, g1, g2, g3, g4, g5, g6]
def isCode : Jvm.Cond → Bool
  | .code _ _ _ _ => true
  | _ => false
theorem all_split {L : List Jvm.Cond} {P : Jvm.Cond → Bool} (h1 : L.all (fun c => isCode c || P c) = true) (h2 : ∀ c ∈ L.filter isCode, P c = true) : L.all P = true := by
  refine List.all_eq_true.mpr fun c hc => ?_
  have h := List.all_eq_true.mp h1 c hc
  rcases Bool.eq_false_or_eq_true (isCode c) with hi | hi
  · exact h2 c (List.mem_filter.mpr ⟨hc, hi⟩)
  · simpa [hi] using h
set_option maxRecDepth 65536 in
theorem w_c0 : (Jvm.Cond.code x code maxLocals ret).before args0 about1 = true := code_word (m := ⟨1, 1⟩) (meth := k1m1) (c := k1c1) (by decide +kernel) rfl rfl rfl (by decide +kernel)
set_option maxRecDepth 65536 in
theorem w_c1 : (Jvm.Cond.code ({ cls := "com/example/fluxmark/fluxmark/logic/Formula$Connective", name := "apply", desc := "(ZZ)Z" } : Jvm.MethodName) prog_49_method_5_code (4 : Nat) (Option.some Jvm.ClassFile.FieldType.boolean)).before args0 about1 = true := code_word (m := ⟨6, 0⟩) (meth := k6m0) (c := k6c0) (by decide +kernel) rfl rfl rfl (by decide +kernel)
def codes1 : List Jvm.Cond := [Jvm.Cond.code x code maxLocals ret, Jvm.Cond.code ({ cls := "com/example/fluxmark/fluxmark/logic/Formula$Connective", name := "apply", desc := "(ZZ)Z" } : Jvm.MethodName) prog_49_method_5_code (4 : Nat) (Option.some Jvm.ClassFile.FieldType.boolean)]
set_option maxRecDepth 65536 in
theorem codes_eq : words1.filter isCode = codes1 := rfl
theorem w_codes : ∀ c ∈ words1.filter isCode, c.before args0 about1 = true := by
  rw [codes_eq]
  intro c hc
  simp only [codes1, List.mem_cons, List.not_mem_nil, or_false] at hc
  rcases hc with rfl | rfl
  · exact w_c0
  · exact w_c1
set_option maxRecDepth 65536 in
theorem w_t1 : words1.all (fun c => isCode c || c.before args0 about1) = true := by decide +kernel
theorem w_tables : (allAtoms (Jvm.Cond.code x code maxLocals ret :: tables_1)).before args0 about1 = true := by
  rw [allAtoms_all]
  show words1.all (fun c => c.before args0 about1) = true
  refine all_split ?_ w_codes
  rw [w_t1]
set_option maxRecDepth 65536 in
theorem w_case : (Jvm.Cond.and given_1 narrow_1).before args0 about1 = true := by decide +kernel
theorem w_applies : (headSpec (Jvm.Cond.code x code maxLocals ret :: tables_1) room_1).applies x e0.platform about1 = true :=
  (Spec.applies_iff w_frames).mpr ⟨w_running, w_runnable, w_alone, w_named, w_hears, w_ripe, w_room, w_tables⟩
theorem atStart : AtStart classFile x code maxLocals ret World_1 tables_1 room_1 Calls_1 rest_1 Pre_1 launch0 p0 e0 about1 theMethod args0 below0 :=
  ⟨lists_1, trivial, launch0.admits_env _ _ _, launch0.least_env, fairChoices_fair.cas, fairChoices_fair.clock, w_frames, w_args, w_heap, w_applies, trivial, trivial, w_case⟩
end start1
theorem witness_1 : WitnessClaimed_1 := ⟨start1.p0, start1.e0, start1.about1, start1.theMethod, start1.args0, start1.below0, start1.atStart⟩
end Jvm.Pilot.@@N@@
