import JvmDerived
import JvmDerived.Pilot.@@N@@Statement
import JvmDerived.Pilot.@@N@@Code
set_option linter.unusedVariables false
set_option linter.unusedSimpArgs false

namespace Jvm.Pilot.@@N@@
open Jvm Jvm.ClassFile Sem Op Lib Jvm.Free Jvm.Stand Jvm.LawKit Jvm.RoadKit Bundle Jvm.Pilot.@@N@@.Jvm.D
/-! ## own kit: a walk forwards, in small words -/
abbrev owK : Type := Program × Env × State × MethodId × Array Value × List Frame × Method × Code
abbrev owp (k : owK) : Program := k.1
abbrev owe (k : owK) : Env := k.2.1
abbrev ows (k : owK) : State := k.2.2.1
abbrev owm (k : owK) : MethodId := k.2.2.2.1
abbrev owa (k : owK) : Array Value := k.2.2.2.2.1
abbrev owb (k : owK) : List Frame := k.2.2.2.2.2.1
abbrev owM (k : owK) : Method := k.2.2.2.2.2.2.1
abbrev owc (k : owK) : Code := k.2.2.2.2.2.2.2
/-- what stands fast through a body -/
def owC (Z : State) (y : MethodName) (B : ByteArray) (ml : Nat) (rt : Option FieldType) (k : owK) : Prop :=
  (owp k).tables.exec = Jvm.exec ∧ Z.Warmed39 (ows k).vm ∧ (ows k).vm.findClass y.cls = some (owm k).cls ∧ (owc k).code = B ∧ (owc k).maxLocals = ml ∧ (owM k).name = y.name ∧ (owM k).sig.returnType = rt ∧ (owM k).locks = false
/-- where the walk stands: the state T with the heap h; cc cells and ss slots made so far; all writes at or above n0 -/
def Sd (l : Launch) (Z : State) (n0 : Nat) (y : MethodName) (B : ByteArray) (ml : Nat) (rt : Option FieldType) (R : Room) (k : owK) (T : State) (h : Heap) (cc ss : Nat) : Prop :=
  (∃ locs, Stand (owp k) l (owe k) R (ows k) (owm k) (owa k) (owb k) (owM k) (owc k) T locs cc ss ∧ Fr n0 locs) ∧ T.heap = h ∧ owC Z y B ml rt k
/-- from here the walk ends, as Q says -/
def Go (k : owK) (n0 : Nat) (Q : Option Value → Heap → Prop) (kc ks : Nat) (T : State) (pc : Nat) (Ls : Array Slot) (st : List Value) : Prop :=
  ∃ s₂ o, Steps (owp k).tables (owe k) (owb k) (T.setTop (mkF (owm k) pc Ls st)) s₂ ∧ s₂.status = .running ∧ Ended s₂ (owb k) o ∧ ∃ v L, o = .returned v ∧ (Fr n0 L ∧ Q v s₂.heap) ∧ FrameEnd (ows k) o s₂ L kc ks
/-- the contract of a body -/
def Met (l : Launch) (Z : State) (n0 : Nat) (y : MethodName) (B : ByteArray) (ml : Nat) (rt : Option FieldType) (ws : List Jvm.Cond) (R : Room) (as : Array Value) (h0 : Heap) (Q : Option Value → Heap → Prop) (kc ks : Nat) : Prop :=
  MetFree l y (head1 (Jvm.Cond.code y B ml rt :: ws) R) (fun a U => a = as ∧ Z.Warmed39 U.vm ∧ U.heap = h0) (fun _ _ _ _ _ => True) (fun _ U o U' => ∃ v L, o = .returned v ∧ (Fr n0 L ∧ Q v U'.heap) ∧ FrameEnd U o U' L kc ks)
section Ow
variable {l : Launch} {Z : State} {n0 : Nat} {y : MethodName} {B : ByteArray} {ml : Nat} {rt : Option FieldType} {R : Room} {k : owK} {T : State} {h : Heap} {cc ss : Nat} {Q : Option Value → Heap → Prop} {kc ks : Nat} {pc : Nat} {Ls : Array Slot} {st : List Value} {a0 : Array Value}
theorem Met.of {ws : List Jvm.Cond} {as : Array Value} {h0 : Heap} {Ls : Array Slot} (hp : Jvm.plainFor y = true) (hef : Jvm.Sym.laidSlots as.toList ++ List.replicate (ml - (Jvm.Sym.laidSlots as.toList).length) .unset = Ls.toList) (body : ∀ k T, Sd l Z n0 y B ml rt R k T h0 0 0 → Go k n0 Q kc ks T 0 Ls []) : Met l Z n0 y B ml rt ws R as h0 Q kc ks := by
  refine MetFree.of_bodySF hp hisR ?_
  intro p e s m args below meth c s₁ Bd hml hP hK
  obtain ⟨rfl, hZ, hh⟩ := hP
  have hown : s.vm.findClass y.cls = some m.cls := findClass_of_methodNamed Bd.named
  have hnm := (name_of_methodNamed Bd.named Bd.method).1
  have X0 : Stand p l e R s m args below meth c s₁ [] 0 0 := Stand.of_body Bd
  have e0 : s₁.heap = h0 := by rw [← hh, Bd.state]; rfl
  obtain ⟨s2, o, h1, h2, h3, h4⟩ := body (p, e, s, m, args, below, meth, c) s₁ ⟨⟨[], X0, Fr.nil n0⟩, e0, Bd.exec, hZ, hown, Bd.bytes, hml, hnm, Bd.returns, Bd.notSynchronized⟩
  exact ⟨s2, o, (XT.entry hef).trans h1, h2, h3, h4⟩
theorem Go.of {T T' : State} {pc' : Nat} {Ls' : Array Slot} {st' : List Value} (K : Go k n0 Q kc ks T' pc' Ls' st') (f : ∀ t, Steps (owp k).tables (owe k) (owb k) (T'.setTop (mkF (owm k) pc' Ls' st')) t → Steps (owp k).tables (owe k) (owb k) (T.setTop (mkF (owm k) pc Ls st)) t) : Go k n0 Q kc ks T pc Ls st := by
  obtain ⟨s2, o, h1, h2⟩ := K; exact ⟨s2, o, f _ h1, h2⟩
theorem Go.end {v : Option Value} (X : Sd l Z n0 y B ml rt R k T h cc ss) (hk : cc ≤ kc) (hs : ss ≤ ks) (hv : rt = none → v = none) (f : ∀ fs, (∀ (f : JFrame) (acts : List Action), f.method = owm k → f.locked = none → f.entered = [] → (doReturn (owe k) (T.setTop f) acts v).1 = T.setFrames fs) → Steps (owp k).tables (owe k) (owb k) (T.setTop (mkF (owm k) pc Ls st)) (T.setFrames fs)) (hQ : Q v h) : Go k n0 Q kc ks T pc Ls st := by
  obtain ⟨⟨locs, X, N⟩, rfl, hx, hZ, hown, hby, hml, hnm, hrt, hlk⟩ := X
  obtain ⟨fs, hr, hrun, hended, hW, hsame⟩ := X.leave (v := v) (fun q => hv (by rw [← hrt]; exact q)) hlk
  exact ⟨_, _, f fs hr, hrun, hended, _, _, rfl, ⟨N, hQ⟩, ⟨_, rfl⟩, hW, hsame.mono hk hs⟩
theorem Sd.hh (X : Sd l Z n0 y B ml rt R k T h cc ss) : At T (owm k) (owc k) (owb k) := by obtain ⟨⟨_, X, _⟩, _⟩ := X; exact X.here
theorem Sd.x (X : Sd l Z n0 y B ml rt R k T h cc ss) : (owp k).tables.exec = Jvm.exec := X.2.2.1
theorem Sd.d (X : Sd l Z n0 y B ml rt R k T h cc ss) {pc : Nat} {r : Except ClassFile.DecodeError (ClassFile.Instr × Nat)} (hd : decode B pc = r) : decode (owc k).code pc = r := hb X.2.2.2.2.2.1 hd
theorem Sd.heap (X : Sd l Z n0 y B ml rt R k T h cc ss) : T.heap = h := X.2.1
/-! loads, stores, constants -/
theorem g_aloadN (X : Sd l Z n0 y B ml rt R k T h cc ss) {i : Fin 4} {v : Value} (hd : decode B pc = .ok (.aload_n i, 1)) (hl : Ls[i.val]? = some (.val v)) (hv : v.isRef = true) (pc' : Nat) (hp : pc + 1 = pc') (K : Go k n0 Q kc ks T pc' Ls (v :: st)) : Go k n0 Q kc ks T pc Ls st := by subst hp; exact K.of fun _ q => XS.aloadN X.hh X.x rfl (X.d hd) hl hv q
theorem g_aload (X : Sd l Z n0 y B ml rt R k T h cc ss) {i : Nat} {v : Value} (hd : decode B pc = .ok (.aload i, 2)) (hl : Ls[i]? = some (.val v)) (hv : v.isRef = true) (pc' : Nat) (hp : pc + 2 = pc') (K : Go k n0 Q kc ks T pc' Ls (v :: st)) : Go k n0 Q kc ks T pc Ls st := by subst hp; exact K.of fun _ q => XS.aload X.hh X.x rfl (X.d hd) hl hv q
theorem g_iloadN (X : Sd l Z n0 y B ml rt R k T h cc ss) {i : Fin 4} {v : Int32} (hd : decode B pc = .ok (.iload_n i, 1)) (hl : Ls[i.val]? = some (.val (.int v))) (pc' : Nat) (hp : pc + 1 = pc') (K : Go k n0 Q kc ks T pc' Ls (.int v :: st)) : Go k n0 Q kc ks T pc Ls st := by subst hp; exact K.of fun _ q => XS.iloadN X.hh X.x rfl (X.d hd) hl q
theorem g_iload (X : Sd l Z n0 y B ml rt R k T h cc ss) {i : Nat} {v : Int32} (hd : decode B pc = .ok (.iload i, 2)) (hl : Ls[i]? = some (.val (.int v))) (pc' : Nat) (hp : pc + 2 = pc') (K : Go k n0 Q kc ks T pc' Ls (.int v :: st)) : Go k n0 Q kc ks T pc Ls st := by subst hp; exact K.of fun _ q => XS.iload X.hh X.x rfl (X.d hd) hl q
theorem g_lloadN (X : Sd l Z n0 y B ml rt R k T h cc ss) {i : Fin 4} {v : Int64} (hd : decode B pc = .ok (.lload_n i, 1)) (hl : Ls[i.val]? = some (.val (.long v))) (pc' : Nat) (hp : pc + 1 = pc') (K : Go k n0 Q kc ks T pc' Ls (.long v :: st)) : Go k n0 Q kc ks T pc Ls st := by subst hp; exact K.of fun _ q => XT.lloadN X.hh X.x rfl (X.d hd) hl q
theorem g_lload (X : Sd l Z n0 y B ml rt R k T h cc ss) {i : Nat} {v : Int64} (hd : decode B pc = .ok (.lload i, 2)) (hl : Ls[i]? = some (.val (.long v))) (pc' : Nat) (hp : pc + 2 = pc') (K : Go k n0 Q kc ks T pc' Ls (.long v :: st)) : Go k n0 Q kc ks T pc Ls st := by subst hp; exact K.of fun _ q => XT.lload X.hh X.x rfl (X.d hd) hl q
theorem g_istoreN (X : Sd l Z n0 y B ml rt R k T h cc ss) {i : Fin 4} {v : Int32} (hd : decode B pc = .ok (.istore_n i, 1)) (L' : Array Slot) (hl : storeLocals Ls i.val (.int v) = some L') (pc' : Nat) (hp : pc + 1 = pc') (K : Go k n0 Q kc ks T pc' L' st) : Go k n0 Q kc ks T pc Ls (.int v :: st) := by subst hp; exact K.of fun _ q => XS.istoreN X.hh X.x rfl (X.d hd) rfl hl q
theorem g_istore (X : Sd l Z n0 y B ml rt R k T h cc ss) {i : Nat} {v : Int32} (hd : decode B pc = .ok (.istore i, 2)) (L' : Array Slot) (hl : storeLocals Ls i (.int v) = some L') (pc' : Nat) (hp : pc + 2 = pc') (K : Go k n0 Q kc ks T pc' L' st) : Go k n0 Q kc ks T pc Ls (.int v :: st) := by subst hp; exact K.of fun _ q => XS.istore X.hh X.x rfl (X.d hd) rfl hl q
theorem g_lstoreN (X : Sd l Z n0 y B ml rt R k T h cc ss) {i : Fin 4} {v : Int64} (hd : decode B pc = .ok (.lstore_n i, 1)) (L' : Array Slot) (hl : storeLocals Ls i.val (.long v) = some L') (pc' : Nat) (hp : pc + 1 = pc') (K : Go k n0 Q kc ks T pc' L' st) : Go k n0 Q kc ks T pc Ls (.long v :: st) := by subst hp; exact K.of fun _ q => XT.lstoreN X.hh X.x rfl (X.d hd) rfl hl q
theorem g_lstore (X : Sd l Z n0 y B ml rt R k T h cc ss) {i : Nat} {v : Int64} (hd : decode B pc = .ok (.lstore i, 2)) (L' : Array Slot) (hl : storeLocals Ls i (.long v) = some L') (pc' : Nat) (hp : pc + 2 = pc') (K : Go k n0 Q kc ks T pc' L' st) : Go k n0 Q kc ks T pc Ls (.long v :: st) := by subst hp; exact K.of fun _ q => XT.lstore X.hh X.x rfl (X.d hd) rfl hl q
theorem g_astoreN (X : Sd l Z n0 y B ml rt R k T h cc ss) {i : Fin 4} {v : Value} (hd : decode B pc = .ok (.astore_n i, 1)) (hv : v.isRef = true) (L' : Array Slot) (hl : storeLocals Ls i.val v = some L') (pc' : Nat) (hp : pc + 1 = pc') (K : Go k n0 Q kc ks T pc' L' st) : Go k n0 Q kc ks T pc Ls (v :: st) := by subst hp; exact K.of fun _ q => XS.astoreN X.hh X.x rfl (X.d hd) rfl hv hl q
theorem g_astore (X : Sd l Z n0 y B ml rt R k T h cc ss) {i : Nat} {v : Value} (hd : decode B pc = .ok (.astore i, 2)) (hv : v.isRef = true) (L' : Array Slot) (hl : storeLocals Ls i v = some L') (pc' : Nat) (hp : pc + 2 = pc') (K : Go k n0 Q kc ks T pc' L' st) : Go k n0 Q kc ks T pc Ls (v :: st) := by subst hp; exact K.of fun _ q => XS.astore X.hh X.x rfl (X.d hd) rfl hv hl q
theorem g_iconst (X : Sd l Z n0 y B ml rt R k T h cc ss) {i : Int} (v : Int32) (hd : decode B pc = .ok (.iconst i, 1)) (hv : Int32.ofInt i = v) (pc' : Nat) (hp : pc + 1 = pc') (K : Go k n0 Q kc ks T pc' Ls (.int v :: st)) : Go k n0 Q kc ks T pc Ls st := by subst hp; exact K.of fun _ q => XT.iconstV X.hh X.x rfl v (X.d hd) hv q
theorem g_bipush (X : Sd l Z n0 y B ml rt R k T h cc ss) {i : Int} (v : Int32) (hd : decode B pc = .ok (.bipush i, 2)) (hv : (Int8.ofInt i).toInt32 = v) (pc' : Nat) (hp : pc + 2 = pc') (K : Go k n0 Q kc ks T pc' Ls (.int v :: st)) : Go k n0 Q kc ks T pc Ls st := by subst hp; exact K.of fun _ q => XT.bipushV X.hh X.x rfl v (X.d hd) hv q
theorem g_sipush (X : Sd l Z n0 y B ml rt R k T h cc ss) {i : Int} (v : Int32) (hd : decode B pc = .ok (.sipush i, 3)) (hv : (Int16.ofInt i).toInt32 = v) (pc' : Nat) (hp : pc + 3 = pc') (K : Go k n0 Q kc ks T pc' Ls (.int v :: st)) : Go k n0 Q kc ks T pc Ls st := by subst hp; exact K.of fun _ q => XT.sipushV X.hh X.x rfl v (X.d hd) hv q
theorem g_lconst (X : Sd l Z n0 y B ml rt R k T h cc ss) {i : Fin 2} (v : Int64) (hd : decode B pc = .ok (.lconst i, 1)) (hv : Int64.ofNat i = v) (pc' : Nat) (hp : pc + 1 = pc') (K : Go k n0 Q kc ks T pc' Ls (.long v :: st)) : Go k n0 Q kc ks T pc Ls st := by subst hp; exact K.of fun _ q => XT.lconstV X.hh X.x rfl v (X.d hd) hv q
theorem g_null (X : Sd l Z n0 y B ml rt R k T h cc ss) (hd : decode B pc = .ok (.aconst_null, 1)) (pc' : Nat) (hp : pc + 1 = pc') (K : Go k n0 Q kc ks T pc' Ls (.null :: st)) : Go k n0 Q kc ks T pc Ls st := by subst hp; exact K.of fun _ q => XS.aconstNull X.hh X.x rfl (X.d hd) q
theorem g_iinc (X : Sd l Z n0 y B ml rt R k T h cc ss) {i : Nat} {cst : Int} {x : Int32} (v : Int32) (hd : decode B pc = .ok (.iinc i cst, 3)) (hv : Int32.ofInt cst = v) (hl : Ls[i]? = some (.val (.int x))) (L' : Array Slot) (hl' : storeLocals Ls i (.int (x + v)) = some L') (pc' : Nat) (hp : pc + 3 = pc') (K : Go k n0 Q kc ks T pc' L' st) : Go k n0 Q kc ks T pc Ls st := by subst hp; exact K.of fun _ q => XT.iincV X.hh X.x rfl v (X.d hd) hv hl hl' q
/-! arithmetic -/
theorem g_iadd (X : Sd l Z n0 y B ml rt R k T h cc ss) {a b : Int32} (hd : decode B pc = .ok (.iadd, 1)) (pc' : Nat) (hp : pc + 1 = pc') (K : Go k n0 Q kc ks T pc' Ls (.int (a + b) :: st)) : Go k n0 Q kc ks T pc Ls (.int b :: .int a :: st) := by subst hp; exact K.of fun _ q => XS.iadd X.hh X.x rfl (X.d hd) rfl q
theorem g_isub (X : Sd l Z n0 y B ml rt R k T h cc ss) {a b : Int32} (hd : decode B pc = .ok (.isub, 1)) (pc' : Nat) (hp : pc + 1 = pc') (K : Go k n0 Q kc ks T pc' Ls (.int (a - b) :: st)) : Go k n0 Q kc ks T pc Ls (.int b :: .int a :: st) := by subst hp; exact K.of fun _ q => XS.isub X.hh X.x rfl (X.d hd) rfl q
theorem g_imul (X : Sd l Z n0 y B ml rt R k T h cc ss) {a b : Int32} (hd : decode B pc = .ok (.imul, 1)) (pc' : Nat) (hp : pc + 1 = pc') (K : Go k n0 Q kc ks T pc' Ls (.int (a * b) :: st)) : Go k n0 Q kc ks T pc Ls (.int b :: .int a :: st) := by subst hp; exact K.of fun _ q => XS.imul X.hh X.x rfl (X.d hd) rfl q
theorem g_idiv (X : Sd l Z n0 y B ml rt R k T h cc ss) {a b : Int32} (hd : decode B pc = .ok (.idiv, 1)) (hb : b ≠ 0) (pc' : Nat) (hp : pc + 1 = pc') (K : Go k n0 Q kc ks T pc' Ls (.int (a / b) :: st)) : Go k n0 Q kc ks T pc Ls (.int b :: .int a :: st) := by subst hp; exact K.of fun _ q => XS.idiv X.hh X.x rfl (X.d hd) rfl hb q
theorem g_irem (X : Sd l Z n0 y B ml rt R k T h cc ss) {a b : Int32} (hd : decode B pc = .ok (.irem, 1)) (hb : b ≠ 0) (pc' : Nat) (hp : pc + 1 = pc') (K : Go k n0 Q kc ks T pc' Ls (.int (a % b) :: st)) : Go k n0 Q kc ks T pc Ls (.int b :: .int a :: st) := by
  subst hp; obtain ⟨⟨locs, Y, N⟩, eh, hc⟩ := X
  exact K.of fun _ q => iremM Y hc.1 (g := mkF (owm k) pc Ls (.int b :: .int a :: st)) rfl (Jvm.hb hc.2.2.2.1 hd) rfl hb q
theorem g_iand (X : Sd l Z n0 y B ml rt R k T h cc ss) {a b : Int32} (hd : decode B pc = .ok (.iand, 1)) (pc' : Nat) (hp : pc + 1 = pc') (K : Go k n0 Q kc ks T pc' Ls (.int (a &&& b) :: st)) : Go k n0 Q kc ks T pc Ls (.int b :: .int a :: st) := by subst hp; exact K.of fun _ q => XS.iand X.hh X.x rfl (X.d hd) rfl q
theorem g_ior (X : Sd l Z n0 y B ml rt R k T h cc ss) {a b : Int32} (hd : decode B pc = .ok (.ior, 1)) (pc' : Nat) (hp : pc + 1 = pc') (K : Go k n0 Q kc ks T pc' Ls (.int (a ||| b) :: st)) : Go k n0 Q kc ks T pc Ls (.int b :: .int a :: st) := by subst hp; exact K.of fun _ q => XS.ior X.hh X.x rfl (X.d hd) rfl q
theorem g_ixor (X : Sd l Z n0 y B ml rt R k T h cc ss) {a b : Int32} (hd : decode B pc = .ok (.ixor, 1)) (pc' : Nat) (hp : pc + 1 = pc') (K : Go k n0 Q kc ks T pc' Ls (.int (a ^^^ b) :: st)) : Go k n0 Q kc ks T pc Ls (.int b :: .int a :: st) := by subst hp; exact K.of fun _ q => XS.ixor X.hh X.x rfl (X.d hd) rfl q
theorem g_ishl (X : Sd l Z n0 y B ml rt R k T h cc ss) {a b : Int32} (hd : decode B pc = .ok (.ishl, 1)) (pc' : Nat) (hp : pc + 1 = pc') (K : Go k n0 Q kc ks T pc' Ls (.int (a <<< (b &&& 31)) :: st)) : Go k n0 Q kc ks T pc Ls (.int b :: .int a :: st) := by subst hp; exact K.of fun _ q => XS.ishl X.hh X.x rfl (X.d hd) rfl q
theorem g_ishr (X : Sd l Z n0 y B ml rt R k T h cc ss) {a b : Int32} (hd : decode B pc = .ok (.ishr, 1)) (pc' : Nat) (hp : pc + 1 = pc') (K : Go k n0 Q kc ks T pc' Ls (.int (a >>> (b &&& 31)) :: st)) : Go k n0 Q kc ks T pc Ls (.int b :: .int a :: st) := by subst hp; exact K.of fun _ q => XS.ishr X.hh X.x rfl (X.d hd) rfl q
theorem g_iushr (X : Sd l Z n0 y B ml rt R k T h cc ss) {a b : Int32} (hd : decode B pc = .ok (.iushr, 1)) (pc' : Nat) (hp : pc + 1 = pc') (K : Go k n0 Q kc ks T pc' Ls (.int ((a.toUInt32 >>> (b &&& 31).toUInt32).toInt32) :: st)) : Go k n0 Q kc ks T pc Ls (.int b :: .int a :: st) := by subst hp; exact K.of fun _ q => XS.iushr X.hh X.x rfl (X.d hd) rfl q
theorem g_ineg (X : Sd l Z n0 y B ml rt R k T h cc ss) {a : Int32} (hd : decode B pc = .ok (.ineg, 1)) (pc' : Nat) (hp : pc + 1 = pc') (K : Go k n0 Q kc ks T pc' Ls (.int (-a) :: st)) : Go k n0 Q kc ks T pc Ls (.int a :: st) := by subst hp; exact K.of fun _ q => XS.ineg X.hh X.x rfl (X.d hd) rfl q
theorem g_ladd (X : Sd l Z n0 y B ml rt R k T h cc ss) {a b : Int64} (hd : decode B pc = .ok (.ladd, 1)) (pc' : Nat) (hp : pc + 1 = pc') (K : Go k n0 Q kc ks T pc' Ls (.long (a + b) :: st)) : Go k n0 Q kc ks T pc Ls (.long b :: .long a :: st) := by subst hp; exact K.of fun _ q => XS.ladd X.hh X.x rfl (X.d hd) rfl q
theorem g_lsub (X : Sd l Z n0 y B ml rt R k T h cc ss) {a b : Int64} (hd : decode B pc = .ok (.lsub, 1)) (pc' : Nat) (hp : pc + 1 = pc') (K : Go k n0 Q kc ks T pc' Ls (.long (a - b) :: st)) : Go k n0 Q kc ks T pc Ls (.long b :: .long a :: st) := by subst hp; exact K.of fun _ q => XS.lsub X.hh X.x rfl (X.d hd) rfl q
theorem g_land (X : Sd l Z n0 y B ml rt R k T h cc ss) {a b : Int64} (hd : decode B pc = .ok (.land, 1)) (pc' : Nat) (hp : pc + 1 = pc') (K : Go k n0 Q kc ks T pc' Ls (.long (a &&& b) :: st)) : Go k n0 Q kc ks T pc Ls (.long b :: .long a :: st) := by subst hp; exact K.of fun _ q => XS.land X.hh X.x rfl (X.d hd) rfl q
theorem g_lushr (X : Sd l Z n0 y B ml rt R k T h cc ss) {a : Int64} {b : Int32} (hd : decode B pc = .ok (.lushr, 1)) (pc' : Nat) (hp : pc + 1 = pc') (K : Go k n0 Q kc ks T pc' Ls (.long ((a.toUInt64 >>> (b &&& 0x3f).toInt64.toUInt64).toInt64) :: st)) : Go k n0 Q kc ks T pc Ls (.int b :: .long a :: st) := by subst hp; exact K.of fun _ q => XS.lushr X.hh X.x rfl (X.d hd) rfl q
theorem g_i2l (X : Sd l Z n0 y B ml rt R k T h cc ss) {a : Int32} (hd : decode B pc = .ok (.i2l, 1)) (pc' : Nat) (hp : pc + 1 = pc') (K : Go k n0 Q kc ks T pc' Ls (.long a.toInt64 :: st)) : Go k n0 Q kc ks T pc Ls (.int a :: st) := by subst hp; exact K.of fun _ q => XS.i2l X.hh X.x rfl (X.d hd) rfl q
theorem g_l2i (X : Sd l Z n0 y B ml rt R k T h cc ss) {a : Int64} (hd : decode B pc = .ok (.l2i, 1)) (pc' : Nat) (hp : pc + 1 = pc') (K : Go k n0 Q kc ks T pc' Ls (.int a.toInt32 :: st)) : Go k n0 Q kc ks T pc Ls (.long a :: st) := by subst hp; exact K.of fun _ q => XS.l2i X.hh X.x rfl (X.d hd) rfl q
theorem g_i2b (X : Sd l Z n0 y B ml rt R k T h cc ss) {a : Int32} (hd : decode B pc = .ok (.i2b, 1)) (pc' : Nat) (hp : pc + 1 = pc') (K : Go k n0 Q kc ks T pc' Ls (.int a.toInt8.toInt32 :: st)) : Go k n0 Q kc ks T pc Ls (.int a :: st) := by subst hp; exact K.of fun _ q => XS.i2b X.hh X.x rfl (X.d hd) rfl q
theorem g_i2c (X : Sd l Z n0 y B ml rt R k T h cc ss) {a : Int32} (hd : decode B pc = .ok (.i2c, 1)) (pc' : Nat) (hp : pc + 1 = pc') (K : Go k n0 Q kc ks T pc' Ls (.int a.toUInt32.toUInt16.toUInt32.toInt32 :: st)) : Go k n0 Q kc ks T pc Ls (.int a :: st) := by subst hp; exact K.of fun _ q => XS.i2c X.hh X.x rfl (X.d hd) rfl q
theorem g_lcmp (X : Sd l Z n0 y B ml rt R k T h cc ss) {a b : Int64} (hd : decode B pc = .ok (.lcmp, 1)) (pc' : Nat) (hp : pc + 1 = pc') (K : Go k n0 Q kc ks T pc' Ls (.int (XT.cmpL a b) :: st)) : Go k n0 Q kc ks T pc Ls (.long b :: .long a :: st) := by subst hp; exact K.of fun _ q => XT.lcmp X.hh X.x rfl (X.d hd) rfl q
/-! the stack -/
theorem g_dup (X : Sd l Z n0 y B ml rt R k T h cc ss) {v : Value} (hd : decode B pc = .ok (.dup, 1)) (hc : v.category = 1) (pc' : Nat) (hp : pc + 1 = pc') (K : Go k n0 Q kc ks T pc' Ls (v :: v :: st)) : Go k n0 Q kc ks T pc Ls (v :: st) := by subst hp; exact K.of fun _ q => XS.dup X.hh X.x rfl (X.d hd) rfl hc q
theorem g_pop (X : Sd l Z n0 y B ml rt R k T h cc ss) {v : Value} (hd : decode B pc = .ok (.pop, 1)) (hc : v.category = 1) (pc' : Nat) (hp : pc + 1 = pc') (K : Go k n0 Q kc ks T pc' Ls st) : Go k n0 Q kc ks T pc Ls (v :: st) := by subst hp; exact K.of fun _ q => XS.pop X.hh X.x rfl (X.d hd) rfl hc q
theorem g_dupX1 (X : Sd l Z n0 y B ml rt R k T h cc ss) {v w : Value} (hd : decode B pc = .ok (.dup_x1, 1)) (hc : v.category = 1) (hc2 : w.category = 1) (pc' : Nat) (hp : pc + 1 = pc') (K : Go k n0 Q kc ks T pc' Ls (v :: w :: v :: st)) : Go k n0 Q kc ks T pc Ls (v :: w :: st) := by subst hp; exact K.of fun _ q => XS.dupX1 X.hh X.x rfl (X.d hd) rfl hc hc2 q
theorem g_dup2 (X : Sd l Z n0 y B ml rt R k T h cc ss) {v w : Value} (hd : decode B pc = .ok (.dup2, 1)) (hc : v.category = 1) (hc2 : w.category = 1) (pc' : Nat) (hp : pc + 1 = pc') (K : Go k n0 Q kc ks T pc' Ls (v :: w :: v :: w :: st)) : Go k n0 Q kc ks T pc Ls (v :: w :: st) := by subst hp; exact K.of fun _ q => XT.dup2 X.hh X.x rfl (X.d hd) rfl hc hc2 q
/-! jumps -/
theorem g_goto (X : Sd l Z n0 y B ml rt R k T h cc ss) {o : Int} (hd : decode B pc = .ok (.goto o, 3)) (pc' : Nat) (ho : 0 ≤ (pc : Int) + o) (hp : ((pc : Int) + o).toNat = pc') (K : Go k n0 Q kc ks T pc' Ls st) : Go k n0 Q kc ks T pc Ls st := K.of fun _ q => XS.goto X.hh X.x rfl rfl (X.d hd) ho hp q
theorem g_if (X : Sd l Z n0 y B ml rt R k T h cc ss) {cd : ClassFile.Cond} {a : Int32} {o : Int} {C : Prop} (hc : ifCond.holds cd a = true ↔ C) (hd : decode B pc = .ok (.ifCond cd o, 3)) (pT : Nat) (ho : 0 ≤ (pc : Int) + o) (hT : ((pc : Int) + o).toNat = pT) (pF : Nat) (hF : pc + 3 = pF) (K1 : C → Go k n0 Q kc ks T pT Ls st) (K2 : ¬ C → Go k n0 Q kc ks T pF Ls st) : Go k n0 Q kc ks T pc Ls (.int a :: st) := by
  subst hF
  cases q : ifCond.holds cd a with
  | true => exact (K1 (hc.mp q)).of fun _ z => XS.ifYes X.hh X.x rfl rfl (X.d hd) rfl q ho hT z
  | false => exact (K2 (fun z => by rw [hc.mpr z] at q; cases q)).of fun _ z => XS.ifNo X.hh X.x rfl (X.d hd) rfl q z
theorem g_icmp (X : Sd l Z n0 y B ml rt R k T h cc ss) {cd : ClassFile.Cond} {a b : Int32} {o : Int} {C : Prop} (hc : if_icmp.holds cd a b = true ↔ C) (hd : decode B pc = .ok (.if_icmp cd o, 3)) (pT : Nat) (ho : 0 ≤ (pc : Int) + o) (hT : ((pc : Int) + o).toNat = pT) (pF : Nat) (hF : pc + 3 = pF) (K1 : C → Go k n0 Q kc ks T pT Ls st) (K2 : ¬ C → Go k n0 Q kc ks T pF Ls st) : Go k n0 Q kc ks T pc Ls (.int b :: .int a :: st) := by
  subst hF
  cases q : if_icmp.holds cd a b with
  | true => exact (K1 (hc.mp q)).of fun _ z => XS.icmpYes X.hh X.x rfl rfl (X.d hd) rfl q ho hT z
  | false => exact (K2 (fun z => by rw [hc.mpr z] at q; cases q)).of fun _ z => XS.icmpNo X.hh X.x rfl (X.d hd) rfl q z
/-- the same, told the other way round: the jump is taken where C fails -/
theorem g_ifN (X : Sd l Z n0 y B ml rt R k T h cc ss) {cd : ClassFile.Cond} {a : Int32} {o : Int} {C : Prop} (hc : ifCond.holds cd a = true ↔ ¬ C) (hd : decode B pc = .ok (.ifCond cd o, 3)) (pT : Nat) (ho : 0 ≤ (pc : Int) + o) (hT : ((pc : Int) + o).toNat = pT) (pF : Nat) (hF : pc + 3 = pF) (K1 : C → Go k n0 Q kc ks T pF Ls st) (K2 : ¬ C → Go k n0 Q kc ks T pT Ls st) : Go k n0 Q kc ks T pc Ls (.int a :: st) :=
  g_if X hc hd pT ho hT pF hF K2 fun q => K1 (Classical.not_not.mp q)
theorem g_icmpN (X : Sd l Z n0 y B ml rt R k T h cc ss) {cd : ClassFile.Cond} {a b : Int32} {o : Int} {C : Prop} (hc : if_icmp.holds cd a b = true ↔ ¬ C) (hd : decode B pc = .ok (.if_icmp cd o, 3)) (pT : Nat) (ho : 0 ≤ (pc : Int) + o) (hT : ((pc : Int) + o).toNat = pT) (pF : Nat) (hF : pc + 3 = pF) (K1 : C → Go k n0 Q kc ks T pF Ls st) (K2 : ¬ C → Go k n0 Q kc ks T pT Ls st) : Go k n0 Q kc ks T pc Ls (.int b :: .int a :: st) :=
  g_icmp X hc hd pT ho hT pF hF K2 fun q => K1 (Classical.not_not.mp q)
theorem z_eq {a : Int32} : ifCond.holds .eq a = true ↔ a = 0 := by simp [ifCond.holds]
theorem z_ne {a : Int32} : ifCond.holds .ne a = true ↔ ¬ a = 0 := by simp [ifCond.holds]
theorem z_lt {a : Int32} : ifCond.holds .lt a = true ↔ a < 0 := by simp [ifCond.holds]
theorem z_ge {a : Int32} : ifCond.holds .ge a = true ↔ ¬ a < 0 := by simp [ifCond.holds, Int32.not_lt]
theorem z_gt {a : Int32} : ifCond.holds .gt a = true ↔ 0 < a := by simp [ifCond.holds]
theorem z_le {a : Int32} : ifCond.holds .le a = true ↔ ¬ 0 < a := by simp [ifCond.holds, Int32.not_lt]
theorem i_eq {a b : Int32} : if_icmp.holds .eq a b = true ↔ a = b := by simp [if_icmp.holds]
theorem i_ne {a b : Int32} : if_icmp.holds .ne a b = true ↔ ¬ a = b := by simp [if_icmp.holds]
theorem i_lt {a b : Int32} : if_icmp.holds .lt a b = true ↔ a < b := by simp [if_icmp.holds]
theorem i_ge {a b : Int32} : if_icmp.holds .ge a b = true ↔ ¬ a < b := by simp [if_icmp.holds, Int32.not_lt]
theorem i_gt {a b : Int32} : if_icmp.holds .gt a b = true ↔ b < a := by simp [if_icmp.holds]
theorem i_le {a b : Int32} : if_icmp.holds .le a b = true ↔ ¬ b < a := by simp [if_icmp.holds, Int32.not_lt]
theorem l_of {b : Bool} {C : Prop} (h1 : C → b = true) (h2 : ¬ C → b = false) : b = true ↔ C := ⟨fun q => Classical.byContradiction fun z => Bool.noConfusion ((h2 z).symm.trans q), h1⟩
theorem l_eq {a b : Int64} : ifCond.holds .eq (XT.cmpL a b) = true ↔ a = b := l_of XT.ll_eq_t XT.ll_eq_f
theorem l_ne {a b : Int64} : ifCond.holds .ne (XT.cmpL a b) = true ↔ ¬ a = b := l_of XT.ll_ne_t (fun q => XT.ll_ne_f (Classical.not_not.mp q))
theorem l_lt {a b : Int64} : ifCond.holds .lt (XT.cmpL a b) = true ↔ a < b := l_of XT.ll_lt_t XT.ll_lt_f
theorem l_ge {a b : Int64} : ifCond.holds .ge (XT.cmpL a b) = true ↔ ¬ a < b := l_of XT.ll_ge_t (fun q => XT.ll_ge_f (Classical.not_not.mp q))
theorem l_gt {a b : Int64} : ifCond.holds .gt (XT.cmpL a b) = true ↔ b < a := l_of XT.ll_gt_t XT.ll_gt_f
theorem l_le {a b : Int64} : ifCond.holds .le (XT.cmpL a b) = true ↔ ¬ b < a := l_of XT.ll_le_t (fun q => XT.ll_le_f (Classical.not_not.mp q))
theorem g_nullY (X : Sd l Z n0 y B ml rt R k T h cc ss) {o : Int} (hd : decode B pc = .ok (.ifnull o, 3)) (pc' : Nat) (ho : 0 ≤ (pc : Int) + o) (hp : ((pc : Int) + o).toNat = pc') (K : Go k n0 Q kc ks T pc' Ls st) : Go k n0 Q kc ks T pc Ls (.null :: st) := K.of fun _ q => XS.ifnullYes X.hh X.x rfl rfl (X.d hd) rfl ho hp q
theorem g_nullN (X : Sd l Z n0 y B ml rt R k T h cc ss) {o : Int} {a : Addr} (hd : decode B pc = .ok (.ifnull o, 3)) (pc' : Nat) (hp : pc + 3 = pc') (K : Go k n0 Q kc ks T pc' Ls st) : Go k n0 Q kc ks T pc Ls (.ref a :: st) := by subst hp; exact K.of fun _ q => XS.ifnullNo X.hh X.x rfl (X.d hd) rfl q
theorem g_nonnullY (X : Sd l Z n0 y B ml rt R k T h cc ss) {o : Int} {a : Addr} (hd : decode B pc = .ok (.ifnonnull o, 3)) (pc' : Nat) (ho : 0 ≤ (pc : Int) + o) (hp : ((pc : Int) + o).toNat = pc') (K : Go k n0 Q kc ks T pc' Ls st) : Go k n0 Q kc ks T pc Ls (.ref a :: st) := K.of fun _ q => XS.ifnonnullYes X.hh X.x rfl rfl (X.d hd) rfl ho hp q
theorem g_nonnullN (X : Sd l Z n0 y B ml rt R k T h cc ss) {o : Int} (hd : decode B pc = .ok (.ifnonnull o, 3)) (pc' : Nat) (hp : pc + 3 = pc') (K : Go k n0 Q kc ks T pc' Ls st) : Go k n0 Q kc ks T pc Ls (.null :: st) := by subst hp; exact K.of fun _ q => XS.ifnonnullNo X.hh X.x rfl (X.d hd) rfl q
theorem g_acmpY (X : Sd l Z n0 y B ml rt R k T h cc ss) {cd : ClassFile.ACond} {v w : Value} {o : Int} (hd : decode B pc = .ok (.if_acmp cd o, 3)) (hv : v.isRef = true) (hw : w.isRef = true) (hc : XT.acmp cd v w = true) (pc' : Nat) (ho : 0 ≤ (pc : Int) + o) (hp : ((pc : Int) + o).toNat = pc') (K : Go k n0 Q kc ks T pc' Ls st) : Go k n0 Q kc ks T pc Ls (w :: v :: st) := K.of fun _ q => XT.acmpYes X.hh X.x rfl rfl (X.d hd) rfl hv hw hc ho hp q
theorem g_acmpN (X : Sd l Z n0 y B ml rt R k T h cc ss) {cd : ClassFile.ACond} {v w : Value} {o : Int} (hd : decode B pc = .ok (.if_acmp cd o, 3)) (hv : v.isRef = true) (hw : w.isRef = true) (hc : XT.acmp cd v w = false) (pc' : Nat) (hp : pc + 3 = pc') (K : Go k n0 Q kc ks T pc' Ls st) : Go k n0 Q kc ks T pc Ls (w :: v :: st) := by subst hp; exact K.of fun _ q => XT.acmpNo X.hh X.x rfl (X.d hd) rfl hv hw hc q
theorem a_eq {a b : Addr} : XT.acmp .eq (.ref a) (.ref b) = true ↔ a = b := by simp [XT.acmp]
theorem a_ne {a b : Addr} : XT.acmp .ne (.ref a) (.ref b) = true ↔ ¬ a = b := by simp [XT.acmp]
theorem g_acmp (X : Sd l Z n0 y B ml rt R k T h cc ss) {cd : ClassFile.ACond} {a b : Addr} {o : Int} {C : Prop} (hc : XT.acmp cd (.ref a) (.ref b) = true ↔ C) (hd : decode B pc = .ok (.if_acmp cd o, 3)) (pT : Nat) (ho : 0 ≤ (pc : Int) + o) (hT : ((pc : Int) + o).toNat = pT) (pF : Nat) (hF : pc + 3 = pF) (K1 : C → Go k n0 Q kc ks T pT Ls st) (K2 : ¬ C → Go k n0 Q kc ks T pF Ls st) : Go k n0 Q kc ks T pc Ls (.ref b :: .ref a :: st) := by
  cases q : XT.acmp cd (.ref a) (.ref b) with
  | true => exact g_acmpY X hd rfl rfl q pT ho hT (K1 (hc.mp q))
  | false => exact g_acmpN X hd rfl rfl q pF hF (K2 (fun z => by rw [hc.mpr z] at q; cases q))
theorem g_acmpNN (X : Sd l Z n0 y B ml rt R k T h cc ss) {cd : ClassFile.ACond} {a b : Addr} {o : Int} {C : Prop} (hc : XT.acmp cd (.ref a) (.ref b) = true ↔ ¬ C) (hd : decode B pc = .ok (.if_acmp cd o, 3)) (pT : Nat) (ho : 0 ≤ (pc : Int) + o) (hT : ((pc : Int) + o).toNat = pT) (pF : Nat) (hF : pc + 3 = pF) (K1 : C → Go k n0 Q kc ks T pF Ls st) (K2 : ¬ C → Go k n0 Q kc ks T pT Ls st) : Go k n0 Q kc ks T pc Ls (.ref b :: .ref a :: st) :=
  g_acmp X hc hd pT ho hT pF hF K2 fun q => K1 (Classical.not_not.mp q)
/-! constants of the pool -/
theorem g_ldcI (X : Sd l Z n0 y B ml rt R k T h cc ss) {i : Nat} {v : Int32} (w : (Jvm.Cond.constant y.cls i v).before a0 Z = true) (hd : decode B pc = .ok (.ldc i, 2)) (pc' : Nat) (hp : pc + 2 = pc') (K : Go k n0 Q kc ks T pc' Ls (.int v :: st)) : Go k n0 Q kc ks T pc Ls st := by
  subst hp; obtain ⟨⟨locs, Y, N⟩, eh, hx, hZ, hown, hby, -⟩ := X
  exact K.of fun _ q => Y.ldcI hx hown (mv hZ w) rfl (Jvm.hb hby hd) q
theorem g_ldc2J (X : Sd l Z n0 y B ml rt R k T h cc ss) {i : Nat} {v : Int64} (w : (Jvm.Cond.constantLong y.cls i v).before a0 Z = true) (hd : decode B pc = .ok (.ldc2_w i, 3)) (pc' : Nat) (hp : pc + 3 = pc') (K : Go k n0 Q kc ks T pc' Ls (.long v :: st)) : Go k n0 Q kc ks T pc Ls st := by
  subst hp; obtain ⟨⟨locs, Y, N⟩, eh, hx, hZ, hown, hby, -⟩ := X
  exact K.of fun _ q => Y.ldc2J hx hown (mv hZ w) rfl (Jvm.hb hby hd) q
/-! returns -/
theorem g_retI (X : Sd l Z n0 y B ml (some .int) R k T h cc ss) {z : Int32} (hd : decode B pc = .ok (.ireturn, 1)) (hk : cc ≤ kc) (hs : ss ≤ ks) (hQ : Q (some (.int z)) h) : Go k n0 Q kc ks T pc Ls [.int z] :=
  Go.end X hk hs (fun q => nomatch q) (fun fs hr => by obtain ⟨⟨locs, Y, N⟩, eh, hx, hZ, hown, hby, hml, hnm, hrt, hlk⟩ := X; exact Y.ireturnOut hx hrt rfl (Or.inl rfl) (Jvm.hb hby hd) hr) hQ
theorem g_retN (X : Sd l Z n0 y B ml rt R k T h cc ss) {z : Int32} {t : FieldType} (hrt : rt = some t) (ht : t = .boolean ∨ t = .byte ∨ t = .char ∨ t = .short) (hd : decode B pc = .ok (.ireturn, 1)) (hk : cc ≤ kc) (hs : ss ≤ ks) (hQ : Q (some (.int (nar t z))) h) : Go k n0 Q kc ks T pc Ls [.int z] :=
  Go.end X hk hs (fun q => by rw [hrt] at q; cases q) (fun fs hr => by obtain ⟨⟨locs, Y, N⟩, eh, hx, hZ, hown, hby, hml, hnm, hrt', hlk⟩ := X; exact retN Y hx (hrt'.trans hrt) ht (Jvm.hb hby hd) hr) hQ
theorem g_retZ (X : Sd l Z n0 y B ml (some .boolean) R k T h cc ss) {z : Int32} (hd : decode B pc = .ok (.ireturn, 1)) (hk : cc ≤ kc) (hs : ss ≤ ks) (hQ : Q (some (.int (z &&& 1))) h) : Go k n0 Q kc ks T pc Ls [.int z] := g_retN X rfl (Or.inl rfl) hd hk hs hQ
theorem g_retL (X : Sd l Z n0 y B ml (some .long) R k T h cc ss) {z : Int64} (hd : decode B pc = .ok (.lreturn, 1)) (hk : cc ≤ kc) (hs : ss ≤ ks) (hQ : Q (some (.long z)) h) : Go k n0 Q kc ks T pc Ls [.long z] :=
  Go.end X hk hs (fun q => nomatch q) (fun fs hr => by obtain ⟨⟨locs, Y, N⟩, eh, hx, hZ, hown, hby, hml, hnm, hrt, hlk⟩ := X; exact Y.lreturnOut hx hrt (Jvm.hb hby hd) hr) hQ
theorem g_retA (X : Sd l Z n0 y B ml rt R k T h cc ss) {v : Value} {t : FieldType} (hrt : rt = some t) (ht : t.isReference = true) (hv : v.isRef = true) (hd : decode B pc = .ok (.areturn, 1)) (hk : cc ≤ kc) (hs : ss ≤ ks) (hQ : Q (some v) h) : Go k n0 Q kc ks T pc Ls [v] :=
  Go.end X hk hs (fun q => by rw [hrt] at q; cases q) (fun fs hr => by obtain ⟨⟨locs, Y, N⟩, eh, hx, hZ, hown, hby, hml, hnm, hrt', hlk⟩ := X; exact Y.areturnOut hx hv (hrt'.trans hrt) ht (Jvm.hb hby hd) hr) hQ
theorem g_ret (X : Sd l Z n0 y B ml none R k T h cc ss) (hd : decode B pc = .ok (.return_, 1)) (hk : cc ≤ kc) (hs : ss ≤ ks) (hQ : Q none h) : Go k n0 Q kc ks T pc Ls [] :=
  Go.end X hk hs (fun _ => rfl) (fun fs hr => by obtain ⟨⟨locs, Y, N⟩, eh, hx, hZ, hown, hby, hml, hnm, hrt, hlk⟩ := X; exact Y.returnOut hx hrt (Jvm.hb hby hd) hr) hQ
/-! objects -/
theorem g_new (X : Sd l Z n0 y B ml rt R k T h cc ss) {i n : Nat} {C : String} (w : (Jvm.Cond.classLink y.cls i C).before a0 Z = true) (wi : (Jvm.Cond.instantiable C n).before a0 Z = true) (wz : (Jvm.Cond.initialized C).before a0 Z = true) (hd : decode B pc = .ok (.new i, 3)) (hc : cc + 1 ≤ R.cells) (hl : ss + n ≤ R.slots) (pc' : Nat) (hp : pc + 3 = pc')
    (K : ∀ T' h' a, Sd l Z n0 y B ml rt R k T' h' (cc + 1) (ss + n) → a = h.size → Ext h h' → Exa Z h' a C → (∀ {O nm d : String} {ty : FieldType}, Laid Z a0 C O nm d → parseFieldDescriptor d = some ty → Fld Z h' a O nm d (defaultValue ty)) → Go k n0 Q kc ks T' pc' Ls (.ref a :: st)) : Go k n0 Q kc ks T pc Ls st := by
  subst hp; obtain ⟨⟨locs, Y, N⟩, eh, hx, hZ, hown, hby, hr⟩ := X
  obtain ⟨T2, h2, X2, e2, E2, A2, D2, -, st2⟩ := newO Y hx hZ hown w wi wz eh (g := mkF (owm k) pc Ls st) rfl (Jvm.hb hby hd) hc hl
  exact (K T2 h2 h.size ⟨⟨locs, X2, N⟩, e2, hx, hZ, hown, hby, hr⟩ rfl E2 A2 D2).of st2
theorem g_getF (X : Sd l Z n0 y B ml rt R k T h cc ss) {i : Nat} {R0 O n d : String} (w : (Jvm.Cond.fieldLink y.cls i R0 n d).before a0 Z = true) (via : Via Z R0 O n d) {a : Addr} {v : Value} (F : Fld Z h a O n d v) (hd : decode B pc = .ok (.getfield i, 3)) (pc' : Nat) (hp : pc + 3 = pc')
    (K : ∀ T', Sd l Z n0 y B ml rt R k T' h cc ss → Go k n0 Q kc ks T' pc' Ls (v :: st)) : Go k n0 Q kc ks T pc Ls (.ref a :: st) := by
  subst hp; obtain ⟨⟨locs, Y, N⟩, eh, hx, hZ, hown, hby, hr⟩ := X
  obtain ⟨T2, X2, e2, st2⟩ := getF Y hx hZ hown (host := "") (Or.inl w) via eh F (g := mkF (owm k) pc Ls (.ref a :: st)) rfl rfl (Jvm.hb hby hd)
  exact (K T2 ⟨⟨locs, X2, N⟩, e2, hx, hZ, hown, hby, hr⟩).of st2
theorem g_getFH (X : Sd l Z n0 y B ml rt R k T h cc ss) {i : Nat} {R0 O n d host : String} (w : (Jvm.Cond.fieldLinkNest y.cls i R0 n d host).before a0 Z = true) (via : Via Z R0 O n d) {a : Addr} {v : Value} (F : Fld Z h a O n d v) (hd : decode B pc = .ok (.getfield i, 3)) (pc' : Nat) (hp : pc + 3 = pc')
    (K : ∀ T', Sd l Z n0 y B ml rt R k T' h cc ss → Go k n0 Q kc ks T' pc' Ls (v :: st)) : Go k n0 Q kc ks T pc Ls (.ref a :: st) := by
  subst hp; obtain ⟨⟨locs, Y, N⟩, eh, hx, hZ, hown, hby, hr⟩ := X
  obtain ⟨T2, X2, e2, st2⟩ := getF Y hx hZ hown (Or.inr w) via eh F (g := mkF (owm k) pc Ls (.ref a :: st)) rfl rfl (Jvm.hb hby hd)
  exact (K T2 ⟨⟨locs, X2, N⟩, e2, hx, hZ, hown, hby, hr⟩).of st2
theorem g_getS (X : Sd l Z n0 y B ml rt R k T h cc ss) {i : Nat} {R0 O n d : String} (w : (Jvm.Cond.fieldLink y.cls i R0 n d).before a0 Z = true) (via : Via Z R0 O n d) {v : Value} (F : Sta Z h O n d v) (hd : decode B pc = .ok (.getstatic i, 3)) (pc' : Nat) (hp : pc + 3 = pc')
    (K : ∀ T', Sd l Z n0 y B ml rt R k T' h cc ss → Go k n0 Q kc ks T' pc' Ls (v :: st)) : Go k n0 Q kc ks T pc Ls st := by
  subst hp; obtain ⟨⟨locs, Y, N⟩, eh, hx, hZ, hown, hby, hr⟩ := X
  obtain ⟨T2, X2, e2, st2⟩ := getS2 Y hx hZ hown (host := "") (Or.inl w) via eh F (g := mkF (owm k) pc Ls st) rfl (Jvm.hb hby hd)
  exact (K T2 ⟨⟨locs, X2, N⟩, e2, hx, hZ, hown, hby, hr⟩).of st2
/-- a final field in a constructor of its class -/
theorem g_putFin (X : Sd l Z n0 y B ml rt R k T h cc ss) {i kk : Nat} {O n d C : String} (w : (Jvm.Cond.fieldLink y.cls i O n d).before a0 Z = true) {a : Addr} {v old : Value} (F : Fld Z h a O n d old) (E : Exa Z h a C) (L : (Jvm.Cond.laysFinal C O n d).before a0 Z = true) (ho : y.cls = O) (hi : y.name = "<init>") (wi : (Jvm.Cond.instantiable C kk).before a0 Z = true)
    (g0 : n0 ≤ a) (ty : FieldType) (hty : parseFieldDescriptor d = some ty) (hn : narrow ty v = v) (hf : fits ty v = true) (hd : decode B pc = .ok (.putfield i, 3)) (pc' : Nat) (hp : pc + 3 = pc')
    (K : ∀ T' h', Sd l Z n0 y B ml rt R k T' h' cc ss → Wr h h' a (Jvm.RoadKit.slotOf Z O n d) v → Go k n0 Q kc ks T' pc' Ls st) : Go k n0 Q kc ks T pc Ls (v :: .ref a :: st) := by
  subst hp; obtain ⟨⟨locs, Y, N⟩, eh, hx, hZ, hown, hby, hml, hnm, hr⟩ := X
  obtain ⟨T2, h2, X2, e2, W2, st2⟩ := putF Y hx hZ hown (host := "") (Or.inl w) Via.refl eh F E (Or.inr ⟨L, ho, hnm.trans hi⟩) wi hty hn hf (g := mkF (owm k) pc Ls (v :: .ref a :: st)) rfl rfl (Jvm.hb hby hd)
  exact (K T2 h2 ⟨⟨_, X2, Fr.snoc X2 N g0⟩, e2, hx, hZ, hown, hby, hml, hnm, hr⟩ W2).of st2
theorem g_putF (X : Sd l Z n0 y B ml rt R k T h cc ss) {i kk : Nat} {R0 O n d C : String} (w : (Jvm.Cond.fieldLink y.cls i R0 n d).before a0 Z = true) (via : Via Z R0 O n d) {a : Addr} {v old : Value} (F : Fld Z h a O n d old) (E : Exa Z h a C) (L : (Jvm.Cond.lays C O n d).before a0 Z = true) (wi : (Jvm.Cond.instantiable C kk).before a0 Z = true)
    (g0 : n0 ≤ a) (ty : FieldType) (hty : parseFieldDescriptor d = some ty) (hn : narrow ty v = v) (hf : fits ty v = true) (hd : decode B pc = .ok (.putfield i, 3)) (pc' : Nat) (hp : pc + 3 = pc')
    (K : ∀ T' h', Sd l Z n0 y B ml rt R k T' h' cc ss → Wr h h' a (Jvm.RoadKit.slotOf Z O n d) v → Go k n0 Q kc ks T' pc' Ls st) : Go k n0 Q kc ks T pc Ls (v :: .ref a :: st) := by
  subst hp; obtain ⟨⟨locs, Y, N⟩, eh, hx, hZ, hown, hby, hr⟩ := X
  obtain ⟨T2, h2, X2, e2, W2, st2⟩ := putF Y hx hZ hown (host := "") (Or.inl w) via eh F E (Or.inl L) wi hty hn hf (g := mkF (owm k) pc Ls (v :: .ref a :: st)) rfl rfl (Jvm.hb hby hd)
  exact (K T2 h2 ⟨⟨_, X2, Fr.snoc X2 N g0⟩, e2, hx, hZ, hown, hby, hr⟩ W2).of st2
theorem g_putFinN (X : Sd l Z n0 y B ml rt R k T h cc ss) {i kk : Nat} {O n d C : String} (w : (Jvm.Cond.fieldLink y.cls i O n d).before a0 Z = true) {a : Addr} {v old : Value} (v' : Value) (F : Fld Z h a O n d old) (E : Exa Z h a C) (L : (Jvm.Cond.laysFinal C O n d).before a0 Z = true) (ho : y.cls = O) (hi : y.name = "<init>") (wi : (Jvm.Cond.instantiable C kk).before a0 Z = true)
    (g0 : n0 ≤ a) (ty : FieldType) (hty : parseFieldDescriptor d = some ty) (hn : narrow ty v = v') (hf : fits ty v' = true) (hd : decode B pc = .ok (.putfield i, 3)) (pc' : Nat) (hp : pc + 3 = pc')
    (K : ∀ T' h', Sd l Z n0 y B ml rt R k T' h' cc ss → Wr h h' a (Jvm.RoadKit.slotOf Z O n d) v' → Go k n0 Q kc ks T' pc' Ls st) : Go k n0 Q kc ks T pc Ls (v :: .ref a :: st) := by
  subst hp; obtain ⟨⟨locs, Y, N⟩, eh, hx, hZ, hown, hby, hml, hnm, hr⟩ := X
  obtain ⟨T2, h2, X2, e2, W2, st2⟩ := putFN Y hx hZ hown w Via.refl eh F E (Or.inr ⟨L, ho, hnm.trans hi⟩) wi hty hn hf (g := mkF (owm k) pc Ls (v :: .ref a :: st)) rfl rfl (Jvm.hb hby hd)
  exact (K T2 h2 ⟨⟨_, X2, Fr.snoc X2 N g0⟩, e2, hx, hZ, hown, hby, hml, hnm, hr⟩ W2).of st2
theorem g_initO (X : Sd l Z n0 y B ml rt R k T h cc ss) {i : Nat} {a : Addr} (w1 : (Jvm.Cond.methodLink y.cls i Lib.objectInit).before a0 Z = true) (w2 : (Jvm.Cond.instanceMethod Lib.objectInit).before a0 Z = true) (w3 : (Jvm.Cond.code Lib.objectInit ⟨#[0xb1]⟩ 1 none).before a0 Z = true) (hsz : Ls.size = ml) (hf : 1 ≤ R.frames) (hl : (st.map fun v => v.category).sum + 12 ≤ R.locals) (hd : decode B pc = .ok (.invokespecial i, 3)) (pc' : Nat) (hp : pc + 3 = pc')
    (K : ∀ T', Sd l Z n0 y B ml rt R k T' h cc ss → Go k n0 Q kc ks T' pc' Ls st) : Go k n0 Q kc ks T pc Ls (.ref a :: st) := by
  subst hp; obtain ⟨⟨locs, Y, N⟩, eh, hx, hZ, hown, hby, hml, hr⟩ := X
  obtain ⟨T2, X2, e2, st2⟩ := initO Y hx hZ hown w1 w2 w3 eh (g := mkF (owm k) pc Ls (.ref a :: st)) rfl (hsz.trans hml.symm) rfl (Jvm.hb hby hd) hf (W := (st.map fun v => v.category).sum) (by show 2 * 0 + _ ≤ _; omega) hl
  exact (K T2 ⟨⟨locs, X2, N⟩, e2, hx, hZ, hown, hby, hml, hr⟩).of st2
/-! calls -/
theorem g_callS (X : Sd l Z n0 y B ml rt R k T h cc ss) {i : Nat} {z : MethodName} {Bz : ByteArray} {mz : Nat} {rz : Option FieldType} {rm : Room} {Qz : Option Value → Heap → Prop} (argsL rest : List Value) {ps : List FieldType} {pr : Option FieldType} (M : Met l Z n0 z Bz mz rz [] rm argsL.toArray h Qz rm.cells rm.slots)
    (w1 : (Jvm.Cond.methodLink y.cls i z).before a0 Z = true) (w2 : (Jvm.Cond.static z).before a0 Z = true) (w3 : (Jvm.Cond.initialized z.cls).before a0 Z = true) (w4 : (Jvm.Cond.code z Bz mz rz).before a0 Z = true) (hy : z.cls ≠ "java/lang/invoke/MethodHandle" ∧ z.cls ≠ "java/lang/invoke/VarHandle") (pd : parseMethodDescriptor z.desc = some ⟨ps, pr⟩) (hlen : argsL.length = ps.length)
    (hsz : Ls.size = ml) (hf : rm.frames + 1 ≤ R.frames) (hlo : (rest.map fun v => v.category).sum + (mz + 11) + rm.locals ≤ R.locals) (hc : cc + rm.cells ≤ R.cells) (hs : ss + rm.slots ≤ R.slots) (hd : decode B pc = .ok (.invokestatic i, 3)) (hst : st = argsL.reverse ++ rest) (pc' : Nat) (hp : pc + 3 = pc')
    (K : ∀ v T' h', Sd l Z n0 y B ml rt R k T' h' (cc + rm.cells) (ss + rm.slots) → Qz v h' → Go k n0 Q kc ks T' pc' Ls (v.toList ++ rest)) : Go k n0 Q kc ks T pc Ls st := by
  subst hp; obtain ⟨⟨locs, Y, N⟩, eh, hx, hZ, hown, hby, hml, hr⟩ := X
  obtain ⟨v, _, ⟨T', L', c', n'⟩, -, X', ⟨Lc, hQ, l1, y1, z1⟩, stp⟩ := Jvm.LawKit.callS Y hx (y := z) hown (mvT hZ w1) (mvT hZ w2) (mvT hZ w3) (mvT hZ w4) hy (backOf (W := (rest.map fun v => v.category).sum) (Q := fun v h L => Fr n0 L ∧ Qz v h) M hZ w4 w3 hf hlo) (g := mkF (owm k) pc Ls st) rfl (hsz.trans hml.symm) (argsL := argsL) (rest := rest) (lenOf pd hlen) hst (by show 2 * 0 + _ ≤ _; omega) (Jvm.hb hby hd) (fun _ _ => ⟨rfl, eh, hc, hs⟩)
  dsimp only [Pt.U, Pt.locs, Pt.cells, Pt.slots] at X' l1 y1 z1 stp hQ
  subst l1 y1 z1
  exact (K v T' _ ⟨⟨_, X', N.app hQ.1⟩, rfl, hx, hZ, hown, hby, hml, hr⟩ hQ.2).of stp
theorem g_callI (X : Sd l Z n0 y B ml rt R k T h cc ss) {i : Nat} {z : MethodName} {Bz : ByteArray} {mz : Nat} {rm : Room} {Qz : Option Value → Heap → Prop} (a : Addr) (argsL rest : List Value) {ps : List FieldType} {pr : Option FieldType} (M : Met l Z n0 z Bz mz none [] rm (Value.ref a :: argsL).toArray h Qz rm.cells rm.slots) (hi : z.name = "<init>")
    (w1 : (Jvm.Cond.methodLink y.cls i z).before a0 Z = true) (w2 : (Jvm.Cond.instanceMethod z).before a0 Z = true) (w3 : (Jvm.Cond.initialized z.cls).before a0 Z = true) (w4 : (Jvm.Cond.code z Bz mz none).before a0 Z = true) (hy : z.cls ≠ "java/lang/invoke/MethodHandle" ∧ z.cls ≠ "java/lang/invoke/VarHandle") (pd : parseMethodDescriptor z.desc = some ⟨ps, pr⟩) (hlen : argsL.length = ps.length)
    (hsz : Ls.size = ml) (hf : rm.frames + 1 ≤ R.frames) (hlo : (rest.map fun v => v.category).sum + (mz + 11) + rm.locals ≤ R.locals) (hc : cc + rm.cells ≤ R.cells) (hs : ss + rm.slots ≤ R.slots) (hd : decode B pc = .ok (.invokespecial i, 3)) (hst : st = argsL.reverse ++ .ref a :: rest) (pc' : Nat) (hp : pc + 3 = pc')
    (K : ∀ v T' h', Sd l Z n0 y B ml rt R k T' h' (cc + rm.cells) (ss + rm.slots) → Qz v h' → Go k n0 Q kc ks T' pc' Ls (v.toList ++ rest)) : Go k n0 Q kc ks T pc Ls st := by
  subst hp; obtain ⟨⟨locs, Y, N⟩, eh, hx, hZ, hown, hby, hml, hr⟩ := X
  obtain ⟨v, _, ⟨T', L', c', n'⟩, -, X', ⟨Lc, hQ, l1, y1, z1⟩, stp⟩ := Y.specialBack hx (y := z) hi hown (mvT hZ w1) (mvT hZ w2) (mvT hZ w4) hy (backOf (W := (rest.map fun v => v.category).sum) (Q := fun v h L => Fr n0 L ∧ Qz v h) M hZ w4 w3 hf hlo) (g := mkF (owm k) pc Ls st) rfl (hsz.trans hml.symm) (Steps.refl _) (a := a) (argsL := argsL) (rest := rest) (lenOf pd hlen) hst (by show 2 * 0 + _ ≤ _; omega) (Jvm.hb hby hd) (fun _ _ => ⟨rfl, eh, hc, hs⟩)
  dsimp only [Pt.U, Pt.locs, Pt.cells, Pt.slots] at X' l1 y1 z1 stp hQ
  subst l1 y1 z1
  exact (K v T' _ ⟨⟨_, X', N.app hQ.1⟩, rfl, hx, hZ, hown, hby, hml, hr⟩ hQ.2).of fun _ q => stp.trans q
/-- an instance method, found where it is named -/
theorem g_callV (X : Sd l Z n0 y B ml rt R k T h cc ss) {i : Nat} {z : MethodName} {C : String} {Bz : ByteArray} {mz : Nat} {rz : Option FieldType} {rm : Room} {Qz : Option Value → Heap → Prop} (a : Addr) (argsL rest : List Value) {ps : List FieldType} {pr : Option FieldType} (M : Met l Z n0 z Bz mz rz [] rm (Value.ref a :: argsL).toArray h Qz rm.cells rm.slots) (E : Exa Z h a C)
    (w1 : (Jvm.Cond.methodLink y.cls i z).before a0 Z = true) (w2 : (Jvm.Cond.declares z).before a0 Z = true) (w5 : (Jvm.Cond.selects C z z).before a0 Z = true) (w6 : (Jvm.Cond.instanceMethod z).before a0 Z = true) (w3 : (Jvm.Cond.initialized z.cls).before a0 Z = true) (w4 : (Jvm.Cond.code z Bz mz rz).before a0 Z = true) (hy : z.cls ≠ "java/lang/invoke/MethodHandle" ∧ z.cls ≠ "java/lang/invoke/VarHandle") (pd : parseMethodDescriptor z.desc = some ⟨ps, pr⟩) (hlen : argsL.length = ps.length)
    (hsz : Ls.size = ml) (hf : rm.frames + 1 ≤ R.frames) (hlo : (rest.map fun v => v.category).sum + (mz + 11) + rm.locals ≤ R.locals) (hc : cc + rm.cells ≤ R.cells) (hs : ss + rm.slots ≤ R.slots) (hd : decode B pc = .ok (.invokevirtual i, 3)) (hst : st = argsL.reverse ++ .ref a :: rest) (pc' : Nat) (hp : pc + 3 = pc')
    (K : ∀ v T' h', Sd l Z n0 y B ml rt R k T' h' (cc + rm.cells) (ss + rm.slots) → Qz v h' → Go k n0 Q kc ks T' pc' Ls (v.toList ++ rest)) : Go k n0 Q kc ks T pc Ls st := by
  subst hp; obtain ⟨⟨locs, Y, N⟩, eh, hx, hZ, hown, hby, hml, hr⟩ := X
  obtain ⟨cq, kq, qa, qb, qc⟩ := isOf hZ eh E
  obtain ⟨v, _, ⟨T', L', c', n'⟩, -, X', ⟨Lc, hQ, l1, y1, z1⟩, stp⟩ := Y.virtualBack hx (y := z) (z := z) hown (mvT hZ w1) (mvT hZ w2) (notFace_of_selects (args := #[]) (mvT hZ w5)) (mvT hZ w5) (mvT hZ w6) hy (backOf (W := (rest.map fun v => v.category).sum) (Q := fun v h L => Fr n0 L ∧ Qz v h) M hZ w4 w3 hf hlo) qa qc (g := mkF (owm k) pc Ls st) rfl (hsz.trans hml.symm) (Steps.refl _) (argsL := argsL) (rest := rest) (lenOf pd hlen) hst (by show 2 * 0 + _ ≤ _; omega) (Jvm.hb hby hd) (fun _ _ => ⟨rfl, eh, hc, hs⟩)
  dsimp only [Pt.U, Pt.locs, Pt.cells, Pt.slots] at X' l1 y1 z1 stp hQ
  subst l1 y1 z1
  exact (K v T' _ ⟨⟨_, X', N.app hQ.1⟩, rfl, hx, hZ, hown, hby, hml, hr⟩ hQ.2).of fun _ q => stp.trans q
/-- a private instance method by invokevirtual -/
theorem g_callP (X : Sd l Z n0 y B ml rt R k T h cc ss) {i : Nat} {z : MethodName} {C : String} {Bz : ByteArray} {mz : Nat} {rz : Option FieldType} {rm : Room} {Qz : Option Value → Heap → Prop} (a : Addr) (argsL rest : List Value) {ps : List FieldType} {pr : Option FieldType} (M : Met l Z n0 z Bz mz rz [] rm (Value.ref a :: argsL).toArray h Qz rm.cells rm.slots) (E : Exa Z h a C)
    (w1 : (Jvm.Cond.methodLink y.cls i z).before a0 Z = true) (w2 : (Jvm.Cond.privateMethod z).before a0 Z = true) {kk : Nat} (w5 : (Jvm.Cond.instantiable z.cls kk).before a0 Z = true) (w6 : (Jvm.Cond.instanceMethod z).before a0 Z = true) (w3 : (Jvm.Cond.initialized z.cls).before a0 Z = true) (w4 : (Jvm.Cond.code z Bz mz rz).before a0 Z = true) (hy : z.cls ≠ "java/lang/invoke/MethodHandle" ∧ z.cls ≠ "java/lang/invoke/VarHandle") (pd : parseMethodDescriptor z.desc = some ⟨ps, pr⟩) (hlen : argsL.length = ps.length)
    (hsz : Ls.size = ml) (hf : rm.frames + 1 ≤ R.frames) (hlo : (rest.map fun v => v.category).sum + (mz + 11) + rm.locals ≤ R.locals) (hc : cc + rm.cells ≤ R.cells) (hs : ss + rm.slots ≤ R.slots) (hd : decode B pc = .ok (.invokevirtual i, 3)) (hst : st = argsL.reverse ++ .ref a :: rest) (pc' : Nat) (hp : pc + 3 = pc')
    (K : ∀ v T' h', Sd l Z n0 y B ml rt R k T' h' (cc + rm.cells) (ss + rm.slots) → Qz v h' → Go k n0 Q kc ks T' pc' Ls (v.toList ++ rest)) : Go k n0 Q kc ks T pc Ls st := by
  subst hp; obtain ⟨⟨locs, Y, N⟩, eh, hx, hZ, hown, hby, hml, hr⟩ := X
  obtain ⟨cl, qa, qb⟩ := E.cell
  obtain ⟨cz, kz, cz1, cz2, -, cz4, -⟩ := Cond.instantiable_spec (mvT (s := ows k) (args := owa k) hZ w5)
  have hni : kz.isInterface = false := by revert cz4; cases kz.isInterface <;> simp
  have hpv := Cond.privateMethod_at (mvP (s := ows k) (args := #[]) hZ w2)
  have hsl := Jvm.Stand.selects_self_of_private (args := owa k) cz1 cz2 hni hpv (mvT hZ w6) hy
  obtain ⟨v, _, ⟨T', L', c', n'⟩, -, X', ⟨Lc, hQ, l1, y1, z1⟩, stp⟩ := Y.privateBack hx (y := z) hown (mvT hZ w1) (mvT hZ w6) hsl hpv (mvT hZ w4) hy (backOf (W := (rest.map fun v => v.category).sum) (Q := fun v h L => Fr n0 L ∧ Qz v h) M hZ w4 w3 hf hlo) (g := mkF (owm k) pc Ls st) rfl (hsz.trans hml.symm) (Steps.refl _) (by rw [eh]; exact qa) qb (argsL := argsL) (rest := rest) (lenOf pd hlen) hst (by show 2 * 0 + _ ≤ _; omega) (Jvm.hb hby hd) (fun _ _ => ⟨rfl, eh, hc, hs⟩)
  dsimp only [Pt.U, Pt.locs, Pt.cells, Pt.slots] at X' l1 y1 z1 stp hQ
  subst l1 y1 z1
  exact (K v T' _ ⟨⟨_, X', N.app hQ.1⟩, rfl, hx, hZ, hown, hby, hml, hr⟩ hQ.2).of fun _ q => stp.trans q
/-! arrays: n places, f says what each holds -/
def AI (Z : State) (h : Heap) (a : Addr) (ty : FieldType) (n : Nat) (f : Nat → Value) : Prop := ∃ c : Cell, Arr Z h a c ty ∧ c.slots.size = n ∧ n < 2147483648 ∧ ∀ i, i < n → c.slots[i]? = some (f i)
theorem AI.lt {a : Addr} {ty : FieldType} {n : Nat} {f : Nat → Value} (A : AI Z h a ty n f) : a < h.size := by obtain ⟨c, A, -⟩ := A; exact A.lt
theorem AI.ext {h' : Heap} {a : Addr} {ty : FieldType} {n : Nat} {f : Nat → Value} (A : AI Z h a ty n f) (E : Ext h h') : AI Z h' a ty n f := by obtain ⟨c, A, r⟩ := A; exact ⟨c, A.ext E, r⟩
theorem AI.other {h' : Heap} {a b : Addr} {sl : Nat} {v : Value} {ty : FieldType} {n : Nat} {f : Nat → Value} (A : AI Z h a ty n f) (W : Wr h h' b sl v) (q : a ≠ b) : AI Z h' a ty n f := by obtain ⟨c, A, r⟩ := A; exact ⟨c, A.other W q, r⟩
theorem AI.keep {h' : Heap} {ws : List Addr} {a : Addr} {ty : FieldType} {n : Nat} {f : Nat → Value} (A : AI Z h a ty n f) (K : Keep h h' ws) (q : a ∉ ws) : AI Z h' a ty n f := by obtain ⟨c, A, r⟩ := A; exact ⟨c, ⟨K.2.1 a c A.1 q, A.2⟩, r⟩
theorem AI.to {a : Addr} {ty : FieldType} {n : Nat} {f g : Nat → Value} (A : AI Z h a ty n f) (e : ∀ i, i < n → f i = g i) : AI Z h a ty n g := by obtain ⟨c, A, r1, r2, r3⟩ := A; exact ⟨c, A, r1, r2, fun i hi => by rw [r3 i hi, e i hi]⟩
theorem AI.set {h' : Heap} {a : Addr} {ty : FieldType} {n i : Nat} {v : Value} {f : Nat → Value} (A : AI Z h a ty n f) (W : Wr h h' a i v) : AI Z h' a ty n (fun j => if j = i then v else f j) := by
  obtain ⟨c, A, r1, r2, r3⟩ := A
  refine ⟨_, A.same W, by rw [sz_set]; exact r1, r2, fun j hj => ?_⟩
  obtain ⟨c', q1, -, q3, -⟩ := W
  cases A.1.symm.trans q1
  by_cases e : j = i
  · subst e; simp [Cell.setSlot, r1, hj]
  · have e' : ¬ i = j := fun z => e z.symm
    simp [Cell.setSlot, Array.getElem?_setIfInBounds, e', e, r3 j hj]
theorem AI.new {a : Addr} {ty : FieldType} {cA : ClassId} {m : Int32} (A : Arr Z h a (newA cA ty m) ty) (q : ¬ m < 0) {n : Nat} (e : m.toInt = n) : AI Z h a ty n (fun _ => defaultValue ty) := by
  have e1 : m.toNatClampNeg = n := by simp [Int32.toNatClampNeg, e]
  have e2 : n < 2147483648 := by have := m.toInt_lt; omega
  refine ⟨_, A, by rw [sz_new]; exact e1, e2, fun i hi => ?_⟩
  simp [newA, e1, hi]
theorem ix_of {j : Int32} {i n : Nat} (hj : j.toInt = i) (hi : i < n) : ¬ (j < 0 ∨ n ≤ j.toNatClampNeg) ∧ j.toNatClampNeg = i := by
  have e1 : j.toNatClampNeg = i := by simp [Int32.toNatClampNeg, hj]
  refine ⟨fun q => ?_, e1⟩
  rcases q with q | q
  · rw [Int32.lt_iff_toInt_lt, hj] at q; simp at q; omega
  · omega
theorem g_iaload (X : Sd l Z n0 y B ml rt R k T h cc ss) {a : Addr} {n : Nat} {f : Nat → Value} (A : AI Z h a .int n f) {j : Int32} (i : Nat) (hj : j.toInt = i) (hi : i < n) (v : Value) (hv : f i = v) (hd : decode B pc = .ok (.iaload, 1)) (pc' : Nat) (hp : pc + 1 = pc') (K : Go k n0 Q kc ks T pc' Ls (v :: st)) : Go k n0 Q kc ks T pc Ls (.int j :: .ref a :: st) := by
  subst hp hv; obtain ⟨⟨locs, Y, N⟩, eh, hx, hZ, hown, hby, hr⟩ := X
  obtain ⟨c, A, r1, r2, r3⟩ := A; obtain ⟨q1, q2⟩ := ix_of hj hi
  exact K.of fun t q => Y.iaload hx (by rw [eh]; exact A.1) (State.isArrayOf_alike hZ.alike A.2.1) A.2.2 (by rw [r1]; exact q1) (by rw [q2]; exact r3 i hi) (g := mkF (owm k) pc Ls (.int j :: .ref a :: st)) rfl rfl (Jvm.hb hby hd) t q
theorem g_baload (X : Sd l Z n0 y B ml rt R k T h cc ss) {a : Addr} {n : Nat} {f : Nat → Value} (A : AI Z h a .byte n f) {j : Int32} (i : Nat) (hj : j.toInt = i) (hi : i < n) (v : Value) (hv : f i = v) (hd : decode B pc = .ok (.baload, 1)) (pc' : Nat) (hp : pc + 1 = pc') (K : Go k n0 Q kc ks T pc' Ls (v :: st)) : Go k n0 Q kc ks T pc Ls (.int j :: .ref a :: st) := by
  subst hp hv; obtain ⟨⟨locs, Y, N⟩, eh, hx, hZ, hown, hby, hr⟩ := X
  obtain ⟨c, A, r1, r2, r3⟩ := A; obtain ⟨q1, q2⟩ := ix_of hj hi
  exact K.of fun t q => Y.baloadBytes hx (by rw [eh]; exact A.1) (State.isArrayOf_alike hZ.alike A.2.1) A.2.2 (by rw [r1]; exact q1) (by rw [q2]; exact r3 i hi) (g := mkF (owm k) pc Ls (.int j :: .ref a :: st)) rfl rfl (Jvm.hb hby hd) t q
theorem g_laload (X : Sd l Z n0 y B ml rt R k T h cc ss) {a : Addr} {n : Nat} {f : Nat → Value} (A : AI Z h a .long n f) {j : Int32} (i : Nat) (hj : j.toInt = i) (hi : i < n) (v : Value) (hv : f i = v) (hd : decode B pc = .ok (.laload, 1)) (pc' : Nat) (hp : pc + 1 = pc') (K : Go k n0 Q kc ks T pc' Ls (v :: st)) : Go k n0 Q kc ks T pc Ls (.int j :: .ref a :: st) := by
  subst hp hv; obtain ⟨⟨locs, Y, N⟩, eh, hx, hZ, hown, hby, hr⟩ := X
  obtain ⟨c, A, r1, r2, r3⟩ := A; obtain ⟨q1, q2⟩ := ix_of hj hi
  exact K.of fun t q => Y.laload hx (by rw [eh]; exact A.1) (State.isArrayOf_alike hZ.alike A.2.1) A.2.2 (by rw [r1]; exact q1) (by rw [q2]; exact r3 i hi) (g := mkF (owm k) pc Ls (.int j :: .ref a :: st)) rfl rfl (Jvm.hb hby hd) t q
theorem g_aaload (X : Sd l Z n0 y B ml rt R k T h cc ss) {a : Addr} {ty : FieldType} {n : Nat} {f : Nat → Value} (A : AI Z h a ty n f) (hty : ty.isReference = true) {j : Int32} (i : Nat) (hj : j.toInt = i) (hi : i < n) (v : Value) (hv : f i = v) (hd : decode B pc = .ok (.aaload, 1)) (pc' : Nat) (hp : pc + 1 = pc') (K : Go k n0 Q kc ks T pc' Ls (v :: st)) : Go k n0 Q kc ks T pc Ls (.int j :: .ref a :: st) := by
  subst hp hv; obtain ⟨⟨locs, Y, N⟩, eh, hx, hZ, hown, hby, hr⟩ := X
  obtain ⟨c, A, r1, r2, r3⟩ := A; obtain ⟨q1, q2⟩ := ix_of hj hi
  exact K.of fun t q => Y.aaload hx (by rw [eh]; exact A.1) (State.isArrayOf_alike hZ.alike A.2.1) hty A.2.2 (by rw [r1]; exact q1) (by rw [q2]; exact r3 i hi) (g := mkF (owm k) pc Ls (.int j :: .ref a :: st)) rfl rfl (Jvm.hb hby hd) t q
theorem g_alen (X : Sd l Z n0 y B ml rt R k T h cc ss) {a : Addr} {ty : FieldType} {n : Nat} {f : Nat → Value} (A : AI Z h a ty n f) (v : Int32) (hv : v.toInt = n) (hd : decode B pc = .ok (.arraylength, 1)) (pc' : Nat) (hp : pc + 1 = pc') (K : Go k n0 Q kc ks T pc' Ls (.int v :: st)) : Go k n0 Q kc ks T pc Ls (.ref a :: st) := by
  subst hp; obtain ⟨⟨locs, Y, N⟩, eh, hx, hZ, hown, hby, hr⟩ := X
  obtain ⟨c, A, r1, r2, r3⟩ := A
  have ev : c.slots.size.toInt32 = v := by
    rw [r1]; apply Int32.toInt_inj.mp; rw [hv]
    show (Int32.ofNat n).toInt = _
    rw [Int32.toInt_ofNat_of_lt (by omega)]
  exact K.of fun t q => Y.arraylength hx (by rw [eh]; exact A.1) (State.isArrayOf_alike hZ.alike A.2.1) (g := mkF (owm k) pc Ls (.ref a :: st)) rfl rfl (Jvm.hb hby hd) t (by rw [ev]; exact q)
theorem g_newP (X : Sd l Z n0 y B ml rt R k T h cc ss) {aty : ArrayType} (w : (Jvm.Cond.arrayClass (newarray.typeOf aty)).before a0 Z = true) {m : Int32} (n cap : Nat) (hm : m.toInt = n) (hn : n ≤ cap) (hb : cap * 8 ≤ 536870912) (hd : decode B pc = .ok (.newarray aty, 2)) (hc : cc + 1 ≤ R.cells) (hl : ss + cap ≤ R.slots) (pc' : Nat) (hp : pc + 2 = pc')
    (K : ∀ T' h' a, Sd l Z n0 y B ml rt R k T' h' (cc + 1) (ss + cap) → a = h.size → Ext h h' → AI Z h' a (newarray.typeOf aty) n (fun _ => defaultValue (newarray.typeOf aty)) → Go k n0 Q kc ks T' pc' Ls (.ref a :: st)) : Go k n0 Q kc ks T pc Ls (.int m :: st) := by
  subst hp; obtain ⟨⟨locs, Y, N⟩, eh, hx, hZ, hown, hby, hr⟩ := X
  have q : ¬ m < 0 := by
    have e : (0 : Int32).toInt = 0 := by decide
    rw [Int32.lt_iff_toInt_lt, hm]; omega
  have e1 : m.toNatClampNeg = n := by simp [Int32.toNatClampNeg, hm]
  obtain ⟨T2, h2, cA, X2, e2, E2, A2, st2⟩ := newP Y hx hZ w eh (g := mkF (owm k) pc Ls (.int m :: st)) rfl (Jvm.hb hby hd) rfl q (cap := cap) (by omega) hb hc hl
  exact (K T2 h2 h.size ⟨⟨locs, X2, N⟩, e2, hx, hZ, hown, hby, hr⟩ rfl E2 (AI.new A2 q hm)).of st2
theorem g_iastore (X : Sd l Z n0 y B ml rt R k T h cc ss) {a : Addr} {n : Nat} {f : Nat → Value} (A : AI Z h a .int n f) {j x : Int32} (i : Nat) (hj : j.toInt = i) (hi : i < n) (g0 : n0 ≤ a) (hd : decode B pc = .ok (.iastore, 1)) (pc' : Nat) (hp : pc + 1 = pc')
    (K : ∀ T' h', Sd l Z n0 y B ml rt R k T' h' cc ss → Wr h h' a i (.int x) → Go k n0 Q kc ks T' pc' Ls st) : Go k n0 Q kc ks T pc Ls (.int x :: .int j :: .ref a :: st) := by
  subst hp; obtain ⟨⟨locs, Y, N⟩, eh, hx, hZ, hown, hby, hr⟩ := X
  obtain ⟨c, A, r1, r2, r3⟩ := A; obtain ⟨q1, q2⟩ := ix_of hj hi
  obtain ⟨T2, h2, X2, e2, W2, st2⟩ := stI Y hx hZ eh A (j := j) (x := x) (by rw [r1]; exact q1) (g := mkF (owm k) pc Ls (.int x :: .int j :: .ref a :: st)) rfl rfl (Jvm.hb hby hd)
  rw [q2] at X2 W2
  exact (K T2 h2 ⟨⟨_, X2, Fr.snoc X2 N g0⟩, e2, hx, hZ, hown, hby, hr⟩ W2).of st2
theorem g_lastore (X : Sd l Z n0 y B ml rt R k T h cc ss) {a : Addr} {n : Nat} {f : Nat → Value} (A : AI Z h a .long n f) {j : Int32} {x : Int64} (i : Nat) (hj : j.toInt = i) (hi : i < n) (g0 : n0 ≤ a) (hd : decode B pc = .ok (.lastore, 1)) (pc' : Nat) (hp : pc + 1 = pc')
    (K : ∀ T' h', Sd l Z n0 y B ml rt R k T' h' cc ss → Wr h h' a i (.long x) → Go k n0 Q kc ks T' pc' Ls st) : Go k n0 Q kc ks T pc Ls (.long x :: .int j :: .ref a :: st) := by
  subst hp; obtain ⟨⟨locs, Y, N⟩, eh, hx, hZ, hown, hby, hr⟩ := X
  obtain ⟨c, A, r1, r2, r3⟩ := A; obtain ⟨q1, q2⟩ := ix_of hj hi
  obtain ⟨T2, h2, X2, e2, W2, st2⟩ := stJ Y hx hZ eh A (j := j) (x := x) (by rw [r1]; exact q1) (g := mkF (owm k) pc Ls (.long x :: .int j :: .ref a :: st)) rfl rfl (Jvm.hb hby hd)
  rw [q2] at X2 W2
  exact (K T2 h2 ⟨⟨_, X2, Fr.snoc X2 N g0⟩, e2, hx, hZ, hown, hby, hr⟩ W2).of st2
theorem g_bastore (X : Sd l Z n0 y B ml rt R k T h cc ss) {a : Addr} {n : Nat} {f : Nat → Value} (A : AI Z h a .byte n f) {j x : Int32} (i : Nat) (hj : j.toInt = i) (hi : i < n) (g0 : n0 ≤ a) (hd : decode B pc = .ok (.bastore, 1)) (pc' : Nat) (hp : pc + 1 = pc')
    (K : ∀ T' h', Sd l Z n0 y B ml rt R k T' h' cc ss → Wr h h' a i (.int x.toInt8.toInt32) → Go k n0 Q kc ks T' pc' Ls st) : Go k n0 Q kc ks T pc Ls (.int x :: .int j :: .ref a :: st) := by
  subst hp; obtain ⟨⟨locs, Y, N⟩, eh, hx, hZ, hown, hby, hr⟩ := X
  obtain ⟨c, A, r1, r2, r3⟩ := A; obtain ⟨q1, q2⟩ := ix_of hj hi
  obtain ⟨T2, h2, X2, e2, W2, st2⟩ := stB Y hx hZ eh A (j := j) (x := x) (by rw [r1]; exact q1) (g := mkF (owm k) pc Ls (.int x :: .int j :: .ref a :: st)) rfl rfl (Jvm.hb hby hd)
  rw [q2] at X2 W2
  exact (K T2 h2 ⟨⟨_, X2, Fr.snoc X2 N g0⟩, e2, hx, hZ, hown, hby, hr⟩ W2).of st2
/-! arrays of references of the class C -/
def AR (Z : State) (h : Heap) (a : Addr) (C : String) (n : Nat) (f : Nat → Value) : Prop := ∃ c : Cell, Arr Z h a c (.object C) ∧ Ovr Z c.cls C ∧ c.slots.size = n ∧ n < 2147483648 ∧ ∀ i, i < n → c.slots[i]? = some (f i)
theorem AR.ai {a : Addr} {C : String} {n : Nat} {f : Nat → Value} (A : AR Z h a C n f) : AI Z h a (.object C) n f := by obtain ⟨c, A, -, r⟩ := A; exact ⟨c, A, r⟩
theorem AR.lt {a : Addr} {C : String} {n : Nat} {f : Nat → Value} (A : AR Z h a C n f) : a < h.size := A.ai.lt
theorem AR.ext {h' : Heap} {a : Addr} {C : String} {n : Nat} {f : Nat → Value} (A : AR Z h a C n f) (E : Ext h h') : AR Z h' a C n f := by obtain ⟨c, A, r⟩ := A; exact ⟨c, A.ext E, r⟩
theorem AR.other {h' : Heap} {a b : Addr} {sl : Nat} {v : Value} {C : String} {n : Nat} {f : Nat → Value} (A : AR Z h a C n f) (W : Wr h h' b sl v) (q : a ≠ b) : AR Z h' a C n f := by obtain ⟨c, A, r⟩ := A; exact ⟨c, A.other W q, r⟩
theorem AR.keep {h' : Heap} {ws : List Addr} {a : Addr} {C : String} {n : Nat} {f : Nat → Value} (A : AR Z h a C n f) (K : Keep h h' ws) (q : a ∉ ws) : AR Z h' a C n f := by obtain ⟨c, A, r⟩ := A; exact ⟨c, ⟨K.2.1 a c A.1 q, A.2⟩, r⟩
theorem AR.to {a : Addr} {C : String} {n : Nat} {f g : Nat → Value} (A : AR Z h a C n f) (e : ∀ i, i < n → f i = g i) : AR Z h a C n g := by obtain ⟨c, A, r0, r1, r2, r3⟩ := A; exact ⟨c, A, r0, r1, r2, fun i hi => by rw [r3 i hi, e i hi]⟩
theorem AR.set {h' : Heap} {a : Addr} {C : String} {n i : Nat} {v : Value} {f : Nat → Value} (A : AR Z h a C n f) (W : Wr h h' a i v) : AR Z h' a C n (fun j => if j = i then v else f j) := by
  obtain ⟨c, A, r0, r1, r2, r3⟩ := A
  refine ⟨_, A.same W, r0, by rw [sz_set]; exact r1, r2, fun j hj => ?_⟩
  obtain ⟨c', q1, -, q3, -⟩ := W
  cases A.1.symm.trans q1
  by_cases e : j = i
  · subst e; simp [Cell.setSlot, r1, hj]
  · have e' : ¬ i = j := fun z => e z.symm
    simp [Cell.setSlot, Array.getElem?_setIfInBounds, e', e, r3 j hj]
theorem g_newR (X : Sd l Z n0 y B ml rt R k T h cc ss) {i : Nat} {C : String} (w1 : (Jvm.Cond.classLink y.cls i C).before a0 Z = true) (w2 : (Jvm.Cond.arrayOver (.object C)).before a0 Z = true) {m : Int32} (n cap : Nat) (hm : m.toInt = n) (hn : n ≤ cap) (hb : cap * 8 ≤ 536870912) (hd : decode B pc = .ok (.anewarray i, 3)) (hc : cc + 1 ≤ R.cells) (hl : ss + cap ≤ R.slots) (pc' : Nat) (hp : pc + 3 = pc')
    (K : ∀ T' h' a, Sd l Z n0 y B ml rt R k T' h' (cc + 1) (ss + cap) → a = h.size → Ext h h' → AR Z h' a C n (fun _ => .null) → Go k n0 Q kc ks T' pc' Ls (.ref a :: st)) : Go k n0 Q kc ks T pc Ls (.int m :: st) := by
  subst hp; obtain ⟨⟨locs, Y, N⟩, eh, hx, hZ, hown, hby, hr⟩ := X
  have q : ¬ m < 0 := by
    have e : (0 : Int32).toInt = 0 := by decide
    rw [Int32.lt_iff_toInt_lt, hm]; omega
  have e1 : m.toNatClampNeg = n := by simp [Int32.toNatClampNeg, hm]
  obtain ⟨T2, h2, cA, X2, e2, E2, A2, O2, st2⟩ := newR Y hx hZ hown w1 w2 eh (g := mkF (owm k) pc Ls (.int m :: st)) rfl (Jvm.hb hby hd) rfl q (cap := cap) (by omega) hb hc hl
  obtain ⟨c, A3, r1, r2, r3⟩ := AI.new A2 q hm
  cases A2.1.symm.trans A3.1
  exact (K T2 h2 h.size ⟨⟨locs, X2, N⟩, e2, hx, hZ, hown, hby, hr⟩ rfl E2 ⟨_, A2, O2, r1, r2, r3⟩).of st2
theorem g_aastore (X : Sd l Z n0 y B ml rt R k T h cc ss) {a b : Addr} {C : String} {n : Nat} {f : Nat → Value} (A : AR Z h a C n f) {j : Int32} (i : Nat) (hj : j.toInt = i) (hi : i < n) (I : Ins Z h b C true) (g0 : n0 ≤ a) (hd : decode B pc = .ok (.aastore, 1)) (pc' : Nat) (hp : pc + 1 = pc')
    (K : ∀ T' h', Sd l Z n0 y B ml rt R k T' h' cc ss → Wr h h' a i (.ref b) → Go k n0 Q kc ks T' pc' Ls st) : Go k n0 Q kc ks T pc Ls (.ref b :: .int j :: .ref a :: st) := by
  subst hp; obtain ⟨⟨locs, Y, N⟩, eh, hx, hZ, hown, hby, hr⟩ := X
  obtain ⟨c, A, r0, r1, r2, r3⟩ := A; obtain ⟨q1, q2⟩ := ix_of hj hi
  obtain ⟨T2, h2, X2, e2, W2, st2⟩ := stR Y hx hZ eh A (j := j) (v := .ref b) (by rw [r1]; exact q1) rfl (Sto.of A r0 I) (g := mkF (owm k) pc Ls (.ref b :: .int j :: .ref a :: st)) rfl rfl (Jvm.hb hby hd)
  rw [q2] at X2 W2
  exact (K T2 h2 ⟨⟨_, X2, Fr.snoc X2 N g0⟩, e2, hx, hZ, hown, hby, hr⟩ W2).of st2
theorem g_inst1 (X : Sd l Z n0 y B ml rt R k T h cc ss) {i : Nat} {C : String} {a : Addr} (w : (Jvm.Cond.classLink y.cls i C).before a0 Z = true) (I : Ins Z h a C true) (hd : decode B pc = .ok (.instanceof i, 3)) (pc' : Nat) (hp : pc + 3 = pc')
    (K : ∀ T', Sd l Z n0 y B ml rt R k T' h cc ss → Go k n0 Q kc ks T' pc' Ls (.int 1 :: st)) : Go k n0 Q kc ks T pc Ls (.ref a :: st) := by
  subst hp; obtain ⟨⟨locs, Y, N⟩, eh, hx, hZ, hown, hby, hr⟩ := X
  obtain ⟨T2, X2, e2, st2⟩ := instY Y hx hZ hown w eh I (g := mkF (owm k) pc Ls (.ref a :: st)) rfl rfl (Jvm.hb hby hd)
  exact (K T2 ⟨⟨locs, X2, N⟩, e2, hx, hZ, hown, hby, hr⟩).of st2
theorem g_inst0 (X : Sd l Z n0 y B ml rt R k T h cc ss) {i : Nat} {C D : String} {a : Addr} (w : (Jvm.Cond.classLink y.cls i C).before a0 Z = true) (E : Exa Z h a D) (F : ∃ c t, Z.vm.findClass D = some c ∧ Z.vm.findClass C = some t ∧ Z.vm.assignable c t = false) (hd : decode B pc = .ok (.instanceof i, 3)) (pc' : Nat) (hp : pc + 3 = pc')
    (K : ∀ T', Sd l Z n0 y B ml rt R k T' h cc ss → Go k n0 Q kc ks T' pc' Ls (.int 0 :: st)) : Go k n0 Q kc ks T pc Ls (.ref a :: st) := by
  subst hp; obtain ⟨⟨locs, Y, N⟩, eh, hx, hZ, hown, hby, hr⟩ := X
  obtain ⟨T2, X2, e2, st2⟩ := instNo Y hx hZ hown w eh E F (g := mkF (owm k) pc Ls (.ref a :: st)) rfl rfl (Jvm.hb hby hd)
  exact (K T2 ⟨⟨locs, X2, N⟩, e2, hx, hZ, hown, hby, hr⟩).of st2
theorem g_instN (X : Sd l Z n0 y B ml rt R k T h cc ss) {i : Nat} (hd : decode B pc = .ok (.instanceof i, 3)) (pc' : Nat) (hp : pc + 3 = pc') (K : Go k n0 Q kc ks T pc' Ls (.int 0 :: st)) : Go k n0 Q kc ks T pc Ls (.null :: st) := by
  subst hp; obtain ⟨⟨locs, Y, N⟩, eh, hx, hZ, hown, hby, hr⟩ := X
  exact K.of fun t q => Y.instanceofNull hx (g := mkF (owm k) pc Ls (.null :: st)) rfl rfl (Jvm.hb hby hd) t q
theorem g_cast (X : Sd l Z n0 y B ml rt R k T h cc ss) {i : Nat} {C : String} {a : Addr} (w : (Jvm.Cond.classLink y.cls i C).before a0 Z = true) (I : Ins Z h a C true) (hd : decode B pc = .ok (.checkcast i, 3)) (pc' : Nat) (hp : pc + 3 = pc')
    (K : ∀ T', Sd l Z n0 y B ml rt R k T' h cc ss → Go k n0 Q kc ks T' pc' Ls (.ref a :: st)) : Go k n0 Q kc ks T pc Ls (.ref a :: st) := by
  subst hp; obtain ⟨⟨locs, Y, N⟩, eh, hx, hZ, hown, hby, hr⟩ := X
  obtain ⟨T2, X2, e2, st2⟩ := castY Y hx hZ hown w eh I (g := mkF (owm k) pc Ls (.ref a :: st)) rfl rfl (Jvm.hb hby hd)
  exact (K T2 ⟨⟨locs, X2, N⟩, e2, hx, hZ, hown, hby, hr⟩).of st2
end Ow
theorem own_i0 : (0 : Int32).toInt = 0 := by decide
theorem own_i1 : (1 : Int32).toInt = 1 := by decide
theorem own_z0 : (0 : Int32).toInt = ((0 : Nat) : Int) := by decide
theorem own_nn {o : Int32} (h : 0 ≤ o.toInt) : ¬ o < 0 := by rw [Int32.lt_iff_toInt_lt, own_i0]; omega
theorem own_b1 : ((1 : Int32) &&& 1) = 1 := by decide
theorem own_b0 : ((0 : Int32) &&& 1) = 0 := by decide
theorem own_one : (some (Value.int ((1 : Int32) &&& 1))) = some (.int 1) := congrArg (fun z => some (Value.int z)) own_b1
theorem w0 {Z : State} {a0 : Array Value} (hw : ∀ d ∈ tables_1, d.before a0 Z = true) : (Jvm.Cond.constantLong "com/example/settle/settle/io/PlaceEqualsPinLaw" (9 : Nat) (9223372036854775807 : Int64)).before a0 Z = true := hw _ (List.mem_of_getElem? (i := 0) rfl)
theorem w1 {Z : State} {a0 : Array Value} (hw : ∀ d ∈ tables_1, d.before a0 Z = true) : (Jvm.Cond.classLink "com/example/settle/settle/io/PlaceEqualsPinLaw" (11 : Nat) "com/example/settle/settle/io/SegmentLog$Place").before a0 Z = true := hw _ (List.mem_of_getElem? (i := 1) rfl)
theorem w2 {Z : State} {a0 : Array Value} (hw : ∀ d ∈ tables_1, d.before a0 Z = true) : (Jvm.Cond.instantiable "com/example/settle/settle/io/SegmentLog$Place" (4 : Nat)).before a0 Z = true := hw _ (List.mem_of_getElem? (i := 2) rfl)
theorem w3 {Z : State} {a0 : Array Value} (hw : ∀ d ∈ tables_1, d.before a0 Z = true) : (Jvm.Cond.initialized "com/example/settle/settle/io/SegmentLog$Place").before a0 Z = true := hw _ (List.mem_of_getElem? (i := 3) rfl)
theorem w4 {Z : State} {a0 : Array Value} (hw : ∀ d ∈ tables_1, d.before a0 Z = true) : (Jvm.Cond.methodLink "com/example/settle/settle/io/PlaceEqualsPinLaw" (13 : Nat) ({ cls := "com/example/settle/settle/io/SegmentLog$Place", name := "<init>", desc := "(JJJJ)V" } : Jvm.MethodName)).before a0 Z = true := hw _ (List.mem_of_getElem? (i := 4) rfl)
theorem w5 {Z : State} {a0 : Array Value} (hw : ∀ d ∈ tables_1, d.before a0 Z = true) : (Jvm.Cond.instanceMethod ({ cls := "com/example/settle/settle/io/SegmentLog$Place", name := "<init>", desc := "(JJJJ)V" } : Jvm.MethodName)).before a0 Z = true := hw _ (List.mem_of_getElem? (i := 5) rfl)
theorem w6 {Z : State} {a0 : Array Value} (hw : ∀ d ∈ tables_1, d.before a0 Z = true) : (Jvm.Cond.code ({ cls := "com/example/settle/settle/io/SegmentLog$Place", name := "<init>", desc := "(JJJJ)V" } : Jvm.MethodName) prog_32_method_1_code (9 : Nat) (Option.none : Option Jvm.ClassFile.FieldType)).before a0 Z = true := hw _ (List.mem_of_getElem? (i := 6) rfl)
theorem w7 {Z : State} {a0 : Array Value} (hw : ∀ d ∈ tables_1, d.before a0 Z = true) : (Jvm.Cond.methodLink "com/example/settle/settle/io/SegmentLog$Place" (1 : Nat) ({ cls := "java/lang/Object", name := "<init>", desc := "()V" } : Jvm.MethodName)).before a0 Z = true := hw _ (List.mem_of_getElem? (i := 7) rfl)
theorem w8 {Z : State} {a0 : Array Value} (hw : ∀ d ∈ tables_1, d.before a0 Z = true) : (Jvm.Cond.instanceMethod ({ cls := "java/lang/Object", name := "<init>", desc := "()V" } : Jvm.MethodName)).before a0 Z = true := hw _ (List.mem_of_getElem? (i := 8) rfl)
theorem w9 {Z : State} {a0 : Array Value} (hw : ∀ d ∈ tables_1, d.before a0 Z = true) : (Jvm.Cond.code ({ cls := "java/lang/Object", name := "<init>", desc := "()V" } : Jvm.MethodName) object_method_1_code (1 : Nat) (Option.none : Option Jvm.ClassFile.FieldType)).before a0 Z = true := hw _ (List.mem_of_getElem? (i := 9) rfl)
theorem w10 {Z : State} {a0 : Array Value} (hw : ∀ d ∈ tables_1, d.before a0 Z = true) : (Jvm.Cond.fieldLink "com/example/settle/settle/io/SegmentLog$Place" (16 : Nat) "com/example/settle/settle/io/SegmentLog$Place" "segment" "J").before a0 Z = true := hw _ (List.mem_of_getElem? (i := 10) rfl)
theorem w11 {Z : State} {a0 : Array Value} (hw : ∀ d ∈ tables_1, d.before a0 Z = true) : (Jvm.Cond.laysFinal "com/example/settle/settle/io/SegmentLog$Place" "com/example/settle/settle/io/SegmentLog$Place" "segment" "J").before a0 Z = true := hw _ (List.mem_of_getElem? (i := 11) rfl)
theorem w12 {Z : State} {a0 : Array Value} (hw : ∀ d ∈ tables_1, d.before a0 Z = true) : (Jvm.Cond.fieldLink "com/example/settle/settle/io/SegmentLog$Place" (22 : Nat) "com/example/settle/settle/io/SegmentLog$Place" "entry" "J").before a0 Z = true := hw _ (List.mem_of_getElem? (i := 12) rfl)
theorem w13 {Z : State} {a0 : Array Value} (hw : ∀ d ∈ tables_1, d.before a0 Z = true) : (Jvm.Cond.laysFinal "com/example/settle/settle/io/SegmentLog$Place" "com/example/settle/settle/io/SegmentLog$Place" "entry" "J").before a0 Z = true := hw _ (List.mem_of_getElem? (i := 13) rfl)
theorem w14 {Z : State} {a0 : Array Value} (hw : ∀ d ∈ tables_1, d.before a0 Z = true) : (Jvm.Cond.fieldLink "com/example/settle/settle/io/SegmentLog$Place" (25 : Nat) "com/example/settle/settle/io/SegmentLog$Place" "position" "J").before a0 Z = true := hw _ (List.mem_of_getElem? (i := 14) rfl)
theorem w15 {Z : State} {a0 : Array Value} (hw : ∀ d ∈ tables_1, d.before a0 Z = true) : (Jvm.Cond.laysFinal "com/example/settle/settle/io/SegmentLog$Place" "com/example/settle/settle/io/SegmentLog$Place" "position" "J").before a0 Z = true := hw _ (List.mem_of_getElem? (i := 15) rfl)
theorem w16 {Z : State} {a0 : Array Value} (hw : ∀ d ∈ tables_1, d.before a0 Z = true) : (Jvm.Cond.fieldLink "com/example/settle/settle/io/SegmentLog$Place" (28 : Nat) "com/example/settle/settle/io/SegmentLog$Place" "offset" "J").before a0 Z = true := hw _ (List.mem_of_getElem? (i := 16) rfl)
theorem w17 {Z : State} {a0 : Array Value} (hw : ∀ d ∈ tables_1, d.before a0 Z = true) : (Jvm.Cond.laysFinal "com/example/settle/settle/io/SegmentLog$Place" "com/example/settle/settle/io/SegmentLog$Place" "offset" "J").before a0 Z = true := hw _ (List.mem_of_getElem? (i := 17) rfl)
theorem w18 {Z : State} {a0 : Array Value} (hw : ∀ d ∈ tables_1, d.before a0 Z = true) : (Jvm.Cond.methodLink "com/example/settle/settle/io/PlaceEqualsPinLaw" (16 : Nat) ({ cls := "java/lang/Integer", name := "valueOf", desc := "(I)Ljava/lang/Integer;" } : Jvm.MethodName)).before a0 Z = true := hw _ (List.mem_of_getElem? (i := 18) rfl)
theorem w19 {Z : State} {a0 : Array Value} (hw : ∀ d ∈ tables_1, d.before a0 Z = true) : (Jvm.Cond.static ({ cls := "java/lang/Integer", name := "valueOf", desc := "(I)Ljava/lang/Integer;" } : Jvm.MethodName)).before a0 Z = true := hw _ (List.mem_of_getElem? (i := 19) rfl)
theorem w20 {Z : State} {a0 : Array Value} (hw : ∀ d ∈ tables_1, d.before a0 Z = true) : (Jvm.Cond.initialized "java/lang/Integer").before a0 Z = true := hw _ (List.mem_of_getElem? (i := 20) rfl)
theorem w21 {Z : State} {a0 : Array Value} (hw : ∀ d ∈ tables_1, d.before a0 Z = true) : (Jvm.Cond.code ({ cls := "java/lang/Integer", name := "valueOf", desc := "(I)Ljava/lang/Integer;" } : Jvm.MethodName) jdk_33_method_22_code (1 : Nat) (Option.some (Jvm.ClassFile.FieldType.object "java/lang/Integer"))).before a0 Z = true := hw _ (List.mem_of_getElem? (i := 21) rfl)
theorem w22 {Z : State} {a0 : Array Value} (hw : ∀ d ∈ tables_1, d.before a0 Z = true) : (Jvm.Cond.fieldLink "java/lang/Integer" (191 : Nat) "java/lang/Integer$IntegerCache" "high" "I").before a0 Z = true := hw _ (List.mem_of_getElem? (i := 22) rfl)
theorem w23 {Z : State} {a0 : Array Value} (hw : ∀ d ∈ tables_1, d.before a0 Z = true) : (Jvm.Cond.initialized "java/lang/Integer$IntegerCache").before a0 Z = true := hw _ (List.mem_of_getElem? (i := 23) rfl)
theorem w24 {Z : State} {a0 : Array Value} (hw : ∀ d ∈ tables_1, d.before a0 Z = true) : (Jvm.Cond.fieldLink "java/lang/Integer" (195 : Nat) "java/lang/Integer$IntegerCache" "cache" "[Ljava/lang/Integer;").before a0 Z = true := hw _ (List.mem_of_getElem? (i := 24) rfl)
theorem w25 {Z : State} {a0 : Array Value} (hw : ∀ d ∈ tables_1, d.before a0 Z = true) : (Jvm.Cond.methodLink "com/example/settle/settle/io/PlaceEqualsPinLaw" (22 : Nat) ({ cls := "com/example/settle/settle/io/SegmentLog$Place", name := "equals", desc := "(Ljava/lang/Object;)Z" } : Jvm.MethodName)).before a0 Z = true := hw _ (List.mem_of_getElem? (i := 25) rfl)
theorem w26 {Z : State} {a0 : Array Value} (hw : ∀ d ∈ tables_1, d.before a0 Z = true) : (Jvm.Cond.declares ({ cls := "com/example/settle/settle/io/SegmentLog$Place", name := "equals", desc := "(Ljava/lang/Object;)Z" } : Jvm.MethodName)).before a0 Z = true := hw _ (List.mem_of_getElem? (i := 26) rfl)
theorem w27 {Z : State} {a0 : Array Value} (hw : ∀ d ∈ tables_1, d.before a0 Z = true) : (Jvm.Cond.instanceMethod ({ cls := "com/example/settle/settle/io/SegmentLog$Place", name := "equals", desc := "(Ljava/lang/Object;)Z" } : Jvm.MethodName)).before a0 Z = true := hw _ (List.mem_of_getElem? (i := 27) rfl)
theorem w28 {Z : State} {a0 : Array Value} (hw : ∀ d ∈ tables_1, d.before a0 Z = true) : (Jvm.Cond.selects "com/example/settle/settle/io/SegmentLog$Place" ({ cls := "com/example/settle/settle/io/SegmentLog$Place", name := "equals", desc := "(Ljava/lang/Object;)Z" } : Jvm.MethodName) ({ cls := "com/example/settle/settle/io/SegmentLog$Place", name := "equals", desc := "(Ljava/lang/Object;)Z" } : Jvm.MethodName)).before a0 Z = true := hw _ (List.mem_of_getElem? (i := 28) rfl)
theorem w29 {Z : State} {a0 : Array Value} (hw : ∀ d ∈ tables_1, d.before a0 Z = true) : (Jvm.Cond.code ({ cls := "com/example/settle/settle/io/SegmentLog$Place", name := "equals", desc := "(Ljava/lang/Object;)Z" } : Jvm.MethodName) prog_32_method_9_code (2 : Nat) (Option.some Jvm.ClassFile.FieldType.boolean)).before a0 Z = true := hw _ (List.mem_of_getElem? (i := 29) rfl)
theorem w30 {Z : State} {a0 : Array Value} (hw : ∀ d ∈ tables_1, d.before a0 Z = true) : (Jvm.Cond.classLink "com/example/settle/settle/io/SegmentLog$Place" (17 : Nat) "com/example/settle/settle/io/SegmentLog$Place").before a0 Z = true := hw _ (List.mem_of_getElem? (i := 30) rfl)
theorem w32 {Z : State} {a0 : Array Value} (hw : ∀ d ∈ tables_1, d.before a0 Z = true) : (Jvm.Cond.superclass "java/lang/Integer" "java/lang/Number").before a0 Z = true := hw _ (List.mem_of_getElem? (i := 32) rfl)
theorem w33 {Z : State} {a0 : Array Value} (hw : ∀ d ∈ tables_1, d.before a0 Z = true) : (Jvm.Cond.superclass "java/lang/Number" "java/lang/Object").before a0 Z = true := hw _ (List.mem_of_getElem? (i := 33) rfl)
theorem w34 {Z : State} {a0 : Array Value} (hw : ∀ d ∈ tables_1, d.before a0 Z = true) : (Jvm.Cond.noSuperclass "java/lang/Object").before a0 Z = true := hw _ (List.mem_of_getElem? (i := 34) rfl)
theorem w35 {Z : State} {a0 : Array Value} (hw : ∀ d ∈ tables_1, d.before a0 Z = true) : (Jvm.Cond.classLink "java/lang/Integer" (1 : Nat) "java/lang/Integer").before a0 Z = true := hw _ (List.mem_of_getElem? (i := 35) rfl)
theorem w36 {Z : State} {a0 : Array Value} (hw : ∀ d ∈ tables_1, d.before a0 Z = true) : (Jvm.Cond.instantiable "java/lang/Integer" (1 : Nat)).before a0 Z = true := hw _ (List.mem_of_getElem? (i := 36) rfl)
theorem w37 {Z : State} {a0 : Array Value} (hw : ∀ d ∈ tables_1, d.before a0 Z = true) : (Jvm.Cond.methodLink "java/lang/Integer" (199 : Nat) ({ cls := "java/lang/Integer", name := "<init>", desc := "(I)V" } : Jvm.MethodName)).before a0 Z = true := hw _ (List.mem_of_getElem? (i := 37) rfl)
theorem w38 {Z : State} {a0 : Array Value} (hw : ∀ d ∈ tables_1, d.before a0 Z = true) : (Jvm.Cond.instanceMethod ({ cls := "java/lang/Integer", name := "<init>", desc := "(I)V" } : Jvm.MethodName)).before a0 Z = true := hw _ (List.mem_of_getElem? (i := 38) rfl)
theorem w40 {Z : State} {a0 : Array Value} (hw : ∀ d ∈ tables_1, d.before a0 Z = true) : (Jvm.Cond.code ({ cls := "java/lang/Integer", name := "<init>", desc := "(I)V" } : Jvm.MethodName) jdk_33_method_23_code (2 : Nat) (Option.none : Option Jvm.ClassFile.FieldType)).before a0 Z = true := hw _ (List.mem_of_getElem? (i := 40) rfl)
theorem w41 {Z : State} {a0 : Array Value} (hw : ∀ d ∈ tables_1, d.before a0 Z = true) : (Jvm.Cond.methodLink "java/lang/Integer" (202 : Nat) ({ cls := "java/lang/Number", name := "<init>", desc := "()V" } : Jvm.MethodName)).before a0 Z = true := hw _ (List.mem_of_getElem? (i := 41) rfl)
theorem w42 {Z : State} {a0 : Array Value} (hw : ∀ d ∈ tables_1, d.before a0 Z = true) : (Jvm.Cond.instanceMethod ({ cls := "java/lang/Number", name := "<init>", desc := "()V" } : Jvm.MethodName)).before a0 Z = true := hw _ (List.mem_of_getElem? (i := 42) rfl)
theorem w45 {Z : State} {a0 : Array Value} (hw : ∀ d ∈ tables_1, d.before a0 Z = true) : (Jvm.Cond.initialized "java/lang/Number").before a0 Z = true := hw _ (List.mem_of_getElem? (i := 45) rfl)
theorem w46 {Z : State} {a0 : Array Value} (hw : ∀ d ∈ tables_1, d.before a0 Z = true) : (Jvm.Cond.code ({ cls := "java/lang/Number", name := "<init>", desc := "()V" } : Jvm.MethodName) jdk_18_method_1_code (1 : Nat) (Option.none : Option Jvm.ClassFile.FieldType)).before a0 Z = true := hw _ (List.mem_of_getElem? (i := 46) rfl)
theorem w47 {Z : State} {a0 : Array Value} (hw : ∀ d ∈ tables_1, d.before a0 Z = true) : (Jvm.Cond.methodLink "java/lang/Number" (1 : Nat) ({ cls := "java/lang/Object", name := "<init>", desc := "()V" } : Jvm.MethodName)).before a0 Z = true := hw _ (List.mem_of_getElem? (i := 47) rfl)
theorem w48 {Z : State} {a0 : Array Value} (hw : ∀ d ∈ tables_1, d.before a0 Z = true) : (Jvm.Cond.fieldLink "java/lang/Integer" (205 : Nat) "java/lang/Integer" "value" "I").before a0 Z = true := hw _ (List.mem_of_getElem? (i := 48) rfl)
theorem w49 {Z : State} {a0 : Array Value} (hw : ∀ d ∈ tables_1, d.before a0 Z = true) : (Jvm.Cond.laysFinal "java/lang/Integer" "java/lang/Integer" "value" "I").before a0 Z = true := hw _ (List.mem_of_getElem? (i := 49) rfl)
theorem pd0 : parseMethodDescriptor "()V" = some ⟨[], none⟩ := by decide +kernel
theorem pd1 : parseMethodDescriptor "(I)V" = some ⟨[.int], none⟩ := by decide +kernel
theorem pd2 : parseMethodDescriptor "(JJJJ)V" = some ⟨[.long, .long, .long, .long], none⟩ := by decide +kernel
theorem pd3 : parseMethodDescriptor "(I)Ljava/lang/Integer;" = some ⟨[.int], some (.object "java/lang/Integer")⟩ := by decide +kernel
theorem pd4 : parseMethodDescriptor "(Ljava/lang/Object;)Z" = some ⟨[(.object "java/lang/Object")], some .boolean⟩ := by decide +kernel
theorem pn0 : Jvm.plainFor (⟨"com/example/settle/settle/io/SegmentLog$Place", "<init>", "(JJJJ)V"⟩ : MethodName) = true := by first | exact plainFor_of_name (by first | (simp [Jvm.plainName, overriddenIn]; done) | decide +kernel) | decide +kernel
theorem pn1 : Jvm.plainFor (⟨"java/lang/Number", "<init>", "()V"⟩ : MethodName) = true := by first | exact plainFor_of_name (by first | (simp [Jvm.plainName, overriddenIn]; done) | decide +kernel) | decide +kernel
theorem pn2 : Jvm.plainFor (⟨"java/lang/Integer", "<init>", "(I)V"⟩ : MethodName) = true := by first | exact plainFor_of_name (by first | (simp [Jvm.plainName, overriddenIn]; done) | decide +kernel) | decide +kernel
theorem pn3 : Jvm.plainFor (⟨"java/lang/Integer", "valueOf", "(I)Ljava/lang/Integer;"⟩ : MethodName) = true := by first | exact plainFor_of_name (by first | (simp [Jvm.plainName, overriddenIn]; done) | decide +kernel) | decide +kernel
theorem pn4 : Jvm.plainFor (⟨"com/example/settle/settle/io/SegmentLog$Place", "equals", "(Ljava/lang/Object;)Z"⟩ : MethodName) = true := by first | exact plainFor_of_name (by first | (simp [Jvm.plainName, overriddenIn]; done) | decide +kernel) | decide +kernel
theorem pn5 : Jvm.plainFor (⟨"com/example/settle/settle/io/PlaceEqualsPinLaw", "law", "(JJJJJI)Z"⟩ : MethodName) = true := by first | exact plainFor_of_name (by first | (simp [Jvm.plainName, overriddenIn]; done) | decide +kernel) | decide +kernel
def fEq (a b c d a' b' c' d' : Int64) : Int32 := if a = a' then (if b = b' then (if c = c' then (if d = d' then 1 else 0) else 0) else 0) else 0
theorem own_eq {a b c d a' b' c' d' : Int64} {v : Int32} (h : v = (if a = a' then (if b = b' then (if c = c' then (if d = d' then (1 : Int32) else (0 : Int32)) else (0 : Int32)) else (0 : Int32)) else (0 : Int32))) : fEq a b c d a' b' c' d' = v := h.symm
theorem own_eq2 {a b c d a' b' c' d' : Int64} {v : Int32} (h : v = (if a = a' then (if b = b' then (if c = c' then (if d = d' then (1 : Int32) else (0 : Int32)) else (0 : Int32)) else (0 : Int32)) else (0 : Int32))) : fEq a' b' c' d' a b c d = v := by
  rw [h]; unfold fEq; simp only [eq_comm (a := a') (b := a), eq_comm (a := b') (b := b), eq_comm (a := c') (b := c), eq_comm (a := d') (b := d)]
theorem own_refl {a b c d : Int64} : ¬ fEq a b c d a b c d = 0 := by unfold fEq; simp
theorem own_pos {x v : Int64} (h : x &&& (9223372036854775807 : Int64) = v) : ¬ v < (0 : Int64) := by
  have q := c_maskL x 9223372036854775807 63 (by decide) (by decide); rw [h] at q
  have e : (0 : Int64).toInt = 0 := by decide
  rw [Int64.lt_iff_toInt_lt, e]
  have z : ((2 ^ 63 : Nat) : Int) = 9223372036854775808 := by decide
  omega
theorem own_ite {P : Prop} [Decidable P] {v a b : Int64} (h : v = if P then a else b) (h1 : ¬ a < (0 : Int64)) (h2 : ¬ b < (0 : Int64)) : ¬ v < (0 : Int64) := by subst h; split <;> assumption
theorem own_no {Z : State} {a0 : Array Value} (hw : ∀ d ∈ tables_1, d.before a0 Z = true) : ∃ c t, Z.vm.findClass "java/lang/Integer" = some c ∧ Z.vm.findClass "com/example/settle/settle/io/SegmentLog$Place" = some t ∧ Z.vm.assignable c t = false := by
  obtain ⟨t, kt, t1, t2, t3, t4, -⟩ := Cond.instantiable_spec (w2 hw)
  have ti : kt.isInterface = false := by revert t4; cases kt.isInterface <;> simp
  obtain ⟨c0, k0, o1, o2, o3, -, -⟩ := Cond.noSuperclass_spec (w34 hw)
  obtain ⟨c1, n1⟩ := found_sup (w33 hw)
  obtain ⟨p1, k1, kp1, n2, n3, n4, n5, -⟩ := Cond.superclass_spec n1 (w33 hw)
  cases o1.symm.trans n2
  obtain ⟨c2, m1⟩ := found_sup (w32 hw)
  obtain ⟨p2, k2, kp2, m2, m3, m4, m5, m6, -, m7⟩ := Cond.superclass_spec m1 (w32 hw)
  cases n1.symm.trans m2
  have ne0 := ids_ne o1 t1 (by decide)
  have ne1 := ids_ne n1 t1 (by decide)
  have ne2 := ids_ne m1 t1 (by decide)
  have s0 : ∀ fuel, Z.vm.isSubclassAux fuel c0 t = false := fun fuel => by
    cases fuel with
    | zero => rfl
    | succ f => simp [Vm.isSubclassAux, ne0, o2, o3]
  have s1 : ∀ fuel, Z.vm.isSubclassAux fuel c1 t = false := fun fuel => by
    cases fuel with
    | zero => rfl
    | succ f => simp [Vm.isSubclassAux, ne1, n3, n5, s0]
  have s2 : ∀ fuel, Z.vm.isSubclassAux fuel c2 t = false := fun fuel => by
    cases fuel with
    | zero => rfl
    | succ f => simp [Vm.isSubclassAux, ne2, m3, m5, s1]
  refine ⟨c2, t, m1, t1, ?_⟩
  show Z.vm.assignableAux (255 + 1) c2 t = false
  simp [Vm.assignableAux, ne2, m3, t2, m6, ti, t3, Vm.isSubclass, s2]
theorem own_cache {i : Int32} (h1 : ¬ i < (-128 : Int32)) (h2 : ¬ (127 : Int32) < i) : ∃ j : Nat, (i + (128 : Int32)).toInt = j ∧ j < 256 := by
  have a := c_iadd i 128; have r := rng32 (i + 128)
  have e1 : (-128 : Int32).toInt = -128 := by decide
  have e2 : (127 : Int32).toInt = 127 := by decide
  have e3 : (128 : Int32).toInt = 128 := by decide
  rw [Int32.lt_iff_toInt_lt] at h1 h2
  exact ⟨(i + 128).toInt.toNat, by omega, by omega⟩
theorem own_len {s : State} {args : Array Value} {t : Term} {a : Addr} {c : Cell} {z : Int32} (ht : t.eval args s none [] s = some (.ref a)) (hc : s.arrayAt? a = some c) (h : (Term.length t).eval args s none [] s = some (.int z)) : c.slots.size < 2 ^ 31 ∧ c.slots.size.toInt32 = z := by
  simp only [Term.eval, Option.bind_eq_bind, ht, hc, Option.bind_some] at h
  by_cases hn : c.slots.size < 2147483648
  · rw [if_pos hn] at h
    exact ⟨hn, by simpa using h⟩
  · rw [if_neg hn] at h; cases h
theorem own_box {s : State} {args : Array Value} {t F : Term} {a : Addr} {c : Cell} {K d : String} (et : ∀ idx, t.eval args s none idx s = some (.ref a)) (A : Arr s s.heap a c (.object K)) (hl : (Term.length t).eval args s none [] s = some (.int 256))
    (h : (Cond.all t (.and (.exactly (.elem t (.index 0)) K) (.eq (.field (.elem t (.index 0)) K "value" d) F))).value args s none s [] = some true) :
    ∃ G, AI s s.heap a (.object K) 256 G ∧ ∀ j, j < 256 → ∃ r, G j = .ref r ∧ Exa s s.heap r K := by
  obtain ⟨q1, q2⟩ := own_len (et []) (A.fin (Vm.Alike.refl _)) hl
  have q3 : c.slots.size = 256 := by
    have := len_toInt q1; rw [q2] at this
    have e : (256 : Int32).toInt = 256 := by decide
    omega
  have key : ∀ j, j < 256 → ∃ r, c.slots[j]? = some (.ref r) ∧ Exa s s.heap r K := fun j hj => by
    have ej : (Int32.ofNat j).toInt = j := Int32.toInt_ofNat_small (by omega)
    have en : (Int32.ofNat j).toNatClampNeg = j := by simp [Int32.toNatClampNeg, ej]
    have nn : ¬ (Int32.ofNat j) < 0 := own_nn (by omega)
    have u := Cond.all_elim (et []) (A.fin (Vm.Alike.refl _)) h j (by omega)
    rw [← en] at u
    obtain ⟨u1, u2⟩ := and_e u
    obtain ⟨box, eb⟩ := exa_v u1
    have g := (elem_f (et _) (idx_at nn) (A.fin (Vm.Alike.refl _)) nn).symm.trans eb
    rw [en] at g
    exact ⟨box, g, exa_at eb u1⟩
  refine ⟨fun j => (c.slots[j]?).getD .null, ⟨c, A, q3, by decide, fun i hi => ?_⟩, fun j hj => ?_⟩
  · obtain ⟨r, g, -⟩ := key i hi
    simp [g]
  · obtain ⟨r, g, x⟩ := key j hj
    exact ⟨r, by simp [g], x⟩
theorem d1_0 : decode prog_32_method_1_code 0 = .ok (.aload_n 0, 1) := by decide +kernel
theorem d1_1 : decode prog_32_method_1_code 1 = .ok (.invokespecial 1, 3) := by decide +kernel
theorem d1_4 : decode prog_32_method_1_code 4 = .ok (.lload_n 1, 1) := by decide +kernel
theorem d1_5 : decode prog_32_method_1_code 5 = .ok (.lconst 0, 1) := by decide +kernel
theorem d1_6 : decode prog_32_method_1_code 6 = .ok (.lcmp, 1) := by decide +kernel
theorem d1_7 : decode prog_32_method_1_code 7 = .ok (.ifCond .lt 23, 3) := by decide +kernel
theorem d1_10 : decode prog_32_method_1_code 10 = .ok (.lload_n 3, 1) := by decide +kernel
theorem d1_11 : decode prog_32_method_1_code 11 = .ok (.lconst 0, 1) := by decide +kernel
theorem d1_12 : decode prog_32_method_1_code 12 = .ok (.lcmp, 1) := by decide +kernel
theorem d1_13 : decode prog_32_method_1_code 13 = .ok (.ifCond .lt 17, 3) := by decide +kernel
theorem d1_16 : decode prog_32_method_1_code 16 = .ok (.lload 5, 2) := by decide +kernel
theorem d1_18 : decode prog_32_method_1_code 18 = .ok (.lconst 0, 1) := by decide +kernel
theorem d1_19 : decode prog_32_method_1_code 19 = .ok (.lcmp, 1) := by decide +kernel
theorem d1_20 : decode prog_32_method_1_code 20 = .ok (.ifCond .lt 10, 3) := by decide +kernel
theorem d1_23 : decode prog_32_method_1_code 23 = .ok (.lload 7, 2) := by decide +kernel
theorem d1_25 : decode prog_32_method_1_code 25 = .ok (.lconst 0, 1) := by decide +kernel
theorem d1_26 : decode prog_32_method_1_code 26 = .ok (.lcmp, 1) := by decide +kernel
theorem d1_27 : decode prog_32_method_1_code 27 = .ok (.ifCond .ge 22, 3) := by decide +kernel
theorem d1_49 : decode prog_32_method_1_code 49 = .ok (.aload_n 0, 1) := by decide +kernel
theorem d1_50 : decode prog_32_method_1_code 50 = .ok (.lload_n 1, 1) := by decide +kernel
theorem d1_51 : decode prog_32_method_1_code 51 = .ok (.putfield 16, 3) := by decide +kernel
theorem d1_54 : decode prog_32_method_1_code 54 = .ok (.aload_n 0, 1) := by decide +kernel
theorem d1_55 : decode prog_32_method_1_code 55 = .ok (.lload_n 3, 1) := by decide +kernel
theorem d1_56 : decode prog_32_method_1_code 56 = .ok (.putfield 22, 3) := by decide +kernel
theorem d1_59 : decode prog_32_method_1_code 59 = .ok (.aload_n 0, 1) := by decide +kernel
theorem d1_60 : decode prog_32_method_1_code 60 = .ok (.lload 5, 2) := by decide +kernel
theorem d1_62 : decode prog_32_method_1_code 62 = .ok (.putfield 25, 3) := by decide +kernel
theorem d1_65 : decode prog_32_method_1_code 65 = .ok (.aload_n 0, 1) := by decide +kernel
theorem d1_66 : decode prog_32_method_1_code 66 = .ok (.lload 7, 2) := by decide +kernel
theorem d1_68 : decode prog_32_method_1_code 68 = .ok (.putfield 28, 3) := by decide +kernel
theorem d1_71 : decode prog_32_method_1_code 71 = .ok (.return_, 1) := by decide +kernel
abbrev Q1 (Z : State) (a : Addr) (p0 : Int64) (p1 : Int64) (p2 : Int64) (p3 : Int64)  (h0 : Heap) : Option Value → Heap → Prop := fun v h => v = none ∧ Keep h0 h [a] ∧ Fld Z h a "com/example/settle/settle/io/SegmentLog$Place" "segment" "J" (.long p0) ∧ Fld Z h a "com/example/settle/settle/io/SegmentLog$Place" "entry" "J" (.long p1) ∧ Fld Z h a "com/example/settle/settle/io/SegmentLog$Place" "position" "J" (.long p2) ∧ Fld Z h a "com/example/settle/settle/io/SegmentLog$Place" "offset" "J" (.long p3)
set_option maxRecDepth 65536 in
set_option maxHeartbeats 40000000 in
theorem rm1 {l : Launch} {Z : State} {a0 : Array Value} (hw : ∀ d ∈ tables_1, d.before a0 Z = true) (n0 : Nat) (a : Addr) (p0 : Int64) (p1 : Int64) (p2 : Int64) (p3 : Int64)  (h0 : Heap) (Fsegment : Fld Z h0 a "com/example/settle/settle/io/SegmentLog$Place" "segment" "J" (.long (0 : Int64))) (Fentry : Fld Z h0 a "com/example/settle/settle/io/SegmentLog$Place" "entry" "J" (.long (0 : Int64))) (Fposition : Fld Z h0 a "com/example/settle/settle/io/SegmentLog$Place" "position" "J" (.long (0 : Int64))) (Foffset : Fld Z h0 a "com/example/settle/settle/io/SegmentLog$Place" "offset" "J" (.long (0 : Int64))) (E : Exa Z h0 a "com/example/settle/settle/io/SegmentLog$Place") (g_a : n0 ≤ a) (hp0 : ¬ p0 < (0 : Int64)) (hp1 : ¬ p1 < (0 : Int64)) (hp2 : ¬ p2 < (0 : Int64)) (hp3 : ¬ p3 < (0 : Int64)) :
    Met l Z n0 (⟨"com/example/settle/settle/io/SegmentLog$Place", "<init>", "(JJJJ)V"⟩ : MethodName) prog_32_method_1_code 9 none [] ({ frames := 1, cells := 0, slots := 0, locals := 12 } : Room) #[(.ref a), (.long p0), (.long p1), (.long p2), (.long p3)] h0 (Q1 Z a p0 p1 p2 p3 h0) 0 0 := by
  refine Met.of pn0 (Ls := #[.val (.ref a), .val (.long p0), .second, .val (.long p1), .second, .val (.long p2), .second, .val (.long p3), .second]) rfl (fun k T0 X0 => ?_)
  have K0 : Keep h0 h0 [a] := Keep.refl _ _
  refine g_aloadN X0 d1_0 rfl rfl 1 rfl ?_
  refine g_initO X0 (w7 hw) (w8 hw) (w9 hw) rfl (by decide) (Nat.le_of_ble_eq_true rfl) d1_1 4 rfl (fun T1 X1 => ?_)
  refine g_lloadN X1 d1_4 rfl 5 rfl ?_
  refine g_lconst X1 (0 : Int64) d1_5 rfl 6 rfl ?_
  refine g_lcmp X1 d1_6 7 rfl ?_
  refine g_if X1 l_lt d1_7 30 (by decide) (by decide) 10 rfl (fun h2 => ?_) (fun h2 => ?_)
  · exact absurd h2 hp0
  · skip
    refine g_lloadN X1 d1_10 rfl 11 rfl ?_
    refine g_lconst X1 (0 : Int64) d1_11 rfl 12 rfl ?_
    refine g_lcmp X1 d1_12 13 rfl ?_
    refine g_if X1 l_lt d1_13 30 (by decide) (by decide) 16 rfl (fun h3 => ?_) (fun h3 => ?_)
    · exact absurd h3 hp1
    · skip
      refine g_lload X1 d1_16 rfl 18 rfl ?_
      refine g_lconst X1 (0 : Int64) d1_18 rfl 19 rfl ?_
      refine g_lcmp X1 d1_19 20 rfl ?_
      refine g_if X1 l_lt d1_20 30 (by decide) (by decide) 23 rfl (fun h4 => ?_) (fun h4 => ?_)
      · exact absurd h4 hp2
      · skip
        refine g_lload X1 d1_23 rfl 25 rfl ?_
        refine g_lconst X1 (0 : Int64) d1_25 rfl 26 rfl ?_
        refine g_lcmp X1 d1_26 27 rfl ?_
        refine g_ifN X1 l_ge d1_27 49 (by decide) (by decide) 30 rfl (fun h5 => ?_) (fun h5 => ?_)
        · exact absurd h5 hp3
        · skip
          refine g_aloadN X1 d1_49 rfl rfl 50 rfl ?_
          refine g_lloadN X1 d1_50 rfl 51 rfl ?_
          refine g_putFin X1 (w10 hw) Fsegment E (w11 hw) rfl rfl (w2 hw) g_a .long (by decide) rfl rfl d1_51 54 rfl (fun T6 h6 X6 W6 => ?_)
          have F6 := Fsegment.same W6
          have K7 : Keep h0 h6 [a] := K0.wr W6 (Or.inl (by simp))
          refine g_aloadN X6 d1_54 rfl rfl 55 rfl ?_
          refine g_lloadN X6 d1_55 rfl 56 rfl ?_
          have ft8 := (E.wr W6)
          have ft9 := (Fentry.other W6 (Or.inr (slot_ne (Or.inr (w13 hw)) (Or.inr (w11 hw)) (by decide) (t := .long) (t' := .long) (by decide) (by decide))))
          refine g_putFin X6 (w12 hw) ft9 ft8 (w13 hw) rfl rfl (w2 hw) g_a .long (by decide) rfl rfl d1_56 59 rfl (fun T10 h10 X10 W10 => ?_)
          have F10 := ft9.same W10
          have K11 : Keep h0 h10 [a] := K7.wr W10 (Or.inl (by simp))
          refine g_aloadN X10 d1_59 rfl rfl 60 rfl ?_
          refine g_lload X10 d1_60 rfl 62 rfl ?_
          have ft12 := (ft8.wr W10)
          have ft13 := ((Fposition.other W6 (Or.inr (slot_ne (Or.inr (w15 hw)) (Or.inr (w11 hw)) (by decide) (t := .long) (t' := .long) (by decide) (by decide)))).other W10 (Or.inr (slot_ne (Or.inr (w15 hw)) (Or.inr (w13 hw)) (by decide) (t := .long) (t' := .long) (by decide) (by decide))))
          refine g_putFin X10 (w14 hw) ft13 ft12 (w15 hw) rfl rfl (w2 hw) g_a .long (by decide) rfl rfl d1_62 65 rfl (fun T14 h14 X14 W14 => ?_)
          have F14 := ft13.same W14
          have K15 : Keep h0 h14 [a] := K11.wr W14 (Or.inl (by simp))
          refine g_aloadN X14 d1_65 rfl rfl 66 rfl ?_
          refine g_lload X14 d1_66 rfl 68 rfl ?_
          have ft16 := (ft12.wr W14)
          have ft17 := (((Foffset.other W6 (Or.inr (slot_ne (Or.inr (w17 hw)) (Or.inr (w11 hw)) (by decide) (t := .long) (t' := .long) (by decide) (by decide)))).other W10 (Or.inr (slot_ne (Or.inr (w17 hw)) (Or.inr (w13 hw)) (by decide) (t := .long) (t' := .long) (by decide) (by decide)))).other W14 (Or.inr (slot_ne (Or.inr (w17 hw)) (Or.inr (w15 hw)) (by decide) (t := .long) (t' := .long) (by decide) (by decide))))
          refine g_putFin X14 (w16 hw) ft17 ft16 (w17 hw) rfl rfl (w2 hw) g_a .long (by decide) rfl rfl d1_68 71 rfl (fun T18 h18 X18 W18 => ?_)
          have F18 := ft17.same W18
          have K19 : Keep h0 h18 [a] := K15.wr W18 (Or.inl (by simp))
          have ft20 := (((F6.other W10 (Or.inr (slot_ne (Or.inr (w11 hw)) (Or.inr (w13 hw)) (by decide) (t := .long) (t' := .long) (by decide) (by decide)))).other W14 (Or.inr (slot_ne (Or.inr (w11 hw)) (Or.inr (w15 hw)) (by decide) (t := .long) (t' := .long) (by decide) (by decide)))).other W18 (Or.inr (slot_ne (Or.inr (w11 hw)) (Or.inr (w17 hw)) (by decide) (t := .long) (t' := .long) (by decide) (by decide))))
          have ft21 := ((F10.other W14 (Or.inr (slot_ne (Or.inr (w13 hw)) (Or.inr (w15 hw)) (by decide) (t := .long) (t' := .long) (by decide) (by decide)))).other W18 (Or.inr (slot_ne (Or.inr (w13 hw)) (Or.inr (w17 hw)) (by decide) (t := .long) (t' := .long) (by decide) (by decide))))
          have ft22 := (F14.other W18 (Or.inr (slot_ne (Or.inr (w15 hw)) (Or.inr (w17 hw)) (by decide) (t := .long) (t' := .long) (by decide) (by decide))))
          exact g_ret X18 d1_71 (by decide) (by decide) ⟨rfl, K19, ft20, ft21, ft22, F18⟩
theorem d2_0 : decode jdk_18_method_1_code 0 = .ok (.aload_n 0, 1) := by decide +kernel
theorem d2_1 : decode jdk_18_method_1_code 1 = .ok (.invokespecial 1, 3) := by decide +kernel
theorem d2_4 : decode jdk_18_method_1_code 4 = .ok (.return_, 1) := by decide +kernel
abbrev Q2 (a : Addr)  (h0 : Heap) : Option Value → Heap → Prop := fun v h => v = none ∧ h0 = h
set_option maxRecDepth 65536 in
set_option maxHeartbeats 40000000 in
theorem rm2 {l : Launch} {Z : State} {a0 : Array Value} (hw : ∀ d ∈ tables_1, d.before a0 Z = true) (n0 : Nat) (a : Addr)  (h0 : Heap)  :
    Met l Z n0 (⟨"java/lang/Number", "<init>", "()V"⟩ : MethodName) jdk_18_method_1_code 1 none [] ({ frames := 1, cells := 0, slots := 0, locals := 12 } : Room) #[(.ref a)] h0 (Q2 a h0) 0 0 := by
  refine Met.of pn1 (Ls := #[.val (.ref a)]) rfl (fun k T0 X0 => ?_)
  refine g_aloadN X0 d2_0 rfl rfl 1 rfl ?_
  refine g_initO X0 (w47 hw) (w8 hw) (w9 hw) rfl (by decide) (Nat.le_of_ble_eq_true rfl) d2_1 4 rfl (fun T1 X1 => ?_)
  exact g_ret X1 d2_4 (by decide) (by decide) ⟨rfl, rfl⟩
theorem d3_0 : decode jdk_33_method_23_code 0 = .ok (.aload_n 0, 1) := by decide +kernel
theorem d3_1 : decode jdk_33_method_23_code 1 = .ok (.invokespecial 202, 3) := by decide +kernel
theorem d3_4 : decode jdk_33_method_23_code 4 = .ok (.aload_n 0, 1) := by decide +kernel
theorem d3_5 : decode jdk_33_method_23_code 5 = .ok (.iload_n 1, 1) := by decide +kernel
theorem d3_6 : decode jdk_33_method_23_code 6 = .ok (.putfield 205, 3) := by decide +kernel
theorem d3_9 : decode jdk_33_method_23_code 9 = .ok (.return_, 1) := by decide +kernel
abbrev Q3 (Z : State) (a : Addr) (p : Int32)  (h0 : Heap) : Option Value → Heap → Prop := fun v h => v = none ∧ Keep h0 h [a] ∧ Fld Z h a "java/lang/Integer" "value" "I" (.int p)
set_option maxRecDepth 65536 in
set_option maxHeartbeats 40000000 in
theorem rm3 {l : Launch} {Z : State} {a0 : Array Value} (hw : ∀ d ∈ tables_1, d.before a0 Z = true) (n0 : Nat) (a : Addr) (p : Int32)  (h0 : Heap) (Fvalue : Fld Z h0 a "java/lang/Integer" "value" "I" (.int (0 : Int32))) (E : Exa Z h0 a "java/lang/Integer") (g_a : n0 ≤ a) :
    Met l Z n0 (⟨"java/lang/Integer", "<init>", "(I)V"⟩ : MethodName) jdk_33_method_23_code 2 none [] ({ frames := 2, cells := 0, slots := 0, locals := 24 } : Room) #[(.ref a), (.int p)] h0 (Q3 Z a p h0) 0 0 := by
  refine Met.of pn2 (Ls := #[.val (.ref a), .val (.int p)]) rfl (fun k T0 X0 => ?_)
  have K0 : Keep h0 h0 [a] := Keep.refl _ _
  refine g_aloadN X0 d3_0 rfl rfl 1 rfl ?_
  refine g_callI X0 a [] [] (rm2 hw n0 a h0) rfl (w41 hw) (w42 hw) (w45 hw) (w46 hw) (by decide) pd0 rfl rfl (by decide) (Nat.le_of_ble_eq_true rfl) (by decide) (by decide) d3_1 rfl 4 rfl (fun v1 T1 h1 X1 q1 => ?_)
  obtain ⟨rfl, rfl⟩ := q1
  show Go k n0 (Q3 Z a p h0) 0 0 T1 4 #[.val (.ref a), .val (.int p)] []
  refine g_aloadN X1 d3_4 rfl rfl 5 rfl ?_
  refine g_iloadN X1 d3_5 rfl 6 rfl ?_
  refine g_putFin X1 (w48 hw) Fvalue E (w49 hw) rfl rfl (w36 hw) g_a .int (by decide) rfl rfl d3_6 9 rfl (fun T2 h2 X2 W2 => ?_)
  have F2 := Fvalue.same W2
  have K3 : Keep h0 h2 [a] := K0.wr W2 (Or.inl (by simp))
  exact g_ret X2 d3_9 (by decide) (by decide) ⟨rfl, K3, F2⟩
theorem d4_0 : decode jdk_33_method_22_code 0 = .ok (.iload_n 0, 1) := by decide +kernel
theorem d4_1 : decode jdk_33_method_22_code 1 = .ok (.bipush (-128), 2) := by decide +kernel
theorem d4_3 : decode jdk_33_method_22_code 3 = .ok (.if_icmp .lt 20, 3) := by decide +kernel
theorem d4_6 : decode jdk_33_method_22_code 6 = .ok (.iload_n 0, 1) := by decide +kernel
theorem d4_7 : decode jdk_33_method_22_code 7 = .ok (.getstatic 191, 3) := by decide +kernel
theorem d4_10 : decode jdk_33_method_22_code 10 = .ok (.if_icmp .gt 13, 3) := by decide +kernel
theorem d4_13 : decode jdk_33_method_22_code 13 = .ok (.getstatic 195, 3) := by decide +kernel
theorem d4_16 : decode jdk_33_method_22_code 16 = .ok (.iload_n 0, 1) := by decide +kernel
theorem d4_17 : decode jdk_33_method_22_code 17 = .ok (.sipush 128, 3) := by decide +kernel
theorem d4_20 : decode jdk_33_method_22_code 20 = .ok (.iadd, 1) := by decide +kernel
theorem d4_21 : decode jdk_33_method_22_code 21 = .ok (.aaload, 1) := by decide +kernel
theorem d4_22 : decode jdk_33_method_22_code 22 = .ok (.areturn, 1) := by decide +kernel
theorem d4_23 : decode jdk_33_method_22_code 23 = .ok (.new 1, 3) := by decide +kernel
theorem d4_26 : decode jdk_33_method_22_code 26 = .ok (.dup, 1) := by decide +kernel
theorem d4_27 : decode jdk_33_method_22_code 27 = .ok (.iload_n 0, 1) := by decide +kernel
theorem d4_28 : decode jdk_33_method_22_code 28 = .ok (.invokespecial 199, 3) := by decide +kernel
theorem d4_31 : decode jdk_33_method_22_code 31 = .ok (.areturn, 1) := by decide +kernel
abbrev Q4 (Z : State) (i : Int32) (ca : Addr) (G : Nat → Value) (h0 : Heap) : Option Value → Heap → Prop := fun v h => (∃ r, v = some (.ref r) ∧ Exa Z h r "java/lang/Integer") ∧ Keep h0 h []
set_option maxRecDepth 65536 in
set_option maxHeartbeats 40000000 in
theorem rm4 {l : Launch} {Z : State} {a0 : Array Value} (hw : ∀ d ∈ tables_1, d.before a0 Z = true) (n0 : Nat) (i : Int32) (ca : Addr) (G : Nat → Value) (h0 : Heap) (Z0 : n0 ≤ h0.size) (O : Old Z n0 h0) (SH0 : Sta Z Z.heap "java/lang/Integer$IntegerCache" "high" "I" (.int (127 : Int32))) (SC0 : Sta Z Z.heap "java/lang/Integer$IntegerCache" "cache" "[Ljava/lang/Integer;" (.ref ca)) (AC0 : AI Z Z.heap ca (.object "java/lang/Integer") 256 G) (hG : ∀ j, j < 256 → ∃ r, G j = .ref r ∧ Exa Z Z.heap r "java/lang/Integer") :
    Met l Z n0 (⟨"java/lang/Integer", "valueOf", "(I)Ljava/lang/Integer;"⟩ : MethodName) jdk_33_method_22_code 1 (some (.object "java/lang/Integer")) [] ({ frames := 3, cells := 1, slots := 1, locals := 38 } : Room) #[(.int i)] h0 (Q4 Z i ca G h0) 1 1 := by
  refine Met.of pn3 (Ls := #[.val (.int i)]) rfl (fun k T0 X0 => ?_)
  have K0 : Keep h0 h0 [] := Keep.refl _ _
  have SH := Sta.ext O.2 SH0
  have SC := Sta.ext O.2 SC0
  have AC := AI.ext AC0 O.2
  refine g_iloadN X0 d4_0 rfl 1 rfl ?_
  refine g_bipush X0 (-128 : Int32) d4_1 rfl 3 rfl ?_
  refine g_icmp X0 i_lt d4_3 23 (by decide) (by decide) 6 rfl (fun h1 => ?_) (fun h1 => ?_)
  · skip
    refine g_new X0 (w35 hw) (w36 hw) (w20 hw) d4_23 (by decide) (by decide) 26 rfl (fun T2 h2 b2 X2 g2 E2 A2 D2 => ?_)
    have ne3 : ca ≠ b2 := Nat.ne_of_lt (Nat.lt_of_lt_of_le AC.lt (Nat.le_of_eq g2.symm))
    have g_b2 : n0 ≤ b2 := Nat.le_trans Z0 (Nat.le_of_eq g2.symm)
    have s_b2 : h0.size ≤ b2 := Nat.le_trans K0.1 (Nat.le_of_eq g2.symm)
    have z4 : n0 ≤ h2.size := Nat.le_trans Z0 E2.1
    have F5 : Fld Z h2 b2 "java/lang/Integer" "value" "I" (.int (0 : Int32)) := D2 (Or.inr (w49 hw)) (ty := .int) (by decide)
    have K6 : Keep h0 h2 [] := K0.ext E2
    refine g_dup X2 d4_26 rfl 27 rfl ?_
    refine g_iloadN X2 d4_27 rfl 28 rfl ?_
    refine g_callI X2 b2 [(.int i)] [(.ref b2)] (rm3 hw n0 b2 i h2 F5 A2 g_b2) rfl (w37 hw) (w38 hw) (w20 hw) (w40 hw) (by decide) pd1 rfl rfl (by decide) (Nat.le_of_ble_eq_true rfl) (by decide) (by decide) d4_28 rfl 31 rfl (fun v7 T7 h7 X7 q7 => ?_)
    obtain ⟨rfl, K7, F7_0⟩ := q7
    have z8 : n0 ≤ h7.size := Nat.le_trans z4 K7.1
    have K9 : Keep h0 h7 [] := K6.trans K7 (allS (Or.inr s_b2) all0)
    show Go k n0 (Q4 Z i ca G h0) 1 1 T7 31 #[.val (.int i)] [(.ref b2)]
    have ft10 := (A2.keep K7)
    exact g_retA X7 rfl rfl rfl d4_31 (by decide) (by decide) ⟨⟨b2, rfl, ft10⟩, K9⟩
  · skip
    refine g_iloadN X0 d4_6 rfl 7 rfl ?_
    refine g_getS X0 (w22 hw) Via.refl SH d4_7 10 rfl (fun T11 X11 => ?_)
    refine g_icmp X11 i_gt d4_10 23 (by decide) (by decide) 13 rfl (fun h12 => ?_) (fun h12 => ?_)
    · skip
      refine g_new X11 (w35 hw) (w36 hw) (w20 hw) d4_23 (by decide) (by decide) 26 rfl (fun T13 h13 b13 X13 g13 E13 A13 D13 => ?_)
      have ne14 : ca ≠ b13 := Nat.ne_of_lt (Nat.lt_of_lt_of_le AC.lt (Nat.le_of_eq g13.symm))
      have g_b13 : n0 ≤ b13 := Nat.le_trans Z0 (Nat.le_of_eq g13.symm)
      have s_b13 : h0.size ≤ b13 := Nat.le_trans K0.1 (Nat.le_of_eq g13.symm)
      have z15 : n0 ≤ h13.size := Nat.le_trans Z0 E13.1
      have F16 : Fld Z h13 b13 "java/lang/Integer" "value" "I" (.int (0 : Int32)) := D13 (Or.inr (w49 hw)) (ty := .int) (by decide)
      have K17 : Keep h0 h13 [] := K0.ext E13
      refine g_dup X13 d4_26 rfl 27 rfl ?_
      refine g_iloadN X13 d4_27 rfl 28 rfl ?_
      refine g_callI X13 b13 [(.int i)] [(.ref b13)] (rm3 hw n0 b13 i h13 F16 A13 g_b13) rfl (w37 hw) (w38 hw) (w20 hw) (w40 hw) (by decide) pd1 rfl rfl (by decide) (Nat.le_of_ble_eq_true rfl) (by decide) (by decide) d4_28 rfl 31 rfl (fun v18 T18 h18 X18 q18 => ?_)
      obtain ⟨rfl, K18, F18_0⟩ := q18
      have z19 : n0 ≤ h18.size := Nat.le_trans z15 K18.1
      have K20 : Keep h0 h18 [] := K17.trans K18 (allS (Or.inr s_b13) all0)
      show Go k n0 (Q4 Z i ca G h0) 1 1 T18 31 #[.val (.int i)] [(.ref b13)]
      have ft21 := (A13.keep K18)
      exact g_retA X18 rfl rfl rfl d4_31 (by decide) (by decide) ⟨⟨b13, rfl, ft21⟩, K20⟩
    · skip
      refine g_getS X11 (w24 hw) Via.refl SC d4_13 16 rfl (fun T22 X22 => ?_)
      refine g_iloadN X22 d4_16 rfl 17 rfl ?_
      refine g_sipush X22 (128 : Int32) d4_17 rfl 20 rfl ?_
      refine g_iadd X22 d4_20 21 rfl ?_
      obtain ⟨j, hj1, hj2⟩ := own_cache h1 h12
      obtain ⟨r, hr, Er⟩ := hG j hj2
      refine g_aaload X22 AC rfl j hj1 hj2 (.ref r) hr d4_21 22 rfl ?_
      exact g_retA X22 rfl rfl rfl d4_22 (by decide) (by decide) ⟨⟨r, rfl, (Exa.ext O.2 Er)⟩, K0⟩
theorem d5_0 : decode prog_32_method_9_code 0 = .ok (.aload_n 1, 1) := by decide +kernel
theorem d5_1 : decode prog_32_method_9_code 1 = .ok (.instanceof 17, 3) := by decide +kernel
theorem d5_4 : decode prog_32_method_9_code 4 = .ok (.ifCond .eq 67, 3) := by decide +kernel
theorem d5_7 : decode prog_32_method_9_code 7 = .ok (.aload_n 0, 1) := by decide +kernel
theorem d5_8 : decode prog_32_method_9_code 8 = .ok (.getfield 16, 3) := by decide +kernel
theorem d5_11 : decode prog_32_method_9_code 11 = .ok (.aload_n 1, 1) := by decide +kernel
theorem d5_12 : decode prog_32_method_9_code 12 = .ok (.checkcast 17, 3) := by decide +kernel
theorem d5_15 : decode prog_32_method_9_code 15 = .ok (.getfield 16, 3) := by decide +kernel
theorem d5_18 : decode prog_32_method_9_code 18 = .ok (.lcmp, 1) := by decide +kernel
theorem d5_19 : decode prog_32_method_9_code 19 = .ok (.ifCond .ne 52, 3) := by decide +kernel
theorem d5_22 : decode prog_32_method_9_code 22 = .ok (.aload_n 0, 1) := by decide +kernel
theorem d5_23 : decode prog_32_method_9_code 23 = .ok (.getfield 22, 3) := by decide +kernel
theorem d5_26 : decode prog_32_method_9_code 26 = .ok (.aload_n 1, 1) := by decide +kernel
theorem d5_27 : decode prog_32_method_9_code 27 = .ok (.checkcast 17, 3) := by decide +kernel
theorem d5_30 : decode prog_32_method_9_code 30 = .ok (.getfield 22, 3) := by decide +kernel
theorem d5_33 : decode prog_32_method_9_code 33 = .ok (.lcmp, 1) := by decide +kernel
theorem d5_34 : decode prog_32_method_9_code 34 = .ok (.ifCond .ne 37, 3) := by decide +kernel
theorem d5_37 : decode prog_32_method_9_code 37 = .ok (.aload_n 0, 1) := by decide +kernel
theorem d5_38 : decode prog_32_method_9_code 38 = .ok (.getfield 25, 3) := by decide +kernel
theorem d5_41 : decode prog_32_method_9_code 41 = .ok (.aload_n 1, 1) := by decide +kernel
theorem d5_42 : decode prog_32_method_9_code 42 = .ok (.checkcast 17, 3) := by decide +kernel
theorem d5_45 : decode prog_32_method_9_code 45 = .ok (.getfield 25, 3) := by decide +kernel
theorem d5_48 : decode prog_32_method_9_code 48 = .ok (.lcmp, 1) := by decide +kernel
theorem d5_49 : decode prog_32_method_9_code 49 = .ok (.ifCond .ne 22, 3) := by decide +kernel
theorem d5_52 : decode prog_32_method_9_code 52 = .ok (.aload_n 0, 1) := by decide +kernel
theorem d5_53 : decode prog_32_method_9_code 53 = .ok (.getfield 28, 3) := by decide +kernel
theorem d5_56 : decode prog_32_method_9_code 56 = .ok (.aload_n 1, 1) := by decide +kernel
theorem d5_57 : decode prog_32_method_9_code 57 = .ok (.checkcast 17, 3) := by decide +kernel
theorem d5_60 : decode prog_32_method_9_code 60 = .ok (.getfield 28, 3) := by decide +kernel
theorem d5_63 : decode prog_32_method_9_code 63 = .ok (.lcmp, 1) := by decide +kernel
theorem d5_64 : decode prog_32_method_9_code 64 = .ok (.ifCond .ne 7, 3) := by decide +kernel
theorem d5_67 : decode prog_32_method_9_code 67 = .ok (.iconst 1, 1) := by decide +kernel
theorem d5_68 : decode prog_32_method_9_code 68 = .ok (.goto 4, 3) := by decide +kernel
theorem d5_71 : decode prog_32_method_9_code 71 = .ok (.iconst 0, 1) := by decide +kernel
theorem d5_72 : decode prog_32_method_9_code 72 = .ok (.ireturn, 1) := by decide +kernel
abbrev Q5 (a : Addr) (b : Addr) (a1 : Int64) (a2 : Int64) (a3 : Int64) (a4 : Int64) (b1 : Int64) (b2 : Int64) (b3 : Int64) (b4 : Int64) (h0 : Heap) : Option Value → Heap → Prop := fun v h => v = some (.int (fEq a1 a2 a3 a4 b1 b2 b3 b4)) ∧ h0 = h
set_option maxRecDepth 65536 in
set_option maxHeartbeats 40000000 in
theorem rm5 {l : Launch} {Z : State} {a0 : Array Value} (hw : ∀ d ∈ tables_1, d.before a0 Z = true) (n0 : Nat) (a : Addr) (b : Addr) (a1 : Int64) (a2 : Int64) (a3 : Int64) (a4 : Int64) (b1 : Int64) (b2 : Int64) (b3 : Int64) (b4 : Int64) (h0 : Heap) (Fa_segment : Fld Z h0 a "com/example/settle/settle/io/SegmentLog$Place" "segment" "J" (.long a1)) (Fa_entry : Fld Z h0 a "com/example/settle/settle/io/SegmentLog$Place" "entry" "J" (.long a2)) (Fa_position : Fld Z h0 a "com/example/settle/settle/io/SegmentLog$Place" "position" "J" (.long a3)) (Fa_offset : Fld Z h0 a "com/example/settle/settle/io/SegmentLog$Place" "offset" "J" (.long a4)) (Fb_segment : Fld Z h0 b "com/example/settle/settle/io/SegmentLog$Place" "segment" "J" (.long b1)) (Fb_entry : Fld Z h0 b "com/example/settle/settle/io/SegmentLog$Place" "entry" "J" (.long b2)) (Fb_position : Fld Z h0 b "com/example/settle/settle/io/SegmentLog$Place" "position" "J" (.long b3)) (Fb_offset : Fld Z h0 b "com/example/settle/settle/io/SegmentLog$Place" "offset" "J" (.long b4)) (Eb : Exa Z h0 b "com/example/settle/settle/io/SegmentLog$Place") :
    Met l Z n0 (⟨"com/example/settle/settle/io/SegmentLog$Place", "equals", "(Ljava/lang/Object;)Z"⟩ : MethodName) prog_32_method_9_code 2 (some .boolean) [] ({ frames := 0, cells := 0, slots := 0, locals := 0 } : Room) #[(.ref a), (.ref b)] h0 (Q5 a b a1 a2 a3 a4 b1 b2 b3 b4 h0) 0 0 := by
  refine Met.of pn4 (Ls := #[.val (.ref a), .val (.ref b)]) rfl (fun k T0 X0 => ?_)
  refine g_aloadN X0 d5_0 rfl rfl 1 rfl ?_
  refine g_inst1 X0 (w30 hw) (Ins.self Eb) d5_1 4 rfl (fun T1 X1 => ?_)
  refine g_if X1 z_eq d5_4 71 (by decide) (by decide) 7 rfl (fun h2 => ?_) (fun h2 => ?_)
  · exact absurd h2 (by decide)
  · skip
    refine g_aloadN X1 d5_7 rfl rfl 8 rfl ?_
    refine g_getF X1 (w10 hw) Via.refl Fa_segment d5_8 11 rfl (fun T3 X3 => ?_)
    refine g_aloadN X3 d5_11 rfl rfl 12 rfl ?_
    refine g_cast X3 (w30 hw) (Ins.self Eb) d5_12 15 rfl (fun T4 X4 => ?_)
    refine g_getF X4 (w10 hw) Via.refl Fb_segment d5_15 18 rfl (fun T5 X5 => ?_)
    refine g_lcmp X5 d5_18 19 rfl ?_
    refine g_ifN X5 l_ne d5_19 71 (by decide) (by decide) 22 rfl (fun h6 => ?_) (fun h6 => ?_)
    · skip
      refine g_aloadN X5 d5_22 rfl rfl 23 rfl ?_
      refine g_getF X5 (w12 hw) Via.refl Fa_entry d5_23 26 rfl (fun T7 X7 => ?_)
      refine g_aloadN X7 d5_26 rfl rfl 27 rfl ?_
      refine g_cast X7 (w30 hw) (Ins.self Eb) d5_27 30 rfl (fun T8 X8 => ?_)
      refine g_getF X8 (w12 hw) Via.refl Fb_entry d5_30 33 rfl (fun T9 X9 => ?_)
      refine g_lcmp X9 d5_33 34 rfl ?_
      refine g_ifN X9 l_ne d5_34 71 (by decide) (by decide) 37 rfl (fun h10 => ?_) (fun h10 => ?_)
      · skip
        refine g_aloadN X9 d5_37 rfl rfl 38 rfl ?_
        refine g_getF X9 (w14 hw) Via.refl Fa_position d5_38 41 rfl (fun T11 X11 => ?_)
        refine g_aloadN X11 d5_41 rfl rfl 42 rfl ?_
        refine g_cast X11 (w30 hw) (Ins.self Eb) d5_42 45 rfl (fun T12 X12 => ?_)
        refine g_getF X12 (w14 hw) Via.refl Fb_position d5_45 48 rfl (fun T13 X13 => ?_)
        refine g_lcmp X13 d5_48 49 rfl ?_
        refine g_ifN X13 l_ne d5_49 71 (by decide) (by decide) 52 rfl (fun h14 => ?_) (fun h14 => ?_)
        · skip
          refine g_aloadN X13 d5_52 rfl rfl 53 rfl ?_
          refine g_getF X13 (w16 hw) Via.refl Fa_offset d5_53 56 rfl (fun T15 X15 => ?_)
          refine g_aloadN X15 d5_56 rfl rfl 57 rfl ?_
          refine g_cast X15 (w30 hw) (Ins.self Eb) d5_57 60 rfl (fun T16 X16 => ?_)
          refine g_getF X16 (w16 hw) Via.refl Fb_offset d5_60 63 rfl (fun T17 X17 => ?_)
          refine g_lcmp X17 d5_63 64 rfl ?_
          refine g_ifN X17 l_ne d5_64 71 (by decide) (by decide) 67 rfl (fun h18 => ?_) (fun h18 => ?_)
          · skip
            refine g_iconst X17 (1 : Int32) d5_67 rfl 68 rfl ?_
            refine g_goto X17 d5_68 72 (by decide) (by decide) ?_
            exact g_retZ X17 d5_72 (by decide) (by decide) ⟨by simp [fEq, own_b0, own_b1, eq_true h6, eq_true h10, eq_true h14, eq_true h18], rfl⟩
          · skip
            refine g_iconst X17 (0 : Int32) d5_71 rfl 72 rfl ?_
            exact g_retZ X17 d5_72 (by decide) (by decide) ⟨by simp [fEq, own_b0, own_b1, eq_true h6, eq_true h10, eq_true h14, h18], rfl⟩
        · skip
          refine g_iconst X13 (0 : Int32) d5_71 rfl 72 rfl ?_
          exact g_retZ X13 d5_72 (by decide) (by decide) ⟨by simp [fEq, own_b0, own_b1, eq_true h6, eq_true h10, h14], rfl⟩
      · skip
        refine g_iconst X9 (0 : Int32) d5_71 rfl 72 rfl ?_
        exact g_retZ X9 d5_72 (by decide) (by decide) ⟨by simp [fEq, own_b0, own_b1, eq_true h6, h10], rfl⟩
    · skip
      refine g_iconst X5 (0 : Int32) d5_71 rfl 72 rfl ?_
      exact g_retZ X5 d5_72 (by decide) (by decide) ⟨by simp [fEq, own_b0, own_b1, h6], rfl⟩
theorem d6_0 : decode prog_32_method_9_code 0 = .ok (.aload_n 1, 1) := by decide +kernel
theorem d6_1 : decode prog_32_method_9_code 1 = .ok (.instanceof 17, 3) := by decide +kernel
theorem d6_4 : decode prog_32_method_9_code 4 = .ok (.ifCond .eq 67, 3) := by decide +kernel
theorem d6_71 : decode prog_32_method_9_code 71 = .ok (.iconst 0, 1) := by decide +kernel
theorem d6_72 : decode prog_32_method_9_code 72 = .ok (.ireturn, 1) := by decide +kernel
abbrev Q6 (a : Addr)  (h0 : Heap) : Option Value → Heap → Prop := fun v h => v = some (.int 0) ∧ h0 = h
set_option maxRecDepth 65536 in
set_option maxHeartbeats 40000000 in
theorem rm6 {l : Launch} {Z : State} {a0 : Array Value} (hw : ∀ d ∈ tables_1, d.before a0 Z = true) (n0 : Nat) (a : Addr)  (h0 : Heap)  :
    Met l Z n0 (⟨"com/example/settle/settle/io/SegmentLog$Place", "equals", "(Ljava/lang/Object;)Z"⟩ : MethodName) prog_32_method_9_code 2 (some .boolean) [] ({ frames := 0, cells := 0, slots := 0, locals := 0 } : Room) #[(.ref a), .null] h0 (Q6 a h0) 0 0 := by
  refine Met.of pn4 (Ls := #[.val (.ref a), .val .null]) rfl (fun k T0 X0 => ?_)
  refine g_aloadN X0 d6_0 rfl rfl 1 rfl ?_
  refine g_instN X0 d6_1 4 rfl ?_
  refine g_if X0 z_eq d6_4 71 (by decide) (by decide) 7 rfl (fun h2 => ?_) (fun h2 => ?_)
  · skip
    refine g_iconst X0 (0 : Int32) d6_71 rfl 72 rfl ?_
    exact g_retZ X0 d6_72 (by decide) (by decide) ⟨congrArg (fun z => some (Value.int z)) own_b0, rfl⟩
  · exact absurd (by decide) h2
theorem d7_0 : decode prog_32_method_9_code 0 = .ok (.aload_n 1, 1) := by decide +kernel
theorem d7_1 : decode prog_32_method_9_code 1 = .ok (.instanceof 17, 3) := by decide +kernel
theorem d7_4 : decode prog_32_method_9_code 4 = .ok (.ifCond .eq 67, 3) := by decide +kernel
theorem d7_71 : decode prog_32_method_9_code 71 = .ok (.iconst 0, 1) := by decide +kernel
theorem d7_72 : decode prog_32_method_9_code 72 = .ok (.ireturn, 1) := by decide +kernel
abbrev Q7 (a : Addr) (b : Addr)  (h0 : Heap) : Option Value → Heap → Prop := fun v h => v = some (.int 0) ∧ h0 = h
set_option maxRecDepth 65536 in
set_option maxHeartbeats 40000000 in
theorem rm7 {l : Launch} {Z : State} {a0 : Array Value} (hw : ∀ d ∈ tables_1, d.before a0 Z = true) (n0 : Nat) (a : Addr) (b : Addr)  (h0 : Heap) (Eb : Exa Z h0 b "java/lang/Integer") :
    Met l Z n0 (⟨"com/example/settle/settle/io/SegmentLog$Place", "equals", "(Ljava/lang/Object;)Z"⟩ : MethodName) prog_32_method_9_code 2 (some .boolean) [] ({ frames := 0, cells := 0, slots := 0, locals := 0 } : Room) #[(.ref a), (.ref b)] h0 (Q7 a b h0) 0 0 := by
  refine Met.of pn4 (Ls := #[.val (.ref a), .val (.ref b)]) rfl (fun k T0 X0 => ?_)
  refine g_aloadN X0 d7_0 rfl rfl 1 rfl ?_
  refine g_inst0 X0 (w30 hw) Eb (own_no hw) d7_1 4 rfl (fun T1 X1 => ?_)
  refine g_if X1 z_eq d7_4 71 (by decide) (by decide) 7 rfl (fun h2 => ?_) (fun h2 => ?_)
  · skip
    refine g_iconst X1 (0 : Int32) d7_71 rfl 72 rfl ?_
    exact g_retZ X1 d7_72 (by decide) (by decide) ⟨congrArg (fun z => some (Value.int z)) own_b0, rfl⟩
  · exact absurd (by decide) h2
abbrev Q0 (i0 : Int64) (i1 : Int64) (i2 : Int64) (i3 : Int64) (i4 : Int64) (ii : Int32) (ca : Addr) (G : Nat → Value) (h0 : Heap) : Option Value → Heap → Prop := fun v h => v = some (.int 1)
set_option maxRecDepth 65536 in
set_option maxHeartbeats 40000000 in
theorem rm0 {l : Launch} {Z : State} {a0 : Array Value} (hw : ∀ d ∈ tables_1, d.before a0 Z = true) (n0 : Nat) (i0 : Int64) (i1 : Int64) (i2 : Int64) (i3 : Int64) (i4 : Int64) (ii : Int32) (ca : Addr) (G : Nat → Value) (h0 : Heap) (Z0 : n0 ≤ h0.size) (O0 : Old Z n0 h0) (SH : Sta Z Z.heap "java/lang/Integer$IntegerCache" "high" "I" (.int (127 : Int32))) (SC : Sta Z Z.heap "java/lang/Integer$IntegerCache" "cache" "[Ljava/lang/Integer;" (.ref ca)) (AC : AI Z Z.heap ca (.object "java/lang/Integer") 256 G) (hG : ∀ j, j < 256 → ∃ r, G j = .ref r ∧ Exa Z Z.heap r "java/lang/Integer") :
    Met l Z n0 x code maxLocals ret tables_1 room_1 #[(.long i0), (.long i1), (.long i2), (.long i3), (.long i4), (.int ii)] h0 (Q0 i0 i1 i2 i3 i4 ii ca G h0) 16 128 := by
  refine Met.of pn5 (Ls := #[.val (.long i0), .second, .val (.long i1), .second, .val (.long i2), .second, .val (.long i3), .second, .val (.long i4), .second, .val (.int ii), .unset, .unset, .unset, .unset, .unset, .unset, .unset, .unset, .unset, .unset, .unset, .unset, .unset, .unset, .unset, .unset, .unset, .unset, .unset, .unset, .unset, .unset, .unset, .unset, .unset]) rfl (fun k T0 X0 => ?_)
  refine g_ldc2J X0 (w0 hw) at_0 3 rfl ?_
  refine g_lstore X0 at_3 #[.val (.long i0), .second, .val (.long i1), .second, .val (.long i2), .second, .val (.long i3), .second, .val (.long i4), .second, .val (.int ii), .val (.long (9223372036854775807 : Int64)), .second, .unset, .unset, .unset, .unset, .unset, .unset, .unset, .unset, .unset, .unset, .unset, .unset, .unset, .unset, .unset, .unset, .unset, .unset, .unset, .unset, .unset, .unset, .unset] rfl 5 rfl ?_
  refine g_lloadN X0 at_5 rfl 6 rfl ?_
  refine g_lload X0 at_6 rfl 8 rfl ?_
  refine g_land X0 at_8 9 rfl ?_
  refine g_lstore X0 at_9 #[.val (.long i0), .second, .val (.long i1), .second, .val (.long i2), .second, .val (.long i3), .second, .val (.long i4), .second, .val (.int ii), .val (.long (9223372036854775807 : Int64)), .second, .val (.long (i0 &&& (9223372036854775807 : Int64))), .second, .unset, .unset, .unset, .unset, .unset, .unset, .unset, .unset, .unset, .unset, .unset, .unset, .unset, .unset, .unset, .unset, .unset, .unset, .unset, .unset, .unset] rfl 11 rfl ?_
  generalize hv1 : (i0 &&& (9223372036854775807 : Int64)) = v1
  have ps2 : ¬ v1 < (0 : Int64) := own_pos hv1
  refine g_lloadN X0 at_11 rfl 12 rfl ?_
  refine g_lload X0 at_12 rfl 14 rfl ?_
  refine g_land X0 at_14 15 rfl ?_
  refine g_lstore X0 at_15 #[.val (.long i0), .second, .val (.long i1), .second, .val (.long i2), .second, .val (.long i3), .second, .val (.long i4), .second, .val (.int ii), .val (.long (9223372036854775807 : Int64)), .second, .val (.long v1), .second, .val (.long (i1 &&& (9223372036854775807 : Int64))), .second, .unset, .unset, .unset, .unset, .unset, .unset, .unset, .unset, .unset, .unset, .unset, .unset, .unset, .unset, .unset, .unset, .unset, .unset, .unset] rfl 17 rfl ?_
  generalize hv3 : (i1 &&& (9223372036854775807 : Int64)) = v3
  have ps4 : ¬ v3 < (0 : Int64) := own_pos hv3
  refine g_lload X0 at_17 rfl 19 rfl ?_
  refine g_lload X0 at_19 rfl 21 rfl ?_
  refine g_land X0 at_21 22 rfl ?_
  refine g_lstore X0 at_22 #[.val (.long i0), .second, .val (.long i1), .second, .val (.long i2), .second, .val (.long i3), .second, .val (.long i4), .second, .val (.int ii), .val (.long (9223372036854775807 : Int64)), .second, .val (.long v1), .second, .val (.long v3), .second, .val (.long (i2 &&& (9223372036854775807 : Int64))), .second, .unset, .unset, .unset, .unset, .unset, .unset, .unset, .unset, .unset, .unset, .unset, .unset, .unset, .unset, .unset, .unset, .unset] rfl 24 rfl ?_
  generalize hv5 : (i2 &&& (9223372036854775807 : Int64)) = v5
  have ps6 : ¬ v5 < (0 : Int64) := own_pos hv5
  refine g_lload X0 at_24 rfl 26 rfl ?_
  refine g_lload X0 at_26 rfl 28 rfl ?_
  refine g_land X0 at_28 29 rfl ?_
  refine g_lstore X0 at_29 #[.val (.long i0), .second, .val (.long i1), .second, .val (.long i2), .second, .val (.long i3), .second, .val (.long i4), .second, .val (.int ii), .val (.long (9223372036854775807 : Int64)), .second, .val (.long v1), .second, .val (.long v3), .second, .val (.long v5), .second, .val (.long (i3 &&& (9223372036854775807 : Int64))), .second, .unset, .unset, .unset, .unset, .unset, .unset, .unset, .unset, .unset, .unset, .unset, .unset, .unset, .unset, .unset] rfl 31 rfl ?_
  generalize hv7 : (i3 &&& (9223372036854775807 : Int64)) = v7
  have ps8 : ¬ v7 < (0 : Int64) := own_pos hv7
  refine g_lload X0 at_31 rfl 33 rfl ?_
  refine g_lload X0 at_33 rfl 35 rfl ?_
  refine g_land X0 at_35 36 rfl ?_
  refine g_lstore X0 at_36 #[.val (.long i0), .second, .val (.long i1), .second, .val (.long i2), .second, .val (.long i3), .second, .val (.long i4), .second, .val (.int ii), .val (.long (9223372036854775807 : Int64)), .second, .val (.long v1), .second, .val (.long v3), .second, .val (.long v5), .second, .val (.long v7), .second, .val (.long (i4 &&& (9223372036854775807 : Int64))), .second, .unset, .unset, .unset, .unset, .unset, .unset, .unset, .unset, .unset, .unset, .unset, .unset, .unset] rfl 38 rfl ?_
  generalize hv9 : (i4 &&& (9223372036854775807 : Int64)) = v9
  have ps10 : ¬ v9 < (0 : Int64) := own_pos hv9
  refine g_iload X0 at_38 rfl 40 rfl ?_
  refine g_iconst X0 (1 : Int32) at_40 rfl 41 rfl ?_
  refine g_iand X0 at_41 42 rfl ?_
  have k52_1 : ∀ (v11 : Int64), v11 = (if (ii &&& (1 : Int32)) = 0 then v1 else v9) → Go k n0 (Q0 i0 i1 i2 i3 i4 ii ca G h0) 16 128 T0 52 #[.val (.long i0), .second, .val (.long i1), .second, .val (.long i2), .second, .val (.long i3), .second, .val (.long i4), .second, .val (.int ii), .val (.long (9223372036854775807 : Int64)), .second, .val (.long v1), .second, .val (.long v3), .second, .val (.long v5), .second, .val (.long v7), .second, .val (.long v9), .second, .unset, .unset, .unset, .unset, .unset, .unset, .unset, .unset, .unset, .unset, .unset, .unset, .unset] [(.long v11)] := by
    intro v11 hv11
    refine g_lstore X0 at_52 #[.val (.long i0), .second, .val (.long i1), .second, .val (.long i2), .second, .val (.long i3), .second, .val (.long i4), .second, .val (.int ii), .val (.long (9223372036854775807 : Int64)), .second, .val (.long v1), .second, .val (.long v3), .second, .val (.long v5), .second, .val (.long v7), .second, .val (.long v9), .second, .val (.long v11), .second, .unset, .unset, .unset, .unset, .unset, .unset, .unset, .unset, .unset, .unset, .unset] rfl 54 rfl ?_
    have ps12 : ¬ v11 < (0 : Int64) := own_ite hv11 ps2 ps10
    refine g_iload X0 at_54 rfl 56 rfl ?_
    refine g_iconst X0 (2 : Int32) at_56 rfl 57 rfl ?_
    refine g_iand X0 at_57 58 rfl ?_
    have k68_2 : ∀ (v13 : Int64), v13 = (if (ii &&& (2 : Int32)) = 0 then v3 else v9) → Go k n0 (Q0 i0 i1 i2 i3 i4 ii ca G h0) 16 128 T0 68 #[.val (.long i0), .second, .val (.long i1), .second, .val (.long i2), .second, .val (.long i3), .second, .val (.long i4), .second, .val (.int ii), .val (.long (9223372036854775807 : Int64)), .second, .val (.long v1), .second, .val (.long v3), .second, .val (.long v5), .second, .val (.long v7), .second, .val (.long v9), .second, .val (.long v11), .second, .unset, .unset, .unset, .unset, .unset, .unset, .unset, .unset, .unset, .unset, .unset] [(.long v13)] := by
      intro v13 hv13
      refine g_lstore X0 at_68 #[.val (.long i0), .second, .val (.long i1), .second, .val (.long i2), .second, .val (.long i3), .second, .val (.long i4), .second, .val (.int ii), .val (.long (9223372036854775807 : Int64)), .second, .val (.long v1), .second, .val (.long v3), .second, .val (.long v5), .second, .val (.long v7), .second, .val (.long v9), .second, .val (.long v11), .second, .val (.long v13), .second, .unset, .unset, .unset, .unset, .unset, .unset, .unset, .unset, .unset] rfl 70 rfl ?_
      have ps14 : ¬ v13 < (0 : Int64) := own_ite hv13 ps4 ps10
      refine g_iload X0 at_70 rfl 72 rfl ?_
      refine g_iconst X0 (4 : Int32) at_72 rfl 73 rfl ?_
      refine g_iand X0 at_73 74 rfl ?_
      have k84_3 : ∀ (v15 : Int64), v15 = (if (ii &&& (4 : Int32)) = 0 then v5 else v9) → Go k n0 (Q0 i0 i1 i2 i3 i4 ii ca G h0) 16 128 T0 84 #[.val (.long i0), .second, .val (.long i1), .second, .val (.long i2), .second, .val (.long i3), .second, .val (.long i4), .second, .val (.int ii), .val (.long (9223372036854775807 : Int64)), .second, .val (.long v1), .second, .val (.long v3), .second, .val (.long v5), .second, .val (.long v7), .second, .val (.long v9), .second, .val (.long v11), .second, .val (.long v13), .second, .unset, .unset, .unset, .unset, .unset, .unset, .unset, .unset, .unset] [(.long v15)] := by
        intro v15 hv15
        refine g_lstore X0 at_84 #[.val (.long i0), .second, .val (.long i1), .second, .val (.long i2), .second, .val (.long i3), .second, .val (.long i4), .second, .val (.int ii), .val (.long (9223372036854775807 : Int64)), .second, .val (.long v1), .second, .val (.long v3), .second, .val (.long v5), .second, .val (.long v7), .second, .val (.long v9), .second, .val (.long v11), .second, .val (.long v13), .second, .val (.long v15), .second, .unset, .unset, .unset, .unset, .unset, .unset, .unset] rfl 86 rfl ?_
        have ps16 : ¬ v15 < (0 : Int64) := own_ite hv15 ps6 ps10
        refine g_iload X0 at_86 rfl 88 rfl ?_
        refine g_bipush X0 (8 : Int32) at_88 rfl 90 rfl ?_
        refine g_iand X0 at_90 91 rfl ?_
        have k101_4 : ∀ (v17 : Int64), v17 = (if (ii &&& (8 : Int32)) = 0 then v7 else v9) → Go k n0 (Q0 i0 i1 i2 i3 i4 ii ca G h0) 16 128 T0 101 #[.val (.long i0), .second, .val (.long i1), .second, .val (.long i2), .second, .val (.long i3), .second, .val (.long i4), .second, .val (.int ii), .val (.long (9223372036854775807 : Int64)), .second, .val (.long v1), .second, .val (.long v3), .second, .val (.long v5), .second, .val (.long v7), .second, .val (.long v9), .second, .val (.long v11), .second, .val (.long v13), .second, .val (.long v15), .second, .unset, .unset, .unset, .unset, .unset, .unset, .unset] [(.long v17)] := by
          intro v17 hv17
          refine g_lstore X0 at_101 #[.val (.long i0), .second, .val (.long i1), .second, .val (.long i2), .second, .val (.long i3), .second, .val (.long i4), .second, .val (.int ii), .val (.long (9223372036854775807 : Int64)), .second, .val (.long v1), .second, .val (.long v3), .second, .val (.long v5), .second, .val (.long v7), .second, .val (.long v9), .second, .val (.long v11), .second, .val (.long v13), .second, .val (.long v15), .second, .val (.long v17), .second, .unset, .unset, .unset, .unset, .unset] rfl 103 rfl ?_
          have ps18 : ¬ v17 < (0 : Int64) := own_ite hv17 ps8 ps10
          refine g_new X0 (w1 hw) (w2 hw) (w3 hw) at_103 (by decide) (by decide) 106 rfl (fun T19 h19 b19 X19 g19 E19 A19 D19 => ?_)
          have g_b19 : n0 ≤ b19 := Nat.le_trans Z0 (Nat.le_of_eq g19.symm)
          have z20 : n0 ≤ h19.size := Nat.le_trans Z0 E19.1
          have F21 : Fld Z h19 b19 "com/example/settle/settle/io/SegmentLog$Place" "segment" "J" (.long (0 : Int64)) := D19 (Or.inr (w11 hw)) (ty := .long) (by decide)
          have F22 : Fld Z h19 b19 "com/example/settle/settle/io/SegmentLog$Place" "entry" "J" (.long (0 : Int64)) := D19 (Or.inr (w13 hw)) (ty := .long) (by decide)
          have F23 : Fld Z h19 b19 "com/example/settle/settle/io/SegmentLog$Place" "position" "J" (.long (0 : Int64)) := D19 (Or.inr (w15 hw)) (ty := .long) (by decide)
          have F24 : Fld Z h19 b19 "com/example/settle/settle/io/SegmentLog$Place" "offset" "J" (.long (0 : Int64)) := D19 (Or.inr (w17 hw)) (ty := .long) (by decide)
          refine g_dup X19 at_106 rfl 107 rfl ?_
          refine g_lload X19 at_107 rfl 109 rfl ?_
          refine g_lload X19 at_109 rfl 111 rfl ?_
          refine g_lload X19 at_111 rfl 113 rfl ?_
          refine g_lload X19 at_113 rfl 115 rfl ?_
          refine g_callI X19 b19 [(.long v1), (.long v3), (.long v5), (.long v7)] [(.ref b19)] (rm1 hw n0 b19 v1 v3 v5 v7 h19 F21 F22 F23 F24 A19 g_b19 ps2 ps4 ps6 ps8) rfl (w4 hw) (w5 hw) (w3 hw) (w6 hw) (by decide) pd2 rfl rfl (by decide) (Nat.le_of_ble_eq_true rfl) (by decide) (by decide) at_115 rfl 118 rfl (fun v25 T25 h25 X25 q25 => ?_)
          obtain ⟨rfl, K25, F25_0, F25_1, F25_2, F25_3⟩ := q25
          have z26 : n0 ≤ h25.size := Nat.le_trans z20 K25.1
          show Go k n0 (Q0 i0 i1 i2 i3 i4 ii ca G h0) 16 128 T25 118 #[.val (.long i0), .second, .val (.long i1), .second, .val (.long i2), .second, .val (.long i3), .second, .val (.long i4), .second, .val (.int ii), .val (.long (9223372036854775807 : Int64)), .second, .val (.long v1), .second, .val (.long v3), .second, .val (.long v5), .second, .val (.long v7), .second, .val (.long v9), .second, .val (.long v11), .second, .val (.long v13), .second, .val (.long v15), .second, .val (.long v17), .second, .unset, .unset, .unset, .unset, .unset] [(.ref b19)]
          refine g_astore X25 at_118 rfl #[.val (.long i0), .second, .val (.long i1), .second, .val (.long i2), .second, .val (.long i3), .second, .val (.long i4), .second, .val (.int ii), .val (.long (9223372036854775807 : Int64)), .second, .val (.long v1), .second, .val (.long v3), .second, .val (.long v5), .second, .val (.long v7), .second, .val (.long v9), .second, .val (.long v11), .second, .val (.long v13), .second, .val (.long v15), .second, .val (.long v17), .second, .val (.ref b19), .unset, .unset, .unset, .unset] rfl 120 rfl ?_
          refine g_new X25 (w1 hw) (w2 hw) (w3 hw) at_120 (by decide) (by decide) 123 rfl (fun T27 h27 b27 X27 g27 E27 A27 D27 => ?_)
          have ft28 := (A19.keep K25)
          have ne29 : b19 ≠ b27 := Nat.ne_of_lt (Nat.lt_of_lt_of_le ft28.lt (Nat.le_of_eq g27.symm))
          have g_b27 : n0 ≤ b27 := Nat.le_trans z26 (Nat.le_of_eq g27.symm)
          have z30 : n0 ≤ h27.size := Nat.le_trans z26 E27.1
          have F31 : Fld Z h27 b27 "com/example/settle/settle/io/SegmentLog$Place" "segment" "J" (.long (0 : Int64)) := D27 (Or.inr (w11 hw)) (ty := .long) (by decide)
          have F32 : Fld Z h27 b27 "com/example/settle/settle/io/SegmentLog$Place" "entry" "J" (.long (0 : Int64)) := D27 (Or.inr (w13 hw)) (ty := .long) (by decide)
          have F33 : Fld Z h27 b27 "com/example/settle/settle/io/SegmentLog$Place" "position" "J" (.long (0 : Int64)) := D27 (Or.inr (w15 hw)) (ty := .long) (by decide)
          have F34 : Fld Z h27 b27 "com/example/settle/settle/io/SegmentLog$Place" "offset" "J" (.long (0 : Int64)) := D27 (Or.inr (w17 hw)) (ty := .long) (by decide)
          refine g_dup X27 at_123 rfl 124 rfl ?_
          refine g_lload X27 at_124 rfl 126 rfl ?_
          refine g_lload X27 at_126 rfl 128 rfl ?_
          refine g_lload X27 at_128 rfl 130 rfl ?_
          refine g_lload X27 at_130 rfl 132 rfl ?_
          refine g_callI X27 b27 [(.long v11), (.long v13), (.long v15), (.long v17)] [(.ref b27)] (rm1 hw n0 b27 v11 v13 v15 v17 h27 F31 F32 F33 F34 A27 g_b27 ps12 ps14 ps16 ps18) rfl (w4 hw) (w5 hw) (w3 hw) (w6 hw) (by decide) pd2 rfl rfl (by decide) (Nat.le_of_ble_eq_true rfl) (by decide) (by decide) at_132 rfl 135 rfl (fun v35 T35 h35 X35 q35 => ?_)
          obtain ⟨rfl, K35, F35_0, F35_1, F35_2, F35_3⟩ := q35
          have z36 : n0 ≤ h35.size := Nat.le_trans z30 K35.1
          show Go k n0 (Q0 i0 i1 i2 i3 i4 ii ca G h0) 16 128 T35 135 #[.val (.long i0), .second, .val (.long i1), .second, .val (.long i2), .second, .val (.long i3), .second, .val (.long i4), .second, .val (.int ii), .val (.long (9223372036854775807 : Int64)), .second, .val (.long v1), .second, .val (.long v3), .second, .val (.long v5), .second, .val (.long v7), .second, .val (.long v9), .second, .val (.long v11), .second, .val (.long v13), .second, .val (.long v15), .second, .val (.long v17), .second, .val (.ref b19), .unset, .unset, .unset, .unset] [(.ref b27)]
          refine g_astore X35 at_135 rfl #[.val (.long i0), .second, .val (.long i1), .second, .val (.long i2), .second, .val (.long i3), .second, .val (.long i4), .second, .val (.int ii), .val (.long (9223372036854775807 : Int64)), .second, .val (.long v1), .second, .val (.long v3), .second, .val (.long v5), .second, .val (.long v7), .second, .val (.long v9), .second, .val (.long v11), .second, .val (.long v13), .second, .val (.long v15), .second, .val (.long v17), .second, .val (.ref b19), .val (.ref b27), .unset, .unset, .unset] rfl 137 rfl ?_
          refine g_lload X35 at_137 rfl 139 rfl ?_
          refine g_lload X35 at_139 rfl 141 rfl ?_
          refine g_lcmp X35 at_141 142 rfl ?_
          have k174_5 : ∀ (v37 : Int32), v37 = (if v1 = v11 then (if v3 = v13 then (if v5 = v15 then (if v7 = v17 then (1 : Int32) else (0 : Int32)) else (0 : Int32)) else (0 : Int32)) else (0 : Int32)) → Go k n0 (Q0 i0 i1 i2 i3 i4 ii ca G h0) 16 128 T35 174 #[.val (.long i0), .second, .val (.long i1), .second, .val (.long i2), .second, .val (.long i3), .second, .val (.long i4), .second, .val (.int ii), .val (.long (9223372036854775807 : Int64)), .second, .val (.long v1), .second, .val (.long v3), .second, .val (.long v5), .second, .val (.long v7), .second, .val (.long v9), .second, .val (.long v11), .second, .val (.long v13), .second, .val (.long v15), .second, .val (.long v17), .second, .val (.ref b19), .val (.ref b27), .unset, .unset, .unset] [(.int v37)] := by
            intro v37 hv37
            refine g_istore X35 at_174 #[.val (.long i0), .second, .val (.long i1), .second, .val (.long i2), .second, .val (.long i3), .second, .val (.long i4), .second, .val (.int ii), .val (.long (9223372036854775807 : Int64)), .second, .val (.long v1), .second, .val (.long v3), .second, .val (.long v5), .second, .val (.long v7), .second, .val (.long v9), .second, .val (.long v11), .second, .val (.long v13), .second, .val (.long v15), .second, .val (.long v17), .second, .val (.ref b19), .val (.ref b27), .val (.int v37), .unset, .unset] rfl 176 rfl ?_
            refine g_null X35 at_176 177 rfl ?_
            refine g_astore X35 at_177 rfl #[.val (.long i0), .second, .val (.long i1), .second, .val (.long i2), .second, .val (.long i3), .second, .val (.long i4), .second, .val (.int ii), .val (.long (9223372036854775807 : Int64)), .second, .val (.long v1), .second, .val (.long v3), .second, .val (.long v5), .second, .val (.long v7), .second, .val (.long v9), .second, .val (.long v11), .second, .val (.long v13), .second, .val (.long v15), .second, .val (.long v17), .second, .val (.ref b19), .val (.ref b27), .val (.int v37), .val .null, .unset] rfl 179 rfl ?_
            refine g_iload X35 at_179 rfl 181 rfl ?_
            refine g_callS X35 [(.int ii)] [] (rm4 hw n0 ii ca G h35 z36 ((((O0.ext E19).keep K25 (allS g_b19 all0)).ext E27).keep K35 (allS g_b27 all0)) SH SC AC hG) (w18 hw) (w19 hw) (w20 hw) (w21 hw) (by decide) pd3 rfl rfl (by decide) (Nat.le_of_ble_eq_true rfl) (by decide) (by decide) at_181 rfl 184 rfl (fun v38 T38 h38 X38 q38 => ?_)
            obtain ⟨⟨o38, rfl, Eo38⟩, K38⟩ := q38
            have z39 : n0 ≤ h38.size := Nat.le_trans z36 K38.1
            show Go k n0 (Q0 i0 i1 i2 i3 i4 ii ca G h0) 16 128 T38 184 #[.val (.long i0), .second, .val (.long i1), .second, .val (.long i2), .second, .val (.long i3), .second, .val (.long i4), .second, .val (.int ii), .val (.long (9223372036854775807 : Int64)), .second, .val (.long v1), .second, .val (.long v3), .second, .val (.long v5), .second, .val (.long v7), .second, .val (.long v9), .second, .val (.long v11), .second, .val (.long v13), .second, .val (.long v15), .second, .val (.long v17), .second, .val (.ref b19), .val (.ref b27), .val (.int v37), .val .null, .unset] [(.ref o38)]
            refine g_astore X38 at_184 rfl #[.val (.long i0), .second, .val (.long i1), .second, .val (.long i2), .second, .val (.long i3), .second, .val (.long i4), .second, .val (.int ii), .val (.long (9223372036854775807 : Int64)), .second, .val (.long v1), .second, .val (.long v3), .second, .val (.long v5), .second, .val (.long v7), .second, .val (.long v9), .second, .val (.long v11), .second, .val (.long v13), .second, .val (.long v15), .second, .val (.long v17), .second, .val (.ref b19), .val (.ref b27), .val (.int v37), .val .null, .val (.ref o38)] rfl 186 rfl ?_
            refine g_aload X38 at_186 rfl rfl 188 rfl ?_
            refine g_aload X38 at_188 rfl rfl 190 rfl ?_
            have ft40 := ((A27.keep K35).keep K38)
            have ft41 := (((F25_0.ext E27).keep K35 (ninS ne29 nin0)).keep K38 nin0)
            have ft42 := (((F25_1.ext E27).keep K35 (ninS ne29 nin0)).keep K38 nin0)
            have ft43 := (((F25_2.ext E27).keep K35 (ninS ne29 nin0)).keep K38 nin0)
            have ft44 := (((F25_3.ext E27).keep K35 (ninS ne29 nin0)).keep K38 nin0)
            have ft45 := (F35_0.keep K38 nin0)
            have ft46 := (F35_1.keep K38 nin0)
            have ft47 := (F35_2.keep K38 nin0)
            have ft48 := (F35_3.keep K38 nin0)
            have ft50 := (((ft28.ext E27).keep K35).keep K38)
            refine g_callV X38 b19 [(.ref b27)] [] (rm5 hw n0 b19 b27 v1 v3 v5 v7 v11 v13 v15 v17 h38 ft41 ft42 ft43 ft44 ft45 ft46 ft47 ft48 ft40) ft50 (w25 hw) (w26 hw) (w28 hw) (w27 hw) (w3 hw) (w29 hw) (by decide) pd4 rfl rfl (by decide) (Nat.le_of_ble_eq_true rfl) (by decide) (by decide) at_190 rfl 193 rfl (fun v49 T49 h49 X49 q49 => ?_)
            obtain ⟨rfl, rfl⟩ := q49
            show Go k n0 (Q0 i0 i1 i2 i3 i4 ii ca G h0) 16 128 T49 193 #[.val (.long i0), .second, .val (.long i1), .second, .val (.long i2), .second, .val (.long i3), .second, .val (.long i4), .second, .val (.int ii), .val (.long (9223372036854775807 : Int64)), .second, .val (.long v1), .second, .val (.long v3), .second, .val (.long v5), .second, .val (.long v7), .second, .val (.long v9), .second, .val (.long v11), .second, .val (.long v13), .second, .val (.long v15), .second, .val (.long v17), .second, .val (.ref b19), .val (.ref b27), .val (.int v37), .val .null, .val (.ref o38)] [(.int (fEq v1 v3 v5 v7 v11 v13 v15 v17))]
            refine g_iload X49 at_193 rfl 195 rfl ?_
            refine g_icmpN X49 i_ne at_195 244 (by decide) (by decide) 198 rfl (fun h51 => ?_) (fun h51 => ?_)
            · skip
              refine g_aload X49 at_198 rfl rfl 200 rfl ?_
              refine g_aload X49 at_200 rfl rfl 202 rfl ?_
              refine g_callV X49 b27 [(.ref b19)] [] (rm5 hw n0 b27 b19 v11 v13 v15 v17 v1 v3 v5 v7 h38 ft45 ft46 ft47 ft48 ft41 ft42 ft43 ft44 ft50) ft40 (w25 hw) (w26 hw) (w28 hw) (w27 hw) (w3 hw) (w29 hw) (by decide) pd4 rfl rfl (by decide) (Nat.le_of_ble_eq_true rfl) (by decide) (by decide) at_202 rfl 205 rfl (fun v52 T52 h52 X52 q52 => ?_)
              obtain ⟨rfl, rfl⟩ := q52
              show Go k n0 (Q0 i0 i1 i2 i3 i4 ii ca G h0) 16 128 T52 205 #[.val (.long i0), .second, .val (.long i1), .second, .val (.long i2), .second, .val (.long i3), .second, .val (.long i4), .second, .val (.int ii), .val (.long (9223372036854775807 : Int64)), .second, .val (.long v1), .second, .val (.long v3), .second, .val (.long v5), .second, .val (.long v7), .second, .val (.long v9), .second, .val (.long v11), .second, .val (.long v13), .second, .val (.long v15), .second, .val (.long v17), .second, .val (.ref b19), .val (.ref b27), .val (.int v37), .val .null, .val (.ref o38)] [(.int (fEq v11 v13 v15 v17 v1 v3 v5 v7))]
              refine g_iload X52 at_205 rfl 207 rfl ?_
              refine g_icmpN X52 i_ne at_207 244 (by decide) (by decide) 210 rfl (fun h53 => ?_) (fun h53 => ?_)
              · skip
                refine g_aload X52 at_210 rfl rfl 212 rfl ?_
                refine g_aload X52 at_212 rfl rfl 214 rfl ?_
                refine g_callV X52 b19 [(.ref b19)] [] (rm5 hw n0 b19 b19 v1 v3 v5 v7 v1 v3 v5 v7 h38 ft41 ft42 ft43 ft44 ft41 ft42 ft43 ft44 ft50) ft50 (w25 hw) (w26 hw) (w28 hw) (w27 hw) (w3 hw) (w29 hw) (by decide) pd4 rfl rfl (by decide) (Nat.le_of_ble_eq_true rfl) (by decide) (by decide) at_214 rfl 217 rfl (fun v54 T54 h54 X54 q54 => ?_)
                obtain ⟨rfl, rfl⟩ := q54
                show Go k n0 (Q0 i0 i1 i2 i3 i4 ii ca G h0) 16 128 T54 217 #[.val (.long i0), .second, .val (.long i1), .second, .val (.long i2), .second, .val (.long i3), .second, .val (.long i4), .second, .val (.int ii), .val (.long (9223372036854775807 : Int64)), .second, .val (.long v1), .second, .val (.long v3), .second, .val (.long v5), .second, .val (.long v7), .second, .val (.long v9), .second, .val (.long v11), .second, .val (.long v13), .second, .val (.long v15), .second, .val (.long v17), .second, .val (.ref b19), .val (.ref b27), .val (.int v37), .val .null, .val (.ref o38)] [(.int (fEq v1 v3 v5 v7 v1 v3 v5 v7))]
                refine g_if X54 z_eq at_217 244 (by decide) (by decide) 220 rfl (fun h55 => ?_) (fun h55 => ?_)
                · skip
                  refine g_iconst X54 (0 : Int32) at_244 rfl 245 rfl ?_
                  exact g_retZ X54 at_245 (by decide) (by decide) (absurd h55 own_refl)
                · skip
                  refine g_aload X54 at_220 rfl rfl 222 rfl ?_
                  refine g_aload X54 at_222 rfl rfl 224 rfl ?_
                  refine g_callV X54 b19 [.null] [] (rm6 hw n0 b19 h38) ft50 (w25 hw) (w26 hw) (w28 hw) (w27 hw) (w3 hw) (w29 hw) (by decide) pd4 rfl rfl (by decide) (Nat.le_of_ble_eq_true rfl) (by decide) (by decide) at_224 rfl 227 rfl (fun v56 T56 h56 X56 q56 => ?_)
                  obtain ⟨rfl, rfl⟩ := q56
                  show Go k n0 (Q0 i0 i1 i2 i3 i4 ii ca G h0) 16 128 T56 227 #[.val (.long i0), .second, .val (.long i1), .second, .val (.long i2), .second, .val (.long i3), .second, .val (.long i4), .second, .val (.int ii), .val (.long (9223372036854775807 : Int64)), .second, .val (.long v1), .second, .val (.long v3), .second, .val (.long v5), .second, .val (.long v7), .second, .val (.long v9), .second, .val (.long v11), .second, .val (.long v13), .second, .val (.long v15), .second, .val (.long v17), .second, .val (.ref b19), .val (.ref b27), .val (.int v37), .val .null, .val (.ref o38)] [(.int (0 : Int32))]
                  refine g_ifN X56 z_ne at_227 244 (by decide) (by decide) 230 rfl (fun h57 => ?_) (fun h57 => ?_)
                  · skip
                    refine g_aload X56 at_230 rfl rfl 232 rfl ?_
                    refine g_aload X56 at_232 rfl rfl 234 rfl ?_
                    refine g_callV X56 b19 [(.ref o38)] [] (rm7 hw n0 b19 o38 h38 Eo38) ft50 (w25 hw) (w26 hw) (w28 hw) (w27 hw) (w3 hw) (w29 hw) (by decide) pd4 rfl rfl (by decide) (Nat.le_of_ble_eq_true rfl) (by decide) (by decide) at_234 rfl 237 rfl (fun v58 T58 h58 X58 q58 => ?_)
                    obtain ⟨rfl, rfl⟩ := q58
                    show Go k n0 (Q0 i0 i1 i2 i3 i4 ii ca G h0) 16 128 T58 237 #[.val (.long i0), .second, .val (.long i1), .second, .val (.long i2), .second, .val (.long i3), .second, .val (.long i4), .second, .val (.int ii), .val (.long (9223372036854775807 : Int64)), .second, .val (.long v1), .second, .val (.long v3), .second, .val (.long v5), .second, .val (.long v7), .second, .val (.long v9), .second, .val (.long v11), .second, .val (.long v13), .second, .val (.long v15), .second, .val (.long v17), .second, .val (.ref b19), .val (.ref b27), .val (.int v37), .val .null, .val (.ref o38)] [(.int (0 : Int32))]
                    refine g_ifN X58 z_ne at_237 244 (by decide) (by decide) 240 rfl (fun h59 => ?_) (fun h59 => ?_)
                    · skip
                      refine g_iconst X58 (1 : Int32) at_240 rfl 241 rfl ?_
                      refine g_goto X58 at_241 245 (by decide) (by decide) ?_
                      exact g_retZ X58 at_245 (by decide) (by decide) own_one
                    · exact absurd (by decide) h59
                  · exact absurd (by decide) h57
              · skip
                refine g_iconst X52 (0 : Int32) at_244 rfl 245 rfl ?_
                exact g_retZ X52 at_245 (by decide) (by decide) (absurd (own_eq2 hv37) h53)
            · skip
              refine g_iconst X49 (0 : Int32) at_244 rfl 245 rfl ?_
              exact g_retZ X49 at_245 (by decide) (by decide) (absurd (own_eq hv37) h51)
          refine g_ifN X35 l_ne at_142 173 (by decide) (by decide) 145 rfl (fun h60 => ?_) (fun h60 => ?_)
          · skip
            refine g_lload X35 at_145 rfl 147 rfl ?_
            refine g_lload X35 at_147 rfl 149 rfl ?_
            refine g_lcmp X35 at_149 150 rfl ?_
            refine g_ifN X35 l_ne at_150 173 (by decide) (by decide) 153 rfl (fun h61 => ?_) (fun h61 => ?_)
            · skip
              refine g_lload X35 at_153 rfl 155 rfl ?_
              refine g_lload X35 at_155 rfl 157 rfl ?_
              refine g_lcmp X35 at_157 158 rfl ?_
              refine g_ifN X35 l_ne at_158 173 (by decide) (by decide) 161 rfl (fun h62 => ?_) (fun h62 => ?_)
              · skip
                refine g_lload X35 at_161 rfl 163 rfl ?_
                refine g_lload X35 at_163 rfl 165 rfl ?_
                refine g_lcmp X35 at_165 166 rfl ?_
                refine g_ifN X35 l_ne at_166 173 (by decide) (by decide) 169 rfl (fun h63 => ?_) (fun h63 => ?_)
                · skip
                  refine g_iconst X35 (1 : Int32) at_169 rfl 170 rfl ?_
                  refine g_goto X35 at_170 174 (by decide) (by decide) ?_
                  exact k174_5 ((1 : Int32)) (by first | (simp only [if_pos h60, if_pos h61, if_pos h62, if_pos h63]; done) | (simp only [if_pos h60, if_pos h61, if_pos h62, if_pos h63]; done) | (simp only [apply_ite Int32.toInt64, if_pos h60, if_pos h61, if_pos h62, if_pos h63]; done) | (simp only [h60, h61, h62, h63, if_true, if_false, true_or, or_true, true_and, and_true, not_true_eq_false, not_false_eq_true, false_or, or_false, false_and, and_false]; done) | (simp only [h60, h61, h62, h63, hv1, hv3, hv5, hv7, hv9, hv11, hv13, hv15, hv17, if_true, if_false, true_or, or_true, true_and, and_true, not_true_eq_false, not_false_eq_true, false_or, or_false, false_and, and_false]; done))
                · skip
                  refine g_iconst X35 (0 : Int32) at_173 rfl 174 rfl ?_
                  exact k174_5 ((0 : Int32)) (by first | (simp only [if_pos h60, if_pos h61, if_pos h62, if_neg h63]; done) | (simp only [if_pos h60, if_pos h61, if_pos h62, if_neg h63]; done) | (simp only [apply_ite Int32.toInt64, if_pos h60, if_pos h61, if_pos h62, if_neg h63]; done) | (simp only [h60, h61, h62, h63, if_true, if_false, true_or, or_true, true_and, and_true, not_true_eq_false, not_false_eq_true, false_or, or_false, false_and, and_false]; done) | (simp only [h60, h61, h62, h63, hv1, hv3, hv5, hv7, hv9, hv11, hv13, hv15, hv17, if_true, if_false, true_or, or_true, true_and, and_true, not_true_eq_false, not_false_eq_true, false_or, or_false, false_and, and_false]; done))
              · skip
                refine g_iconst X35 (0 : Int32) at_173 rfl 174 rfl ?_
                exact k174_5 ((0 : Int32)) (by first | (simp only [if_pos h60, if_pos h61, if_neg h62]; done) | (simp only [if_pos h60, if_pos h61, if_neg h62]; done) | (simp only [apply_ite Int32.toInt64, if_pos h60, if_pos h61, if_neg h62]; done) | (simp only [h60, h61, h62, if_true, if_false, true_or, or_true, true_and, and_true, not_true_eq_false, not_false_eq_true, false_or, or_false, false_and, and_false]; done) | (simp only [h60, h61, h62, hv1, hv3, hv5, hv7, hv9, hv11, hv13, hv15, hv17, if_true, if_false, true_or, or_true, true_and, and_true, not_true_eq_false, not_false_eq_true, false_or, or_false, false_and, and_false]; done))
            · skip
              refine g_iconst X35 (0 : Int32) at_173 rfl 174 rfl ?_
              exact k174_5 ((0 : Int32)) (by first | (simp only [if_pos h60, if_neg h61]; done) | (simp only [if_pos h60, if_neg h61]; done) | (simp only [apply_ite Int32.toInt64, if_pos h60, if_neg h61]; done) | (simp only [h60, h61, if_true, if_false, true_or, or_true, true_and, and_true, not_true_eq_false, not_false_eq_true, false_or, or_false, false_and, and_false]; done) | (simp only [h60, h61, hv1, hv3, hv5, hv7, hv9, hv11, hv13, hv15, hv17, if_true, if_false, true_or, or_true, true_and, and_true, not_true_eq_false, not_false_eq_true, false_or, or_false, false_and, and_false]; done))
          · skip
            refine g_iconst X35 (0 : Int32) at_173 rfl 174 rfl ?_
            exact k174_5 ((0 : Int32)) (by first | (simp only [if_neg h60]; done) | (simp only [if_neg h60]; done) | (simp only [apply_ite Int32.toInt64, if_neg h60]; done) | (simp only [h60, if_true, if_false, true_or, or_true, true_and, and_true, not_true_eq_false, not_false_eq_true, false_or, or_false, false_and, and_false]; done) | (simp only [h60, hv1, hv3, hv5, hv7, hv9, hv11, hv13, hv15, hv17, if_true, if_false, true_or, or_true, true_and, and_true, not_true_eq_false, not_false_eq_true, false_or, or_false, false_and, and_false]; done))
        refine g_if X0 z_eq at_91 99 (by decide) (by decide) 94 rfl (fun h64 => ?_) (fun h64 => ?_)
        · skip
          refine g_lload X0 at_99 rfl 101 rfl ?_
          exact k101_4 (v7) (by first | (simp only [if_pos h64]; done) | (simp only [if_pos h64]; done) | (simp only [apply_ite Int32.toInt64, if_pos h64]; done) | (simp only [h64, if_true, if_false, true_or, or_true, true_and, and_true, not_true_eq_false, not_false_eq_true, false_or, or_false, false_and, and_false]; done) | (simp only [h64, hv1, hv3, hv5, hv7, hv9, hv11, hv13, hv15, if_true, if_false, true_or, or_true, true_and, and_true, not_true_eq_false, not_false_eq_true, false_or, or_false, false_and, and_false]; done))
        · skip
          refine g_lload X0 at_94 rfl 96 rfl ?_
          refine g_goto X0 at_96 101 (by decide) (by decide) ?_
          exact k101_4 (v9) (by first | (simp only [if_neg h64]; done) | (simp only [if_neg h64]; done) | (simp only [apply_ite Int32.toInt64, if_neg h64]; done) | (simp only [h64, if_true, if_false, true_or, or_true, true_and, and_true, not_true_eq_false, not_false_eq_true, false_or, or_false, false_and, and_false]; done) | (simp only [h64, hv1, hv3, hv5, hv7, hv9, hv11, hv13, hv15, if_true, if_false, true_or, or_true, true_and, and_true, not_true_eq_false, not_false_eq_true, false_or, or_false, false_and, and_false]; done))
      refine g_if X0 z_eq at_74 82 (by decide) (by decide) 77 rfl (fun h65 => ?_) (fun h65 => ?_)
      · skip
        refine g_lload X0 at_82 rfl 84 rfl ?_
        exact k84_3 (v5) (by first | (simp only [if_pos h65]; done) | (simp only [if_pos h65]; done) | (simp only [apply_ite Int32.toInt64, if_pos h65]; done) | (simp only [h65, if_true, if_false, true_or, or_true, true_and, and_true, not_true_eq_false, not_false_eq_true, false_or, or_false, false_and, and_false]; done) | (simp only [h65, hv1, hv3, hv5, hv7, hv9, hv11, hv13, if_true, if_false, true_or, or_true, true_and, and_true, not_true_eq_false, not_false_eq_true, false_or, or_false, false_and, and_false]; done))
      · skip
        refine g_lload X0 at_77 rfl 79 rfl ?_
        refine g_goto X0 at_79 84 (by decide) (by decide) ?_
        exact k84_3 (v9) (by first | (simp only [if_neg h65]; done) | (simp only [if_neg h65]; done) | (simp only [apply_ite Int32.toInt64, if_neg h65]; done) | (simp only [h65, if_true, if_false, true_or, or_true, true_and, and_true, not_true_eq_false, not_false_eq_true, false_or, or_false, false_and, and_false]; done) | (simp only [h65, hv1, hv3, hv5, hv7, hv9, hv11, hv13, if_true, if_false, true_or, or_true, true_and, and_true, not_true_eq_false, not_false_eq_true, false_or, or_false, false_and, and_false]; done))
    refine g_if X0 z_eq at_58 66 (by decide) (by decide) 61 rfl (fun h66 => ?_) (fun h66 => ?_)
    · skip
      refine g_lload X0 at_66 rfl 68 rfl ?_
      exact k68_2 (v3) (by first | (simp only [if_pos h66]; done) | (simp only [if_pos h66]; done) | (simp only [apply_ite Int32.toInt64, if_pos h66]; done) | (simp only [h66, if_true, if_false, true_or, or_true, true_and, and_true, not_true_eq_false, not_false_eq_true, false_or, or_false, false_and, and_false]; done) | (simp only [h66, hv1, hv3, hv5, hv7, hv9, hv11, if_true, if_false, true_or, or_true, true_and, and_true, not_true_eq_false, not_false_eq_true, false_or, or_false, false_and, and_false]; done))
    · skip
      refine g_lload X0 at_61 rfl 63 rfl ?_
      refine g_goto X0 at_63 68 (by decide) (by decide) ?_
      exact k68_2 (v9) (by first | (simp only [if_neg h66]; done) | (simp only [if_neg h66]; done) | (simp only [apply_ite Int32.toInt64, if_neg h66]; done) | (simp only [h66, if_true, if_false, true_or, or_true, true_and, and_true, not_true_eq_false, not_false_eq_true, false_or, or_false, false_and, and_false]; done) | (simp only [h66, hv1, hv3, hv5, hv7, hv9, hv11, if_true, if_false, true_or, or_true, true_and, and_true, not_true_eq_false, not_false_eq_true, false_or, or_false, false_and, and_false]; done))
  refine g_if X0 z_eq at_42 50 (by decide) (by decide) 45 rfl (fun h67 => ?_) (fun h67 => ?_)
  · skip
    refine g_lload X0 at_50 rfl 52 rfl ?_
    exact k52_1 (v1) (by first | (simp only [if_pos h67]; done) | (simp only [if_pos h67]; done) | (simp only [apply_ite Int32.toInt64, if_pos h67]; done) | (simp only [h67, if_true, if_false, true_or, or_true, true_and, and_true, not_true_eq_false, not_false_eq_true, false_or, or_false, false_and, and_false]; done) | (simp only [h67, hv1, hv3, hv5, hv7, hv9, if_true, if_false, true_or, or_true, true_and, and_true, not_true_eq_false, not_false_eq_true, false_or, or_false, false_and, and_false]; done))
  · skip
    refine g_lload X0 at_45 rfl 47 rfl ?_
    refine g_goto X0 at_47 52 (by decide) (by decide) ?_
    exact k52_1 (v9) (by first | (simp only [if_neg h67]; done) | (simp only [if_neg h67]; done) | (simp only [apply_ite Int32.toInt64, if_neg h67]; done) | (simp only [h67, if_true, if_false, true_or, or_true, true_and, and_true, not_true_eq_false, not_false_eq_true, false_or, or_false, false_and, and_false]; done) | (simp only [h67, hv1, hv3, hv5, hv7, hv9, if_true, if_false, true_or, or_true, true_and, and_true, not_true_eq_false, not_false_eq_true, false_or, or_false, false_and, and_false]; done))
set_option maxRecDepth 65536 in
set_option maxHeartbeats 40000000 in
theorem comes_1 {Post : Tables → Env → Array Value → State → Outcome → State → Prop} (hpost : ∀ tb e args s v u, (limb_1_1.after args s (.returned v) u = true ∧ limb_1_2.after args s (.returned v) u = true ∧ True) → FrameEnd s (.returned v) u (Jvm.fieldLocs frame_1_writes args s ++ Jvm.arrayLocs frame_1_arrays args s ++ Jvm.staticLocs frame_1_statics s) 16 128 → Post tb e args s (.returned v) u) :
    ArmFor flags0 classFile x code maxLocals ret World_1 tables_1 room_1 Calls_1 rest_1 Pre_1 Post := by
  intro l hfl _ _ p e ha hc hk s m args below hf hA hF happ hP
  obtain ⟨hcalls, hrest, hpre⟩ := hP
  obtain ⟨-, -, -, hnamed, -, -, -, hat⟩ := (Spec.applies_iff hf).mp happ
  obtain ⟨hg, hn⟩ := and_e (Cond.before_iff.mp (show (Jvm.Cond.and given_1 narrow_1).before args s = true from hpre))
  obtain ⟨hcount, g0⟩ := and_e hg
  obtain ⟨q0, g1⟩ := and_e g0
  obtain ⟨q1, g2⟩ := and_e g1
  obtain ⟨q2, g3⟩ := and_e g2
  obtain ⟨q3, g4⟩ := and_e g3
  obtain ⟨q4, g5⟩ := and_e g4
  have q5 := g5
  obtain ⟨w0, w1, w2, w3, w4, w5, rfl⟩ : ∃ w0 w1 w2 w3 w4 w5 : Value, args = #[w0, w1, w2, w3, w4, w5] := by
    have hs : args.size = 6 := by simpa [Cond.value, given_1] using hcount
    obtain ⟨L⟩ := args
    match L, hs with
    | [w0, w1, w2, w3, w4, w5], _ => exact ⟨w0, w1, w2, w3, w4, w5, rfl⟩
  have hw := fun d (hd : d ∈ tables_1) => atoms_spec (ws := Jvm.Cond.code x code maxLocals ret :: tables_1) hat d (List.mem_cons_of_mem _ hd)
  obtain ⟨hsets, hown0⟩ := atoms_of _ (rest_1_c_eq ▸ (show rest_1_c.before _ s = true from hrest))
  have hfit : Fit s := fun {y c} hc i hi => by
    obtain ⟨ha, rfl⟩ := Array.getElem?_eq_some_iff.mp hc
    have q := List.all_eq_true.mp ((Array.all_eq_true_iff_forall_mem.mp hF) _ (Array.getElem_mem ha)) i (List.mem_range.mpr hi)
    simpa [Array.getElem?_eq_getElem hi] using q
  obtain ⟨i0, e0⟩ := isL_v q0
  obtain rfl : w0 = (.long i0) := Option.some.inj e0
  obtain ⟨i1, e1⟩ := isL_v q1
  obtain rfl : w1 = (.long i1) := Option.some.inj e1
  obtain ⟨i2, e2⟩ := isL_v q2
  obtain rfl : w2 = (.long i2) := Option.some.inj e2
  obtain ⟨i3, e3⟩ := isL_v q3
  obtain rfl : w3 = (.long i3) := Option.some.inj e3
  obtain ⟨i4, e4⟩ := isL_v q4
  obtain rfl : w4 = (.long i4) := Option.some.inj e4
  obtain ⟨i5, e5⟩ := is_v q5
  obtain rfl : w5 = (.int i5) := Option.some.inj e5
  have eH := eqv_i (Term.int_eval 127) (Cond.before_iff.mp (hsets _ (List.mem_of_getElem? (i := 3) rfl)))
  have SH := Sta.start eH (Or.inl (hsets _ (List.mem_of_getElem? (i := 1) rfl)))
  obtain ⟨ca, eC⟩ := arr_v (Cond.before_iff.mp (hsets _ (List.mem_of_getElem? (i := 4) rfl)))
  have SC := Sta.start eC (Or.inr ⟨(w23 hw), (hsets _ (List.mem_of_getElem? (i := 2) rfl))⟩)
  obtain ⟨cc, AC0⟩ := Arr.start eC (Cond.before_iff.mp (hsets _ (List.mem_of_getElem? (i := 4) rfl)))
  have eL := eqv_i (Term.int_eval 256) (Cond.before_iff.mp (hsets _ (List.mem_of_getElem? (i := 6) rfl)))
  obtain ⟨G, AC, hG⟩ := own_box (fun idx => (eC : _)) AC0 eL (Cond.before_iff.mp (hsets _ (List.mem_of_getElem? (i := 7) rfl)))
  obtain ⟨n, o, h1, h2, h3, v, L, rfl, ⟨N, hQ⟩, hq⟩ := rm0 (l := l) hw s.heap.size i0 i1 i2 i3 i4 i5 ca G s.heap (Nat.le_refl _) (Old.start s) SH SC AC hG p e ha hc hk s m _ below hf ((Spec.applies_iff_loose hf).mp happ).1 ⟨rfl, State.Warmed39.refl s, rfl⟩ trivial
  obtain rfl : v = some (.int 1) := hQ
  refine ⟨n, _, h1, h2, h3, hpost _ _ _ _ _ _ ⟨Cond.after_iff.mpr rfl, Cond.after_iff.mpr (eq_i res_at (Term.int_eval (1)) rfl), trivial⟩ ⟨hq.1, hq.2.1, (hq.2.2.sift fun y hy => Or.inr (N y hy)).mono (by decide) (by decide)⟩⟩
theorem main_1_1 : Claimed_1_1 := comes_1 fun _ _ _ _ _ _ h hF => ⟨h.1, hF⟩
theorem main_1_2 : Claimed_1_2 := comes_1 fun _ _ _ _ _ _ h hF => ⟨h.2.1, hF⟩
end Jvm.Pilot.@@N@@
namespace Jvm.Pilot.@@N@@
open Jvm Jvm.ClassFile Sem Op Lib Jvm.Free Jvm.Stand Jvm.Pilot.@@N@@.Jvm.D
/-! MADE BY PROGRAM (witnessworld.py) out of the Statement's table words and the real class files: 16 classes; the members and pool entries that the words name. The judged class is class 1, her method 1. -/
namespace start1
open Jvm.ClassFile
def u (s : String) : CpInfo := .utf8 (stringToUtf16 s)
/-- a pool by its gaps: so many unusable entries, then the entry; so many at the end -/
def gap : Nat → List CpInfo → List CpInfo
  | 0, r => r
  | n + 1, r => .unusable :: gap n r
def poolList (es : List (Nat × CpInfo)) (last : Nat) : List CpInfo := es.foldr (fun e r => gap e.1 (e.2 :: r)) (gap last [])
def pool (es : List (Nat × CpInfo)) (last : Nat) : Array CpInfo := ⟨poolList es last⟩
def fileOf (pool : Array CpInfo) (this : Nat) (attrs : Array Attribute := #[]) (ms : Array MethodInfo := #[]) (fl : Nat := 33) (sup : Nat := 0) (ifs : Array Nat := #[]) (fds : Array FieldInfo := #[]) : ClassFile where
  minorVersion := 0
  majorVersion := 65
  constantPool := pool
  accessFlags := fl
  thisClass := this
  superClass := sup
  interfaces := ifs
  fields := fds
  methods := ms
  attributes := attrs
def plain (name : String) (sup : Option ClassId) : Class where
  name := name
  kind := .ordinary
  loader := none
  accessFlags := 33
  super := sup
  interfaces := #[]
  cf := none
  fields := #[]
  methods := #[]
  instanceTypes := #[]
  staticTypes := #[]
  resolved := #[]
  callSites := []
  init := .initialized
  statics := none
  mirror := none

def pool0 : Array CpInfo := pool [(5, u "<init>"), (0, u "()V"), (1, .class_ 10), (1, u "java/lang/Object")] 113

def k0c0 : Code := { maxStack := 0, maxLocals := 1, code := object_method_1_code, exceptionTable := #[], attributes := #[] }
def k0m0 : Method := { name := "<init>", desc := "()V", sig := { parameters := [], returnType := none }, accessFlags := 1, code := some k0c0 }
/-- java/lang/Object -/
def k0 : Class := { plain "java/lang/Object" none with
  accessFlags := 33
  interfaces := #[]
  cf := some (fileOf pool0 8 #[] #[{ accessFlags := 1, nameIndex := 5, descriptorIndex := 6, attributes := #[] }] 33 0 #[] #[])
  fields := #[]
  methods := #[k0m0]
  instanceTypes := #[]
  staticTypes := #[]
  resolved := Array.replicate 124 none
  statics := none }

def pool1 : Array CpInfo := pool [(2, .class_ 4), (1, u "java/lang/Object"), (0, u "<init>"), (0, u "()V"), (2, .long 9223372036854775807), (1, .class_ 12), (0, u "com/example/settle/settle/io/SegmentLog$Place"), (0, .methodref 11 14), (0, .nameAndType 5 15), (0, u "(JJJJ)V"), (0, .methodref 17 18), (0, .class_ 19), (0, .nameAndType 20 21), (0, u "java/lang/Integer"), (0, u "valueOf"), (0, u "(I)Ljava/lang/Integer;"), (0, .methodref 11 23), (0, .nameAndType 24 25), (0, u "equals"), (0, u "(Ljava/lang/Object;)Z"), (0, .class_ 27), (0, u "com/example/settle/settle/io/PlaceEqualsPinLaw"), (2, u "law"), (0, u "(JJJJJI)Z")] 7

def k1m0 : Method := { name := "<init>", desc := "()V", sig := { parameters := [], returnType := none }, accessFlags := 2, code := none }
def k1c1 : Code := { maxStack := 10, maxLocals := 36, code := code, exceptionTable := #[], attributes := #[] }
def k1m1 : Method := { name := "law", desc := "(JJJJJI)Z", sig := { parameters := [.long, .long, .long, .long, .long, .int], returnType := some .boolean }, accessFlags := 9, code := some k1c1 }
/-- com/example/settle/settle/io/PlaceEqualsPinLaw -/
def k1 : Class := { plain "com/example/settle/settle/io/PlaceEqualsPinLaw" (some 0) with
  accessFlags := 49
  interfaces := #[]
  cf := some (fileOf pool1 26 #[] #[{ accessFlags := 2, nameIndex := 5, descriptorIndex := 6, attributes := #[] }, { accessFlags := 9, nameIndex := 30, descriptorIndex := 31, attributes := #[] }] 49 2 #[] #[])
  fields := #[]
  methods := #[k1m0, k1m1]
  instanceTypes := #[]
  staticTypes := #[]
  resolved := Array.replicate 39 none
  statics := none }

def pool2 : Array CpInfo := pool [(1, .methodref 2 3), (0, .class_ 4), (0, .nameAndType 5 6), (0, u "java/lang/Object"), (0, u "<init>"), (0, u "()V"), (9, .fieldref 17 18), (0, .class_ 19), (0, .nameAndType 20 21), (0, u "com/example/settle/settle/io/SegmentLog$Place"), (0, u "segment"), (0, u "J"), (0, .fieldref 17 23), (0, .nameAndType 24 21), (0, u "entry"), (0, .fieldref 17 26), (0, .nameAndType 27 21), (0, u "position"), (0, .fieldref 17 29), (0, .nameAndType 30 21), (0, u "offset"), (22, u "(JJJJ)V"), (13, u "equals"), (0, u "(Ljava/lang/Object;)Z"), (7, .class_ 77), (0, u "com/example/settle/settle/io/SegmentLog")] 18

def k2c0 : Code := { maxStack := 10, maxLocals := 9, code := prog_32_method_1_code, exceptionTable := #[], attributes := #[] }
def k2m0 : Method := { name := "<init>", desc := "(JJJJ)V", sig := { parameters := [.long, .long, .long, .long], returnType := none }, accessFlags := 1, code := some k2c0 }
def k2c1 : Code := { maxStack := 4, maxLocals := 2, code := prog_32_method_9_code, exceptionTable := #[], attributes := #[] }
def k2m1 : Method := { name := "equals", desc := "(Ljava/lang/Object;)Z", sig := { parameters := [(.object "java/lang/Object")], returnType := some .boolean }, accessFlags := 1, code := some k2c1 }
/-- com/example/settle/settle/io/SegmentLog$Place -/
def k2 : Class := { plain "com/example/settle/settle/io/SegmentLog$Place" (some 0) with
  accessFlags := 49
  interfaces := #[]
  cf := some (fileOf pool2 17 #[.nestHost 76] #[{ accessFlags := 1, nameIndex := 5, descriptorIndex := 53, attributes := #[] }, { accessFlags := 1, nameIndex := 67, descriptorIndex := 68, attributes := #[] }] 49 2 #[] #[{ accessFlags := 18, nameIndex := 20, descriptorIndex := 21, attributes := #[] }, { accessFlags := 18, nameIndex := 24, descriptorIndex := 21, attributes := #[] }, { accessFlags := 18, nameIndex := 27, descriptorIndex := 21, attributes := #[] }, { accessFlags := 18, nameIndex := 30, descriptorIndex := 21, attributes := #[] }])
  fields := #[{ name := "segment", type := .long, accessFlags := 18, slot := 0, constantValue := 0 }, { name := "entry", type := .long, accessFlags := 18, slot := 1, constantValue := 0 }, { name := "position", type := .long, accessFlags := 18, slot := 2, constantValue := 0 }, { name := "offset", type := .long, accessFlags := 18, slot := 3, constantValue := 0 }]
  methods := #[k2m0, k2m1]
  instanceTypes := #[.long, .long, .long, .long]
  staticTypes := #[]
  resolved := Array.replicate 96 none
  statics := none }

def pool3 : Array CpInfo := pool [(1, .class_ 2), (0, u "java/io/Serializable"), (0, .class_ 4), (0, u "java/lang/Object")] 2

/-- java/io/Serializable -/
def k3 : Class := { plain "java/io/Serializable" (some 0) with
  accessFlags := 1537
  interfaces := #[]
  cf := some (fileOf pool3 1 #[] #[] 1537 3 #[] #[])
  fields := #[]
  methods := #[]
  instanceTypes := #[]
  staticTypes := #[]
  resolved := Array.replicate 7 none
  statics := none }

def pool4 : Array CpInfo := pool [(1, .methodref 2 3), (0, .class_ 4), (0, .nameAndType 5 6), (0, u "java/lang/Object"), (0, u "<init>"), (0, u "()V"), (1, .class_ 10), (1, u "java/lang/Number"), (2, .class_ 14), (0, u "java/io/Serializable"), (0, u "serialVersionUID"), (0, u "J")] 20

def k4c0 : Code := { maxStack := 1, maxLocals := 1, code := jdk_18_method_1_code, exceptionTable := #[], attributes := #[] }
def k4m0 : Method := { name := "<init>", desc := "()V", sig := { parameters := [], returnType := none }, accessFlags := 1, code := some k4c0 }
/-- java/lang/Number -/
def k4 : Class := { plain "java/lang/Number" (some 0) with
  accessFlags := 1057
  interfaces := #[3]
  cf := some (fileOf pool4 8 #[] #[{ accessFlags := 1, nameIndex := 5, descriptorIndex := 6, attributes := #[] }] 1057 2 #[13] #[{ accessFlags := 26, nameIndex := 15, descriptorIndex := 16, attributes := #[] }])
  fields := #[{ name := "serialVersionUID", type := .long, accessFlags := 26, slot := 0, constantValue := 0 }]
  methods := #[k4m0]
  instanceTypes := #[]
  staticTypes := #[.long]
  resolved := Array.replicate 37 none
  statics := none }

def pool5 : Array CpInfo := pool [(1, .class_ 2), (0, u "java/lang/Comparable"), (0, .class_ 4), (0, u "java/lang/Object")] 7

/-- java/lang/Comparable -/
def k5 : Class := { plain "java/lang/Comparable" (some 0) with
  accessFlags := 1537
  interfaces := #[]
  cf := some (fileOf pool5 1 #[] #[] 1537 3 #[] #[])
  fields := #[]
  methods := #[]
  instanceTypes := #[]
  staticTypes := #[]
  resolved := Array.replicate 12 none
  statics := none }

def pool6 : Array CpInfo := pool [(1, .class_ 2), (0, u "java/lang/constant/Constable"), (0, .class_ 4), (0, u "java/lang/Object")] 6

/-- java/lang/constant/Constable -/
def k6 : Class := { plain "java/lang/constant/Constable" (some 0) with
  accessFlags := 1537
  interfaces := #[]
  cf := some (fileOf pool6 1 #[] #[] 1537 3 #[] #[])
  fields := #[]
  methods := #[]
  instanceTypes := #[]
  staticTypes := #[]
  resolved := Array.replicate 11 none
  statics := none }

def pool7 : Array CpInfo := pool [(1, .class_ 2), (0, u "java/lang/constant/ConstantDesc"), (0, .class_ 4), (0, u "java/lang/Object")] 32

/-- java/lang/constant/ConstantDesc -/
def k7 : Class := { plain "java/lang/constant/ConstantDesc" (some 0) with
  accessFlags := 1537
  interfaces := #[]
  cf := some (fileOf pool7 1 #[] #[] 1537 3 #[] #[])
  fields := #[]
  methods := #[]
  instanceTypes := #[]
  staticTypes := #[]
  resolved := Array.replicate 37 none
  statics := none }

def pool8 : Array CpInfo := pool [(1, .class_ 2), (0, u "java/lang/Integer"), (16, u "digits"), (0, u "[C"), (46, u "<init>"), (17, u "DigitOnes"), (0, u "[B"), (2, u "DigitTens"), (10, .nameAndType 67 101), (0, u "()V"), (85, u "valueOf"), (0, u "(I)Ljava/lang/Integer;"), (0, .class_ 190), (0, u "java/lang/Integer$IntegerCache"), (0, .fieldref 189 192), (0, .nameAndType 193 194), (0, u "high"), (0, u "I"), (0, .fieldref 189 196), (0, .nameAndType 197 198), (0, u "cache"), (0, u "[Ljava/lang/Integer;"), (0, .methodref 1 200), (0, .nameAndType 67 201), (0, u "(I)V"), (0, .methodref 203 100), (0, .class_ 204), (0, u "java/lang/Number"), (0, .fieldref 1 206), (0, .nameAndType 207 194), (0, u "value"), (94, u "TYPE"), (0, u "Ljava/lang/Class;"), (0, .class_ 305), (0, u "java/lang/Comparable"), (0, .class_ 307), (0, u "java/lang/constant/Constable"), (0, .class_ 309), (0, u "java/lang/constant/ConstantDesc"), (0, u "MIN_VALUE"), (1, u "MAX_VALUE"), (3, u "SIZE"), (1, u "BYTES"), (1, u "serialVersionUID"), (0, u "J")] 131

def k8c0 : Code := { maxStack := 3, maxLocals := 1, code := jdk_33_method_22_code, exceptionTable := #[], attributes := #[] }
def k8m0 : Method := { name := "valueOf", desc := "(I)Ljava/lang/Integer;", sig := { parameters := [.int], returnType := some (.object "java/lang/Integer") }, accessFlags := 9, code := some k8c0 }
def k8c1 : Code := { maxStack := 2, maxLocals := 2, code := jdk_33_method_23_code, exceptionTable := #[], attributes := #[] }
def k8m1 : Method := { name := "<init>", desc := "(I)V", sig := { parameters := [.int], returnType := none }, accessFlags := 1, code := some k8c1 }
/-- java/lang/Integer -/
def k8 : Class := { plain "java/lang/Integer" (some 4) with
  accessFlags := 49
  interfaces := #[5, 6, 7]
  cf := some (fileOf pool8 1 #[.nestMembers #[189]] #[{ accessFlags := 9, nameIndex := 187, descriptorIndex := 188, attributes := #[] }, { accessFlags := 1, nameIndex := 67, descriptorIndex := 201, attributes := #[] }] 49 203 #[304, 306, 308] #[{ accessFlags := 25, nameIndex := 310, descriptorIndex := 194, attributes := #[] }, { accessFlags := 25, nameIndex := 312, descriptorIndex := 194, attributes := #[] }, { accessFlags := 25, nameIndex := 302, descriptorIndex := 303, attributes := #[] }, { accessFlags := 24, nameIndex := 19, descriptorIndex := 20, attributes := #[] }, { accessFlags := 24, nameIndex := 89, descriptorIndex := 86, attributes := #[] }, { accessFlags := 24, nameIndex := 85, descriptorIndex := 86, attributes := #[] }, { accessFlags := 18, nameIndex := 207, descriptorIndex := 194, attributes := #[] }, { accessFlags := 25, nameIndex := 316, descriptorIndex := 194, attributes := #[] }, { accessFlags := 25, nameIndex := 318, descriptorIndex := 194, attributes := #[] }, { accessFlags := 26, nameIndex := 320, descriptorIndex := 321, attributes := #[] }])
  fields := #[{ name := "MIN_VALUE", type := .int, accessFlags := 25, slot := 0, constantValue := 0 }, { name := "MAX_VALUE", type := .int, accessFlags := 25, slot := 1, constantValue := 0 }, { name := "TYPE", type := (.object "java/lang/Class"), accessFlags := 25, slot := 2, constantValue := 0 }, { name := "digits", type := (.array .char), accessFlags := 24, slot := 3, constantValue := 0 }, { name := "DigitTens", type := (.array .byte), accessFlags := 24, slot := 4, constantValue := 0 }, { name := "DigitOnes", type := (.array .byte), accessFlags := 24, slot := 5, constantValue := 0 }, { name := "value", type := .int, accessFlags := 18, slot := 0, constantValue := 0 }, { name := "SIZE", type := .int, accessFlags := 25, slot := 6, constantValue := 0 }, { name := "BYTES", type := .int, accessFlags := 25, slot := 7, constantValue := 0 }, { name := "serialVersionUID", type := .long, accessFlags := 26, slot := 8, constantValue := 0 }]
  methods := #[k8m0, k8m1]
  instanceTypes := #[.int]
  staticTypes := #[.int, .int, (.object "java/lang/Class"), (.array .char), (.array .byte), (.array .byte), .int, .int, .long]
  resolved := Array.replicate 453 none
  statics := none }

def pool9 : Array CpInfo := pool [(2, .class_ 4), (1, u "java/lang/Object"), (0, u "<init>"), (0, u "()V"), (0, .class_ 8), (0, u "java/lang/Integer"), (7, .class_ 18), (1, u "java/lang/Integer$IntegerCache"), (0, u "$assertionsDisabled"), (0, u "Z"), (26, u "high"), (0, u "I"), (8, u "archivedCache"), (0, u "[Ljava/lang/Integer;"), (12, u "cache"), (0, u "low")] 27

def k9m0 : Method := { name := "<init>", desc := "()V", sig := { parameters := [], returnType := none }, accessFlags := 2, code := none }
/-- java/lang/Integer$IntegerCache -/
def k9 : Class := { plain "java/lang/Integer$IntegerCache" (some 0) with
  accessFlags := 48
  interfaces := #[]
  cf := some (fileOf pool9 16 #[.nestHost 7] #[{ accessFlags := 2, nameIndex := 5, descriptorIndex := 6, attributes := #[] }] 48 2 #[] #[{ accessFlags := 24, nameIndex := 72, descriptorIndex := 48, attributes := #[] }, { accessFlags := 24, nameIndex := 47, descriptorIndex := 48, attributes := #[] }, { accessFlags := 24, nameIndex := 71, descriptorIndex := 58, attributes := #[] }, { accessFlags := 8, nameIndex := 57, descriptorIndex := 58, attributes := #[] }, { accessFlags := 4120, nameIndex := 19, descriptorIndex := 20, attributes := #[] }])
  fields := #[{ name := "low", type := .int, accessFlags := 24, slot := 0, constantValue := 0 }, { name := "high", type := .int, accessFlags := 24, slot := 1, constantValue := 0 }, { name := "cache", type := (.array (.object "java/lang/Integer")), accessFlags := 24, slot := 2, constantValue := 0 }, { name := "archivedCache", type := (.array (.object "java/lang/Integer")), accessFlags := 8, slot := 3, constantValue := 0 }, { name := "$assertionsDisabled", type := .boolean, accessFlags := 4120, slot := 4, constantValue := 0 }]
  methods := #[k9m0]
  instanceTypes := #[]
  staticTypes := #[.int, .int, (.array (.object "java/lang/Integer")), (.array (.object "java/lang/Integer")), .boolean]
  resolved := Array.replicate 100 none
  statics := some 0 }

def pool10 : Array CpInfo := pool [(1, u "java/lang/Cloneable"), (0, .class_ 1), (0, u "java/lang/Object"), (0, .class_ 3)] 3

/-- java/lang/Cloneable -/
def k10 : Class := { plain "java/lang/Cloneable" (some 0) with
  accessFlags := 1537
  interfaces := #[]
  cf := some (fileOf pool10 2 #[] #[] 1537 4 #[] #[])
  fields := #[]
  methods := #[]
  instanceTypes := #[]
  staticTypes := #[]
  resolved := Array.replicate 8 none
  statics := none }

/-- the primitive byte -/
def k11 : Class := { plain "byte" none with kind := .primitive 'B', accessFlags := 0x411 }
/-- [B -/
def k12 : Class := { plain "[B" (some 0) with kind := .array 11 .byte, interfaces := #[10, 3], accessFlags := 1041 }

/-- the primitive int -/
def k13 : Class := { plain "int" none with kind := .primitive 'I', accessFlags := 0x411 }
/-- [I -/
def k14 : Class := { plain "[I" (some 0) with kind := .array 13 .int, interfaces := #[10, 3], accessFlags := 1041 }

/-- [Ljava/lang/Integer; -/
def k15 : Class := { plain "[Ljava/lang/Integer;" (some 0) with kind := .array 8 (.object "java/lang/Integer"), interfaces := #[10, 3], accessFlags := 1041 }

def heap : Heap := #[{ cls := 9, slots := #[.int 0, .int 127, .ref 1, .null, .int 0], vm := .statics 9 },
  { cls := 15, slots := #[.ref 2, .ref 3, .ref 4, .ref 5, .ref 6, .ref 7, .ref 8, .ref 9, .ref 10, .ref 11, .ref 12, .ref 13, .ref 14, .ref 15, .ref 16, .ref 17, .ref 18, .ref 19, .ref 20, .ref 21, .ref 22, .ref 23, .ref 24, .ref 25, .ref 26, .ref 27, .ref 28, .ref 29, .ref 30, .ref 31, .ref 32, .ref 33, .ref 34, .ref 35, .ref 36, .ref 37, .ref 38, .ref 39, .ref 40, .ref 41, .ref 42, .ref 43, .ref 44, .ref 45, .ref 46, .ref 47, .ref 48, .ref 49, .ref 50, .ref 51, .ref 52, .ref 53, .ref 54, .ref 55, .ref 56, .ref 57, .ref 58, .ref 59, .ref 60, .ref 61, .ref 62, .ref 63, .ref 64, .ref 65, .ref 66, .ref 67, .ref 68, .ref 69, .ref 70, .ref 71, .ref 72, .ref 73, .ref 74, .ref 75, .ref 76, .ref 77, .ref 78, .ref 79, .ref 80, .ref 81, .ref 82, .ref 83, .ref 84, .ref 85, .ref 86, .ref 87, .ref 88, .ref 89, .ref 90, .ref 91, .ref 92, .ref 93, .ref 94, .ref 95, .ref 96, .ref 97, .ref 98, .ref 99, .ref 100, .ref 101, .ref 102, .ref 103, .ref 104, .ref 105, .ref 106, .ref 107, .ref 108, .ref 109, .ref 110, .ref 111, .ref 112, .ref 113, .ref 114, .ref 115, .ref 116, .ref 117, .ref 118, .ref 119, .ref 120, .ref 121, .ref 122, .ref 123, .ref 124, .ref 125, .ref 126, .ref 127, .ref 128, .ref 129, .ref 130, .ref 131, .ref 132, .ref 133, .ref 134, .ref 135, .ref 136, .ref 137, .ref 138, .ref 139, .ref 140, .ref 141, .ref 142, .ref 143, .ref 144, .ref 145, .ref 146, .ref 147, .ref 148, .ref 149, .ref 150, .ref 151, .ref 152, .ref 153, .ref 154, .ref 155, .ref 156, .ref 157, .ref 158, .ref 159, .ref 160, .ref 161, .ref 162, .ref 163, .ref 164, .ref 165, .ref 166, .ref 167, .ref 168, .ref 169, .ref 170, .ref 171, .ref 172, .ref 173, .ref 174, .ref 175, .ref 176, .ref 177, .ref 178, .ref 179, .ref 180, .ref 181, .ref 182, .ref 183, .ref 184, .ref 185, .ref 186, .ref 187, .ref 188, .ref 189, .ref 190, .ref 191, .ref 192, .ref 193, .ref 194, .ref 195, .ref 196, .ref 197, .ref 198, .ref 199, .ref 200, .ref 201, .ref 202, .ref 203, .ref 204, .ref 205, .ref 206, .ref 207, .ref 208, .ref 209, .ref 210, .ref 211, .ref 212, .ref 213, .ref 214, .ref 215, .ref 216, .ref 217, .ref 218, .ref 219, .ref 220, .ref 221, .ref 222, .ref 223, .ref 224, .ref 225, .ref 226, .ref 227, .ref 228, .ref 229, .ref 230, .ref 231, .ref 232, .ref 233, .ref 234, .ref 235, .ref 236, .ref 237, .ref 238, .ref 239, .ref 240, .ref 241, .ref 242, .ref 243, .ref 244, .ref 245, .ref 246, .ref 247, .ref 248, .ref 249, .ref 250, .ref 251, .ref 252, .ref 253, .ref 254, .ref 255, .ref 256, .ref 257], vm := .none },
  { cls := 8, slots := #[.int (-128)], vm := .none },
  { cls := 8, slots := #[.int (-127)], vm := .none },
  { cls := 8, slots := #[.int (-126)], vm := .none },
  { cls := 8, slots := #[.int (-125)], vm := .none },
  { cls := 8, slots := #[.int (-124)], vm := .none },
  { cls := 8, slots := #[.int (-123)], vm := .none },
  { cls := 8, slots := #[.int (-122)], vm := .none },
  { cls := 8, slots := #[.int (-121)], vm := .none },
  { cls := 8, slots := #[.int (-120)], vm := .none },
  { cls := 8, slots := #[.int (-119)], vm := .none },
  { cls := 8, slots := #[.int (-118)], vm := .none },
  { cls := 8, slots := #[.int (-117)], vm := .none },
  { cls := 8, slots := #[.int (-116)], vm := .none },
  { cls := 8, slots := #[.int (-115)], vm := .none },
  { cls := 8, slots := #[.int (-114)], vm := .none },
  { cls := 8, slots := #[.int (-113)], vm := .none },
  { cls := 8, slots := #[.int (-112)], vm := .none },
  { cls := 8, slots := #[.int (-111)], vm := .none },
  { cls := 8, slots := #[.int (-110)], vm := .none },
  { cls := 8, slots := #[.int (-109)], vm := .none },
  { cls := 8, slots := #[.int (-108)], vm := .none },
  { cls := 8, slots := #[.int (-107)], vm := .none },
  { cls := 8, slots := #[.int (-106)], vm := .none },
  { cls := 8, slots := #[.int (-105)], vm := .none },
  { cls := 8, slots := #[.int (-104)], vm := .none },
  { cls := 8, slots := #[.int (-103)], vm := .none },
  { cls := 8, slots := #[.int (-102)], vm := .none },
  { cls := 8, slots := #[.int (-101)], vm := .none },
  { cls := 8, slots := #[.int (-100)], vm := .none },
  { cls := 8, slots := #[.int (-99)], vm := .none },
  { cls := 8, slots := #[.int (-98)], vm := .none },
  { cls := 8, slots := #[.int (-97)], vm := .none },
  { cls := 8, slots := #[.int (-96)], vm := .none },
  { cls := 8, slots := #[.int (-95)], vm := .none },
  { cls := 8, slots := #[.int (-94)], vm := .none },
  { cls := 8, slots := #[.int (-93)], vm := .none },
  { cls := 8, slots := #[.int (-92)], vm := .none },
  { cls := 8, slots := #[.int (-91)], vm := .none },
  { cls := 8, slots := #[.int (-90)], vm := .none },
  { cls := 8, slots := #[.int (-89)], vm := .none },
  { cls := 8, slots := #[.int (-88)], vm := .none },
  { cls := 8, slots := #[.int (-87)], vm := .none },
  { cls := 8, slots := #[.int (-86)], vm := .none },
  { cls := 8, slots := #[.int (-85)], vm := .none },
  { cls := 8, slots := #[.int (-84)], vm := .none },
  { cls := 8, slots := #[.int (-83)], vm := .none },
  { cls := 8, slots := #[.int (-82)], vm := .none },
  { cls := 8, slots := #[.int (-81)], vm := .none },
  { cls := 8, slots := #[.int (-80)], vm := .none },
  { cls := 8, slots := #[.int (-79)], vm := .none },
  { cls := 8, slots := #[.int (-78)], vm := .none },
  { cls := 8, slots := #[.int (-77)], vm := .none },
  { cls := 8, slots := #[.int (-76)], vm := .none },
  { cls := 8, slots := #[.int (-75)], vm := .none },
  { cls := 8, slots := #[.int (-74)], vm := .none },
  { cls := 8, slots := #[.int (-73)], vm := .none },
  { cls := 8, slots := #[.int (-72)], vm := .none },
  { cls := 8, slots := #[.int (-71)], vm := .none },
  { cls := 8, slots := #[.int (-70)], vm := .none },
  { cls := 8, slots := #[.int (-69)], vm := .none },
  { cls := 8, slots := #[.int (-68)], vm := .none },
  { cls := 8, slots := #[.int (-67)], vm := .none },
  { cls := 8, slots := #[.int (-66)], vm := .none },
  { cls := 8, slots := #[.int (-65)], vm := .none },
  { cls := 8, slots := #[.int (-64)], vm := .none },
  { cls := 8, slots := #[.int (-63)], vm := .none },
  { cls := 8, slots := #[.int (-62)], vm := .none },
  { cls := 8, slots := #[.int (-61)], vm := .none },
  { cls := 8, slots := #[.int (-60)], vm := .none },
  { cls := 8, slots := #[.int (-59)], vm := .none },
  { cls := 8, slots := #[.int (-58)], vm := .none },
  { cls := 8, slots := #[.int (-57)], vm := .none },
  { cls := 8, slots := #[.int (-56)], vm := .none },
  { cls := 8, slots := #[.int (-55)], vm := .none },
  { cls := 8, slots := #[.int (-54)], vm := .none },
  { cls := 8, slots := #[.int (-53)], vm := .none },
  { cls := 8, slots := #[.int (-52)], vm := .none },
  { cls := 8, slots := #[.int (-51)], vm := .none },
  { cls := 8, slots := #[.int (-50)], vm := .none },
  { cls := 8, slots := #[.int (-49)], vm := .none },
  { cls := 8, slots := #[.int (-48)], vm := .none },
  { cls := 8, slots := #[.int (-47)], vm := .none },
  { cls := 8, slots := #[.int (-46)], vm := .none },
  { cls := 8, slots := #[.int (-45)], vm := .none },
  { cls := 8, slots := #[.int (-44)], vm := .none },
  { cls := 8, slots := #[.int (-43)], vm := .none },
  { cls := 8, slots := #[.int (-42)], vm := .none },
  { cls := 8, slots := #[.int (-41)], vm := .none },
  { cls := 8, slots := #[.int (-40)], vm := .none },
  { cls := 8, slots := #[.int (-39)], vm := .none },
  { cls := 8, slots := #[.int (-38)], vm := .none },
  { cls := 8, slots := #[.int (-37)], vm := .none },
  { cls := 8, slots := #[.int (-36)], vm := .none },
  { cls := 8, slots := #[.int (-35)], vm := .none },
  { cls := 8, slots := #[.int (-34)], vm := .none },
  { cls := 8, slots := #[.int (-33)], vm := .none },
  { cls := 8, slots := #[.int (-32)], vm := .none },
  { cls := 8, slots := #[.int (-31)], vm := .none },
  { cls := 8, slots := #[.int (-30)], vm := .none },
  { cls := 8, slots := #[.int (-29)], vm := .none },
  { cls := 8, slots := #[.int (-28)], vm := .none },
  { cls := 8, slots := #[.int (-27)], vm := .none },
  { cls := 8, slots := #[.int (-26)], vm := .none },
  { cls := 8, slots := #[.int (-25)], vm := .none },
  { cls := 8, slots := #[.int (-24)], vm := .none },
  { cls := 8, slots := #[.int (-23)], vm := .none },
  { cls := 8, slots := #[.int (-22)], vm := .none },
  { cls := 8, slots := #[.int (-21)], vm := .none },
  { cls := 8, slots := #[.int (-20)], vm := .none },
  { cls := 8, slots := #[.int (-19)], vm := .none },
  { cls := 8, slots := #[.int (-18)], vm := .none },
  { cls := 8, slots := #[.int (-17)], vm := .none },
  { cls := 8, slots := #[.int (-16)], vm := .none },
  { cls := 8, slots := #[.int (-15)], vm := .none },
  { cls := 8, slots := #[.int (-14)], vm := .none },
  { cls := 8, slots := #[.int (-13)], vm := .none },
  { cls := 8, slots := #[.int (-12)], vm := .none },
  { cls := 8, slots := #[.int (-11)], vm := .none },
  { cls := 8, slots := #[.int (-10)], vm := .none },
  { cls := 8, slots := #[.int (-9)], vm := .none },
  { cls := 8, slots := #[.int (-8)], vm := .none },
  { cls := 8, slots := #[.int (-7)], vm := .none },
  { cls := 8, slots := #[.int (-6)], vm := .none },
  { cls := 8, slots := #[.int (-5)], vm := .none },
  { cls := 8, slots := #[.int (-4)], vm := .none },
  { cls := 8, slots := #[.int (-3)], vm := .none },
  { cls := 8, slots := #[.int (-2)], vm := .none },
  { cls := 8, slots := #[.int (-1)], vm := .none },
  { cls := 8, slots := #[.int (0)], vm := .none },
  { cls := 8, slots := #[.int (1)], vm := .none },
  { cls := 8, slots := #[.int (2)], vm := .none },
  { cls := 8, slots := #[.int (3)], vm := .none },
  { cls := 8, slots := #[.int (4)], vm := .none },
  { cls := 8, slots := #[.int (5)], vm := .none },
  { cls := 8, slots := #[.int (6)], vm := .none },
  { cls := 8, slots := #[.int (7)], vm := .none },
  { cls := 8, slots := #[.int (8)], vm := .none },
  { cls := 8, slots := #[.int (9)], vm := .none },
  { cls := 8, slots := #[.int (10)], vm := .none },
  { cls := 8, slots := #[.int (11)], vm := .none },
  { cls := 8, slots := #[.int (12)], vm := .none },
  { cls := 8, slots := #[.int (13)], vm := .none },
  { cls := 8, slots := #[.int (14)], vm := .none },
  { cls := 8, slots := #[.int (15)], vm := .none },
  { cls := 8, slots := #[.int (16)], vm := .none },
  { cls := 8, slots := #[.int (17)], vm := .none },
  { cls := 8, slots := #[.int (18)], vm := .none },
  { cls := 8, slots := #[.int (19)], vm := .none },
  { cls := 8, slots := #[.int (20)], vm := .none },
  { cls := 8, slots := #[.int (21)], vm := .none },
  { cls := 8, slots := #[.int (22)], vm := .none },
  { cls := 8, slots := #[.int (23)], vm := .none },
  { cls := 8, slots := #[.int (24)], vm := .none },
  { cls := 8, slots := #[.int (25)], vm := .none },
  { cls := 8, slots := #[.int (26)], vm := .none },
  { cls := 8, slots := #[.int (27)], vm := .none },
  { cls := 8, slots := #[.int (28)], vm := .none },
  { cls := 8, slots := #[.int (29)], vm := .none },
  { cls := 8, slots := #[.int (30)], vm := .none },
  { cls := 8, slots := #[.int (31)], vm := .none },
  { cls := 8, slots := #[.int (32)], vm := .none },
  { cls := 8, slots := #[.int (33)], vm := .none },
  { cls := 8, slots := #[.int (34)], vm := .none },
  { cls := 8, slots := #[.int (35)], vm := .none },
  { cls := 8, slots := #[.int (36)], vm := .none },
  { cls := 8, slots := #[.int (37)], vm := .none },
  { cls := 8, slots := #[.int (38)], vm := .none },
  { cls := 8, slots := #[.int (39)], vm := .none },
  { cls := 8, slots := #[.int (40)], vm := .none },
  { cls := 8, slots := #[.int (41)], vm := .none },
  { cls := 8, slots := #[.int (42)], vm := .none },
  { cls := 8, slots := #[.int (43)], vm := .none },
  { cls := 8, slots := #[.int (44)], vm := .none },
  { cls := 8, slots := #[.int (45)], vm := .none },
  { cls := 8, slots := #[.int (46)], vm := .none },
  { cls := 8, slots := #[.int (47)], vm := .none },
  { cls := 8, slots := #[.int (48)], vm := .none },
  { cls := 8, slots := #[.int (49)], vm := .none },
  { cls := 8, slots := #[.int (50)], vm := .none },
  { cls := 8, slots := #[.int (51)], vm := .none },
  { cls := 8, slots := #[.int (52)], vm := .none },
  { cls := 8, slots := #[.int (53)], vm := .none },
  { cls := 8, slots := #[.int (54)], vm := .none },
  { cls := 8, slots := #[.int (55)], vm := .none },
  { cls := 8, slots := #[.int (56)], vm := .none },
  { cls := 8, slots := #[.int (57)], vm := .none },
  { cls := 8, slots := #[.int (58)], vm := .none },
  { cls := 8, slots := #[.int (59)], vm := .none },
  { cls := 8, slots := #[.int (60)], vm := .none },
  { cls := 8, slots := #[.int (61)], vm := .none },
  { cls := 8, slots := #[.int (62)], vm := .none },
  { cls := 8, slots := #[.int (63)], vm := .none },
  { cls := 8, slots := #[.int (64)], vm := .none },
  { cls := 8, slots := #[.int (65)], vm := .none },
  { cls := 8, slots := #[.int (66)], vm := .none },
  { cls := 8, slots := #[.int (67)], vm := .none },
  { cls := 8, slots := #[.int (68)], vm := .none },
  { cls := 8, slots := #[.int (69)], vm := .none },
  { cls := 8, slots := #[.int (70)], vm := .none },
  { cls := 8, slots := #[.int (71)], vm := .none },
  { cls := 8, slots := #[.int (72)], vm := .none },
  { cls := 8, slots := #[.int (73)], vm := .none },
  { cls := 8, slots := #[.int (74)], vm := .none },
  { cls := 8, slots := #[.int (75)], vm := .none },
  { cls := 8, slots := #[.int (76)], vm := .none },
  { cls := 8, slots := #[.int (77)], vm := .none },
  { cls := 8, slots := #[.int (78)], vm := .none },
  { cls := 8, slots := #[.int (79)], vm := .none },
  { cls := 8, slots := #[.int (80)], vm := .none },
  { cls := 8, slots := #[.int (81)], vm := .none },
  { cls := 8, slots := #[.int (82)], vm := .none },
  { cls := 8, slots := #[.int (83)], vm := .none },
  { cls := 8, slots := #[.int (84)], vm := .none },
  { cls := 8, slots := #[.int (85)], vm := .none },
  { cls := 8, slots := #[.int (86)], vm := .none },
  { cls := 8, slots := #[.int (87)], vm := .none },
  { cls := 8, slots := #[.int (88)], vm := .none },
  { cls := 8, slots := #[.int (89)], vm := .none },
  { cls := 8, slots := #[.int (90)], vm := .none },
  { cls := 8, slots := #[.int (91)], vm := .none },
  { cls := 8, slots := #[.int (92)], vm := .none },
  { cls := 8, slots := #[.int (93)], vm := .none },
  { cls := 8, slots := #[.int (94)], vm := .none },
  { cls := 8, slots := #[.int (95)], vm := .none },
  { cls := 8, slots := #[.int (96)], vm := .none },
  { cls := 8, slots := #[.int (97)], vm := .none },
  { cls := 8, slots := #[.int (98)], vm := .none },
  { cls := 8, slots := #[.int (99)], vm := .none },
  { cls := 8, slots := #[.int (100)], vm := .none },
  { cls := 8, slots := #[.int (101)], vm := .none },
  { cls := 8, slots := #[.int (102)], vm := .none },
  { cls := 8, slots := #[.int (103)], vm := .none },
  { cls := 8, slots := #[.int (104)], vm := .none },
  { cls := 8, slots := #[.int (105)], vm := .none },
  { cls := 8, slots := #[.int (106)], vm := .none },
  { cls := 8, slots := #[.int (107)], vm := .none },
  { cls := 8, slots := #[.int (108)], vm := .none },
  { cls := 8, slots := #[.int (109)], vm := .none },
  { cls := 8, slots := #[.int (110)], vm := .none },
  { cls := 8, slots := #[.int (111)], vm := .none },
  { cls := 8, slots := #[.int (112)], vm := .none },
  { cls := 8, slots := #[.int (113)], vm := .none },
  { cls := 8, slots := #[.int (114)], vm := .none },
  { cls := 8, slots := #[.int (115)], vm := .none },
  { cls := 8, slots := #[.int (116)], vm := .none },
  { cls := 8, slots := #[.int (117)], vm := .none },
  { cls := 8, slots := #[.int (118)], vm := .none },
  { cls := 8, slots := #[.int (119)], vm := .none },
  { cls := 8, slots := #[.int (120)], vm := .none },
  { cls := 8, slots := #[.int (121)], vm := .none },
  { cls := 8, slots := #[.int (122)], vm := .none },
  { cls := 8, slots := #[.int (123)], vm := .none },
  { cls := 8, slots := #[.int (124)], vm := .none },
  { cls := 8, slots := #[.int (125)], vm := .none },
  { cls := 8, slots := #[.int (126)], vm := .none },
  { cls := 8, slots := #[.int (127)], vm := .none }]
def classes : Array Class := #[k0, k1, k2, k3, k4, k5, k6, k7, k8, k9, k10, k11, k12, k13, k14, k15]
def interned : List (Array UInt16 × Addr) := []
def slotsUsed : Nat := 517
def theMethod : MethodId := ⟨1, 1⟩
def args0 : Array Value := #[.long 1, .long 2, .long 3, .long 4, .long 5, .int 0]
def aboutOver (below : List Frame) : State where
  vm := { classes := classes, interned := interned.toArray }
  heap := heap
  slotsUsed := slotsUsed
  threads := #[{ frames := .invoking theMethod args0 :: below }]
def below0 : List Frame := [.native { method := ⟨0, 0⟩, args := #[] }]
def about1 : State := aboutOver below0
def p0 : Program := .bare "" "" ""
def e0 : Env := launch0.env 0 0 0
theorem w_frames : about1.frames = Frame.invoking theMethod args0 :: below0 := rfl
set_option maxRecDepth 65536 in
theorem w_args : argsFit about1.vm theMethod args0 = true := by decide +kernel
set_option maxRecDepth 65536 in
theorem w_heap : heapFits about1 = true := by decide +kernel
set_option maxRecDepth 65536 in
theorem w_runnable : about1.curStatus? = some .runnable := by decide +kernel
set_option maxRecDepth 65536 in
theorem w_alone : about1.alone = true := by decide +kernel
set_option maxRecDepth 65536 in
theorem w_named : about1.methodNamed? x = some theMethod := by decide +kernel
set_option maxRecDepth 65536 in
theorem w_hears : about1.hears theMethod below0 = true := by decide +kernel
set_option maxRecDepth 65536 in
theorem w_ripe : about1.ripe theMethod args0 below0 = true := by decide +kernel
theorem w_running : about1.status = .running := rfl
set_option maxRecDepth 65536 in
theorem w_room : about1.hasRoom e0.platform room_1 = true :=
  launch0.hasRoom_least _ room_1 (by decide +kernel) (by decide +kernel) (by decide +kernel) (by decide +kernel) (by decide +kernel) (by decide +kernel)
theorem allAtoms_all (ts : List Jvm.Cond) (a : Array Jvm.Value) (st : Jvm.State) : (allAtoms ts).before a st = ts.all (fun c => c.before a st) := by
  induction ts with
  | nil => rfl
  | cons c t ih =>
    show (Jvm.Cond.and c (allAtoms t)).before a st = _
    rw [Jvm.Cond.before_and, ih, List.all_cons]
def words1 : List Jvm.Cond := Jvm.Cond.code x code maxLocals ret :: tables_1
/-- a 'code' word, met by the world's own term for the bytes: nothing is compared byte by byte -/
theorem code_word {y : MethodName} {bytes : ByteArray} {mx : Nat} {rt : Option FieldType} {a : Array Value} {s : State} {m : MethodId} {meth : Method} {c : Code} (h1 : s.methodNamed? y = some m) (h2 : s.vm.method? m = some meth) (h3 : meth.code = some c) (h4 : c.code = bytes)
    (h5 : (c.maxLocals == mx && c.exceptionTable.isEmpty && decide (c.maxStack ≤ mostOperands) && decide (meth.sig.returnType = rt) && !meth.locks && decide (parseMethodDescriptor y.desc = some meth.sig)) = true) : (Jvm.Cond.code y bytes mx rt).before a s = true := by
  simp only [Bool.and_eq_true, beq_iff_eq, Bool.not_eq_true', decide_eq_true_eq] at h5
  obtain ⟨⟨⟨⟨⟨g1, g2⟩, g3⟩, g4⟩, g5⟩, g6⟩ := h5
  simp [Cond.before, Cond.holds, Cond.value, h1, h2, h3, h4, g1, g2, g3, g4, g5, g6]
def isCode : Jvm.Cond → Bool
  | .code _ _ _ _ => true
  | _ => false
theorem all_split {L : List Jvm.Cond} {P : Jvm.Cond → Bool} (h1 : L.all (fun c => isCode c || P c) = true) (h2 : ∀ c ∈ L.filter isCode, P c = true) : L.all P = true := by
  refine List.all_eq_true.mpr fun c hc => ?_
  have h := List.all_eq_true.mp h1 c hc
  rcases Bool.eq_false_or_eq_true (isCode c) with hi | hi
  · exact h2 c (List.mem_filter.mpr ⟨hc, hi⟩)
  · simpa [hi] using h
set_option maxRecDepth 65536 in
theorem w_c0 : (Jvm.Cond.code x code maxLocals ret).before args0 about1 = true := code_word (m := ⟨1, 1⟩) (meth := k1m1) (c := k1c1) (by decide +kernel) rfl rfl rfl (by decide +kernel)
set_option maxRecDepth 65536 in
theorem w_c1 : (Jvm.Cond.code ({ cls := "com/example/settle/settle/io/SegmentLog$Place", name := "<init>", desc := "(JJJJ)V" } : Jvm.MethodName) prog_32_method_1_code (9 : Nat) (Option.none : Option Jvm.ClassFile.FieldType)).before args0 about1 = true := code_word (m := ⟨2, 0⟩) (meth := k2m0) (c := k2c0) (by decide +kernel) rfl rfl rfl (by decide +kernel)
set_option maxRecDepth 65536 in
theorem w_c2 : (Jvm.Cond.code ({ cls := "java/lang/Object", name := "<init>", desc := "()V" } : Jvm.MethodName) object_method_1_code (1 : Nat) (Option.none : Option Jvm.ClassFile.FieldType)).before args0 about1 = true := code_word (m := ⟨0, 0⟩) (meth := k0m0) (c := k0c0) (by decide +kernel) rfl rfl rfl (by decide +kernel)
set_option maxRecDepth 65536 in
theorem w_c3 : (Jvm.Cond.code ({ cls := "java/lang/Integer", name := "valueOf", desc := "(I)Ljava/lang/Integer;" } : Jvm.MethodName) jdk_33_method_22_code (1 : Nat) (Option.some (Jvm.ClassFile.FieldType.object "java/lang/Integer"))).before args0 about1 = true := code_word (m := ⟨8, 0⟩) (meth := k8m0) (c := k8c0) (by decide +kernel) rfl rfl rfl (by decide +kernel)
set_option maxRecDepth 65536 in
theorem w_c4 : (Jvm.Cond.code ({ cls := "com/example/settle/settle/io/SegmentLog$Place", name := "equals", desc := "(Ljava/lang/Object;)Z" } : Jvm.MethodName) prog_32_method_9_code (2 : Nat) (Option.some Jvm.ClassFile.FieldType.boolean)).before args0 about1 = true := code_word (m := ⟨2, 1⟩) (meth := k2m1) (c := k2c1) (by decide +kernel) rfl rfl rfl (by decide +kernel)
set_option maxRecDepth 65536 in
theorem w_c5 : (Jvm.Cond.code ({ cls := "java/lang/Integer", name := "<init>", desc := "(I)V" } : Jvm.MethodName) jdk_33_method_23_code (2 : Nat) (Option.none : Option Jvm.ClassFile.FieldType)).before args0 about1 = true := code_word (m := ⟨8, 1⟩) (meth := k8m1) (c := k8c1) (by decide +kernel) rfl rfl rfl (by decide +kernel)
set_option maxRecDepth 65536 in
theorem w_c6 : (Jvm.Cond.code ({ cls := "java/lang/Number", name := "<init>", desc := "()V" } : Jvm.MethodName) jdk_18_method_1_code (1 : Nat) (Option.none : Option Jvm.ClassFile.FieldType)).before args0 about1 = true := code_word (m := ⟨4, 0⟩) (meth := k4m0) (c := k4c0) (by decide +kernel) rfl rfl rfl (by decide +kernel)
def codes1 : List Jvm.Cond := [Jvm.Cond.code x code maxLocals ret, Jvm.Cond.code ({ cls := "com/example/settle/settle/io/SegmentLog$Place", name := "<init>", desc := "(JJJJ)V" } : Jvm.MethodName) prog_32_method_1_code (9 : Nat) (Option.none : Option Jvm.ClassFile.FieldType), Jvm.Cond.code ({ cls := "java/lang/Object", name := "<init>", desc := "()V" } : Jvm.MethodName) object_method_1_code (1 : Nat) (Option.none : Option Jvm.ClassFile.FieldType), Jvm.Cond.code ({ cls := "java/lang/Integer", name := "valueOf", desc := "(I)Ljava/lang/Integer;" } : Jvm.MethodName) jdk_33_method_22_code (1 : Nat) (Option.some (Jvm.ClassFile.FieldType.object "java/lang/Integer")), Jvm.Cond.code ({ cls := "com/example/settle/settle/io/SegmentLog$Place", name := "equals", desc := "(Ljava/lang/Object;)Z" } : Jvm.MethodName) prog_32_method_9_code (2 : Nat) (Option.some Jvm.ClassFile.FieldType.boolean), Jvm.Cond.code ({ cls := "java/lang/Integer", name := "<init>", desc := "(I)V" } : Jvm.MethodName) jdk_33_method_23_code (2 : Nat) (Option.none : Option Jvm.ClassFile.FieldType), Jvm.Cond.code ({ cls := "java/lang/Number", name := "<init>", desc := "()V" } : Jvm.MethodName) jdk_18_method_1_code (1 : Nat) (Option.none : Option Jvm.ClassFile.FieldType)]
set_option maxRecDepth 65536 in
theorem codes_eq : words1.filter isCode = codes1 := rfl
theorem w_codes : ∀ c ∈ words1.filter isCode, c.before args0 about1 = true := by
  rw [codes_eq]
  intro c hc
  simp only [codes1, List.mem_cons, List.not_mem_nil, or_false] at hc
  rcases hc with rfl | rfl | rfl | rfl | rfl | rfl | rfl
  · exact w_c0
  · exact w_c1
  · exact w_c2
  · exact w_c3
  · exact w_c4
  · exact w_c5
  · exact w_c6
set_option maxRecDepth 65536 in
theorem w_t1 : (words1.take 24).all (fun c => isCode c || c.before args0 about1) = true := by decide +kernel
set_option maxRecDepth 65536 in
theorem w_t2 : ((words1.drop 24).take 24).all (fun c => isCode c || c.before args0 about1) = true := by decide +kernel
set_option maxRecDepth 65536 in
theorem w_t3 : ((words1.drop 24).drop 24).all (fun c => isCode c || c.before args0 about1) = true := by decide +kernel
theorem w_tables : (allAtoms (Jvm.Cond.code x code maxLocals ret :: tables_1)).before args0 about1 = true := by
  rw [allAtoms_all]
  show words1.all (fun c => c.before args0 about1) = true
  refine all_split ?_ w_codes
  rw [← List.take_append_drop 24 words1, List.all_append, w_t1, ← List.take_append_drop 24 (words1.drop 24), List.all_append, w_t2, w_t3]
  rfl
set_option maxRecDepth 65536 in
theorem w_rest : rest_1_c.before args0 about1 = true := by decide +kernel
set_option maxRecDepth 65536 in
theorem w_case : (Jvm.Cond.and given_1 narrow_1).before args0 about1 = true := by decide +kernel
theorem w_applies : (headSpec (Jvm.Cond.code x code maxLocals ret :: tables_1) room_1).applies x e0.platform about1 = true :=
  (Spec.applies_iff w_frames).mpr ⟨w_running, w_runnable, w_alone, w_named, w_hears, w_ripe, w_room, w_tables⟩
theorem atStart : AtStart classFile x code maxLocals ret World_1 tables_1 room_1 Calls_1 rest_1 Pre_1 launch0 p0 e0 about1 theMethod args0 below0 :=
  ⟨lists_1, trivial, launch0.admits_env _ _ _, launch0.least_env, fairChoices_fair.cas, fairChoices_fair.clock, w_frames, w_args, w_heap, w_applies, trivial, w_rest, w_case⟩
end start1
theorem witness_1 : WitnessClaimed_1 := ⟨start1.p0, start1.e0, start1.about1, start1.theMethod, start1.args0, start1.below0, start1.atStart⟩
end Jvm.Pilot.@@N@@
