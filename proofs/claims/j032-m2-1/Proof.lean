import JvmDerived
import JvmDerived.Pilot.@@N@@Statement
import JvmDerived.Pilot.@@N@@Code
set_option linter.unusedVariables false
set_option linter.unusedSimpArgs false

namespace Jvm.Pilot.@@N@@
open Jvm Jvm.ClassFile Sem Op Lib Jvm.Free Jvm.Stand Jvm.LawKit Jvm.RoadKit Bundle Jvm.Pilot.@@N@@.Jvm.D
/-! ## own kit: a walk forwards, in small words -/
abbrev owK : Type := Program × Env × State × MethodId × Array Value × List Frame × Method × Code
abbrev owp (k : owK) : Program := k.1
abbrev owe (k : owK) : Env := k.2.1
abbrev ows (k : owK) : State := k.2.2.1
abbrev owm (k : owK) : MethodId := k.2.2.2.1
abbrev owa (k : owK) : Array Value := k.2.2.2.2.1
abbrev owb (k : owK) : List Frame := k.2.2.2.2.2.1
abbrev owM (k : owK) : Method := k.2.2.2.2.2.2.1
abbrev owc (k : owK) : Code := k.2.2.2.2.2.2.2
/-- what stands fast through a body -/
def owC (Z : State) (y : MethodName) (B : ByteArray) (ml : Nat) (rt : Option FieldType) (k : owK) : Prop :=
  (owp k).tables.exec = Jvm.exec ∧ Z.Warmed39 (ows k).vm ∧ (ows k).vm.findClass y.cls = some (owm k).cls ∧ (owc k).code = B ∧ (owc k).maxLocals = ml ∧ (owM k).name = y.name ∧ (owM k).sig.returnType = rt ∧ (owM k).locks = false
/-- where the walk stands: the state T with the heap h; cc cells and ss slots made so far; all writes at or above n0 -/
def Sd (l : Launch) (Z : State) (n0 : Nat) (y : MethodName) (B : ByteArray) (ml : Nat) (rt : Option FieldType) (R : Room) (k : owK) (T : State) (h : Heap) (cc ss : Nat) : Prop :=
  (∃ locs, Stand (owp k) l (owe k) R (ows k) (owm k) (owa k) (owb k) (owM k) (owc k) T locs cc ss ∧ Fr n0 locs) ∧ T.heap = h ∧ owC Z y B ml rt k
/-- from here the walk ends, as Q says -/
def Go (k : owK) (n0 : Nat) (Q : Option Value → Heap → Prop) (kc ks : Nat) (T : State) (pc : Nat) (Ls : Array Slot) (st : List Value) : Prop :=
  ∃ s₂ o, Steps (owp k).tables (owe k) (owb k) (T.setTop (mkF (owm k) pc Ls st)) s₂ ∧ s₂.status = .running ∧ Ended s₂ (owb k) o ∧ ∃ v L, o = .returned v ∧ (Fr n0 L ∧ Q v s₂.heap) ∧ FrameEnd (ows k) o s₂ L kc ks
/-- the contract of a body -/
def Met (l : Launch) (Z : State) (n0 : Nat) (y : MethodName) (B : ByteArray) (ml : Nat) (rt : Option FieldType) (ws : List Jvm.Cond) (R : Room) (as : Array Value) (h0 : Heap) (Q : Option Value → Heap → Prop) (kc ks : Nat) : Prop :=
  MetFree l y (head1 (Jvm.Cond.code y B ml rt :: ws) R) (fun a U => a = as ∧ Z.Warmed39 U.vm ∧ U.heap = h0) (fun _ _ _ _ _ => True) (fun _ U o U' => ∃ v L, o = .returned v ∧ (Fr n0 L ∧ Q v U'.heap) ∧ FrameEnd U o U' L kc ks)
section Ow
variable {l : Launch} {Z : State} {n0 : Nat} {y : MethodName} {B : ByteArray} {ml : Nat} {rt : Option FieldType} {R : Room} {k : owK} {T : State} {h : Heap} {cc ss : Nat} {Q : Option Value → Heap → Prop} {kc ks : Nat} {pc : Nat} {Ls : Array Slot} {st : List Value} {a0 : Array Value}
theorem Met.of {ws : List Jvm.Cond} {as : Array Value} {h0 : Heap} {Ls : Array Slot} (hp : Jvm.plainFor y = true) (hef : Jvm.Sym.laidSlots as.toList ++ List.replicate (ml - (Jvm.Sym.laidSlots as.toList).length) .unset = Ls.toList) (body : ∀ k T, Sd l Z n0 y B ml rt R k T h0 0 0 → Go k n0 Q kc ks T 0 Ls []) : Met l Z n0 y B ml rt ws R as h0 Q kc ks := by
  refine MetFree.of_bodySF hp hisR ?_
  intro p e s m args below meth c s₁ Bd hml hP hK
  obtain ⟨rfl, hZ, hh⟩ := hP
  have hown : s.vm.findClass y.cls = some m.cls := findClass_of_methodNamed Bd.named
  have hnm := (name_of_methodNamed Bd.named Bd.method).1
  have X0 : Stand p l e R s m args below meth c s₁ [] 0 0 := Stand.of_body Bd
  have e0 : s₁.heap = h0 := by rw [← hh, Bd.state]; rfl
  obtain ⟨s2, o, h1, h2, h3, h4⟩ := body (p, e, s, m, args, below, meth, c) s₁ ⟨⟨[], X0, Fr.nil n0⟩, e0, Bd.exec, hZ, hown, Bd.bytes, hml, hnm, Bd.returns, Bd.notSynchronized⟩
  exact ⟨s2, o, (XT.entry hef).trans h1, h2, h3, h4⟩
theorem Go.of {T T' : State} {pc' : Nat} {Ls' : Array Slot} {st' : List Value} (K : Go k n0 Q kc ks T' pc' Ls' st') (f : ∀ t, Steps (owp k).tables (owe k) (owb k) (T'.setTop (mkF (owm k) pc' Ls' st')) t → Steps (owp k).tables (owe k) (owb k) (T.setTop (mkF (owm k) pc Ls st)) t) : Go k n0 Q kc ks T pc Ls st := by
  obtain ⟨s2, o, h1, h2⟩ := K; exact ⟨s2, o, f _ h1, h2⟩
theorem Go.end {v : Option Value} (X : Sd l Z n0 y B ml rt R k T h cc ss) (hk : cc ≤ kc) (hs : ss ≤ ks) (hv : rt = none → v = none) (f : ∀ fs, (∀ (f : JFrame) (acts : List Action), f.method = owm k → f.locked = none → f.entered = [] → (doReturn (owe k) (T.setTop f) acts v).1 = T.setFrames fs) → Steps (owp k).tables (owe k) (owb k) (T.setTop (mkF (owm k) pc Ls st)) (T.setFrames fs)) (hQ : Q v h) : Go k n0 Q kc ks T pc Ls st := by
  obtain ⟨⟨locs, X, N⟩, rfl, hx, hZ, hown, hby, hml, hnm, hrt, hlk⟩ := X
  obtain ⟨fs, hr, hrun, hended, hW, hsame⟩ := X.leave (v := v) (fun q => hv (by rw [← hrt]; exact q)) hlk
  exact ⟨_, _, f fs hr, hrun, hended, _, _, rfl, ⟨N, hQ⟩, ⟨_, rfl⟩, hW, hsame.mono hk hs⟩
theorem Sd.hh (X : Sd l Z n0 y B ml rt R k T h cc ss) : At T (owm k) (owc k) (owb k) := by obtain ⟨⟨_, X, _⟩, _⟩ := X; exact X.here
theorem Sd.x (X : Sd l Z n0 y B ml rt R k T h cc ss) : (owp k).tables.exec = Jvm.exec := X.2.2.1
theorem Sd.d (X : Sd l Z n0 y B ml rt R k T h cc ss) {pc : Nat} {r : Except ClassFile.DecodeError (ClassFile.Instr × Nat)} (hd : decode B pc = r) : decode (owc k).code pc = r := hb X.2.2.2.2.2.1 hd
theorem Sd.heap (X : Sd l Z n0 y B ml rt R k T h cc ss) : T.heap = h := X.2.1
/-! loads, stores, constants -/
theorem g_aloadN (X : Sd l Z n0 y B ml rt R k T h cc ss) {i : Fin 4} {v : Value} (hd : decode B pc = .ok (.aload_n i, 1)) (hl : Ls[i.val]? = some (.val v)) (hv : v.isRef = true) (pc' : Nat) (hp : pc + 1 = pc') (K : Go k n0 Q kc ks T pc' Ls (v :: st)) : Go k n0 Q kc ks T pc Ls st := by subst hp; exact K.of fun _ q => XS.aloadN X.hh X.x rfl (X.d hd) hl hv q
theorem g_aload (X : Sd l Z n0 y B ml rt R k T h cc ss) {i : Nat} {v : Value} (hd : decode B pc = .ok (.aload i, 2)) (hl : Ls[i]? = some (.val v)) (hv : v.isRef = true) (pc' : Nat) (hp : pc + 2 = pc') (K : Go k n0 Q kc ks T pc' Ls (v :: st)) : Go k n0 Q kc ks T pc Ls st := by subst hp; exact K.of fun _ q => XS.aload X.hh X.x rfl (X.d hd) hl hv q
theorem g_iloadN (X : Sd l Z n0 y B ml rt R k T h cc ss) {i : Fin 4} {v : Int32} (hd : decode B pc = .ok (.iload_n i, 1)) (hl : Ls[i.val]? = some (.val (.int v))) (pc' : Nat) (hp : pc + 1 = pc') (K : Go k n0 Q kc ks T pc' Ls (.int v :: st)) : Go k n0 Q kc ks T pc Ls st := by subst hp; exact K.of fun _ q => XS.iloadN X.hh X.x rfl (X.d hd) hl q
theorem g_iload (X : Sd l Z n0 y B ml rt R k T h cc ss) {i : Nat} {v : Int32} (hd : decode B pc = .ok (.iload i, 2)) (hl : Ls[i]? = some (.val (.int v))) (pc' : Nat) (hp : pc + 2 = pc') (K : Go k n0 Q kc ks T pc' Ls (.int v :: st)) : Go k n0 Q kc ks T pc Ls st := by subst hp; exact K.of fun _ q => XS.iload X.hh X.x rfl (X.d hd) hl q
theorem g_lloadN (X : Sd l Z n0 y B ml rt R k T h cc ss) {i : Fin 4} {v : Int64} (hd : decode B pc = .ok (.lload_n i, 1)) (hl : Ls[i.val]? = some (.val (.long v))) (pc' : Nat) (hp : pc + 1 = pc') (K : Go k n0 Q kc ks T pc' Ls (.long v :: st)) : Go k n0 Q kc ks T pc Ls st := by subst hp; exact K.of fun _ q => XT.lloadN X.hh X.x rfl (X.d hd) hl q
theorem g_lload (X : Sd l Z n0 y B ml rt R k T h cc ss) {i : Nat} {v : Int64} (hd : decode B pc = .ok (.lload i, 2)) (hl : Ls[i]? = some (.val (.long v))) (pc' : Nat) (hp : pc + 2 = pc') (K : Go k n0 Q kc ks T pc' Ls (.long v :: st)) : Go k n0 Q kc ks T pc Ls st := by subst hp; exact K.of fun _ q => XT.lload X.hh X.x rfl (X.d hd) hl q
theorem g_istoreN (X : Sd l Z n0 y B ml rt R k T h cc ss) {i : Fin 4} {v : Int32} (hd : decode B pc = .ok (.istore_n i, 1)) (L' : Array Slot) (hl : storeLocals Ls i.val (.int v) = some L') (pc' : Nat) (hp : pc + 1 = pc') (K : Go k n0 Q kc ks T pc' L' st) : Go k n0 Q kc ks T pc Ls (.int v :: st) := by subst hp; exact K.of fun _ q => XS.istoreN X.hh X.x rfl (X.d hd) rfl hl q
theorem g_istore (X : Sd l Z n0 y B ml rt R k T h cc ss) {i : Nat} {v : Int32} (hd : decode B pc = .ok (.istore i, 2)) (L' : Array Slot) (hl : storeLocals Ls i (.int v) = some L') (pc' : Nat) (hp : pc + 2 = pc') (K : Go k n0 Q kc ks T pc' L' st) : Go k n0 Q kc ks T pc Ls (.int v :: st) := by subst hp; exact K.of fun _ q => XS.istore X.hh X.x rfl (X.d hd) rfl hl q
theorem g_lstoreN (X : Sd l Z n0 y B ml rt R k T h cc ss) {i : Fin 4} {v : Int64} (hd : decode B pc = .ok (.lstore_n i, 1)) (L' : Array Slot) (hl : storeLocals Ls i.val (.long v) = some L') (pc' : Nat) (hp : pc + 1 = pc') (K : Go k n0 Q kc ks T pc' L' st) : Go k n0 Q kc ks T pc Ls (.long v :: st) := by subst hp; exact K.of fun _ q => XT.lstoreN X.hh X.x rfl (X.d hd) rfl hl q
theorem g_lstore (X : Sd l Z n0 y B ml rt R k T h cc ss) {i : Nat} {v : Int64} (hd : decode B pc = .ok (.lstore i, 2)) (L' : Array Slot) (hl : storeLocals Ls i (.long v) = some L') (pc' : Nat) (hp : pc + 2 = pc') (K : Go k n0 Q kc ks T pc' L' st) : Go k n0 Q kc ks T pc Ls (.long v :: st) := by subst hp; exact K.of fun _ q => XT.lstore X.hh X.x rfl (X.d hd) rfl hl q
theorem g_astoreN (X : Sd l Z n0 y B ml rt R k T h cc ss) {i : Fin 4} {v : Value} (hd : decode B pc = .ok (.astore_n i, 1)) (hv : v.isRef = true) (L' : Array Slot) (hl : storeLocals Ls i.val v = some L') (pc' : Nat) (hp : pc + 1 = pc') (K : Go k n0 Q kc ks T pc' L' st) : Go k n0 Q kc ks T pc Ls (v :: st) := by subst hp; exact K.of fun _ q => XS.astoreN X.hh X.x rfl (X.d hd) rfl hv hl q
theorem g_astore (X : Sd l Z n0 y B ml rt R k T h cc ss) {i : Nat} {v : Value} (hd : decode B pc = .ok (.astore i, 2)) (hv : v.isRef = true) (L' : Array Slot) (hl : storeLocals Ls i v = some L') (pc' : Nat) (hp : pc + 2 = pc') (K : Go k n0 Q kc ks T pc' L' st) : Go k n0 Q kc ks T pc Ls (v :: st) := by subst hp; exact K.of fun _ q => XS.astore X.hh X.x rfl (X.d hd) rfl hv hl q
theorem g_iconst (X : Sd l Z n0 y B ml rt R k T h cc ss) {i : Int} (v : Int32) (hd : decode B pc = .ok (.iconst i, 1)) (hv : Int32.ofInt i = v) (pc' : Nat) (hp : pc + 1 = pc') (K : Go k n0 Q kc ks T pc' Ls (.int v :: st)) : Go k n0 Q kc ks T pc Ls st := by subst hp; exact K.of fun _ q => XT.iconstV X.hh X.x rfl v (X.d hd) hv q
theorem g_bipush (X : Sd l Z n0 y B ml rt R k T h cc ss) {i : Int} (v : Int32) (hd : decode B pc = .ok (.bipush i, 2)) (hv : (Int8.ofInt i).toInt32 = v) (pc' : Nat) (hp : pc + 2 = pc') (K : Go k n0 Q kc ks T pc' Ls (.int v :: st)) : Go k n0 Q kc ks T pc Ls st := by subst hp; exact K.of fun _ q => XT.bipushV X.hh X.x rfl v (X.d hd) hv q
theorem g_sipush (X : Sd l Z n0 y B ml rt R k T h cc ss) {i : Int} (v : Int32) (hd : decode B pc = .ok (.sipush i, 3)) (hv : (Int16.ofInt i).toInt32 = v) (pc' : Nat) (hp : pc + 3 = pc') (K : Go k n0 Q kc ks T pc' Ls (.int v :: st)) : Go k n0 Q kc ks T pc Ls st := by subst hp; exact K.of fun _ q => XT.sipushV X.hh X.x rfl v (X.d hd) hv q
theorem g_lconst (X : Sd l Z n0 y B ml rt R k T h cc ss) {i : Fin 2} (v : Int64) (hd : decode B pc = .ok (.lconst i, 1)) (hv : Int64.ofNat i = v) (pc' : Nat) (hp : pc + 1 = pc') (K : Go k n0 Q kc ks T pc' Ls (.long v :: st)) : Go k n0 Q kc ks T pc Ls st := by subst hp; exact K.of fun _ q => XT.lconstV X.hh X.x rfl v (X.d hd) hv q
theorem g_null (X : Sd l Z n0 y B ml rt R k T h cc ss) (hd : decode B pc = .ok (.aconst_null, 1)) (pc' : Nat) (hp : pc + 1 = pc') (K : Go k n0 Q kc ks T pc' Ls (.null :: st)) : Go k n0 Q kc ks T pc Ls st := by subst hp; exact K.of fun _ q => XS.aconstNull X.hh X.x rfl (X.d hd) q
theorem g_iinc (X : Sd l Z n0 y B ml rt R k T h cc ss) {i : Nat} {cst : Int} {x : Int32} (v : Int32) (hd : decode B pc = .ok (.iinc i cst, 3)) (hv : Int32.ofInt cst = v) (hl : Ls[i]? = some (.val (.int x))) (L' : Array Slot) (hl' : storeLocals Ls i (.int (x + v)) = some L') (pc' : Nat) (hp : pc + 3 = pc') (K : Go k n0 Q kc ks T pc' L' st) : Go k n0 Q kc ks T pc Ls st := by subst hp; exact K.of fun _ q => XT.iincV X.hh X.x rfl v (X.d hd) hv hl hl' q
/-! arithmetic -/
theorem g_iadd (X : Sd l Z n0 y B ml rt R k T h cc ss) {a b : Int32} (hd : decode B pc = .ok (.iadd, 1)) (pc' : Nat) (hp : pc + 1 = pc') (K : Go k n0 Q kc ks T pc' Ls (.int (a + b) :: st)) : Go k n0 Q kc ks T pc Ls (.int b :: .int a :: st) := by subst hp; exact K.of fun _ q => XS.iadd X.hh X.x rfl (X.d hd) rfl q
theorem g_isub (X : Sd l Z n0 y B ml rt R k T h cc ss) {a b : Int32} (hd : decode B pc = .ok (.isub, 1)) (pc' : Nat) (hp : pc + 1 = pc') (K : Go k n0 Q kc ks T pc' Ls (.int (a - b) :: st)) : Go k n0 Q kc ks T pc Ls (.int b :: .int a :: st) := by subst hp; exact K.of fun _ q => XS.isub X.hh X.x rfl (X.d hd) rfl q
theorem g_imul (X : Sd l Z n0 y B ml rt R k T h cc ss) {a b : Int32} (hd : decode B pc = .ok (.imul, 1)) (pc' : Nat) (hp : pc + 1 = pc') (K : Go k n0 Q kc ks T pc' Ls (.int (a * b) :: st)) : Go k n0 Q kc ks T pc Ls (.int b :: .int a :: st) := by subst hp; exact K.of fun _ q => XS.imul X.hh X.x rfl (X.d hd) rfl q
theorem g_idiv (X : Sd l Z n0 y B ml rt R k T h cc ss) {a b : Int32} (hd : decode B pc = .ok (.idiv, 1)) (hb : b ≠ 0) (pc' : Nat) (hp : pc + 1 = pc') (K : Go k n0 Q kc ks T pc' Ls (.int (a / b) :: st)) : Go k n0 Q kc ks T pc Ls (.int b :: .int a :: st) := by subst hp; exact K.of fun _ q => XS.idiv X.hh X.x rfl (X.d hd) rfl hb q
theorem g_irem (X : Sd l Z n0 y B ml rt R k T h cc ss) {a b : Int32} (hd : decode B pc = .ok (.irem, 1)) (hb : b ≠ 0) (pc' : Nat) (hp : pc + 1 = pc') (K : Go k n0 Q kc ks T pc' Ls (.int (a % b) :: st)) : Go k n0 Q kc ks T pc Ls (.int b :: .int a :: st) := by
  subst hp; obtain ⟨⟨locs, Y, N⟩, eh, hc⟩ := X
  exact K.of fun _ q => iremM Y hc.1 (g := mkF (owm k) pc Ls (.int b :: .int a :: st)) rfl (Jvm.hb hc.2.2.2.1 hd) rfl hb q
theorem g_iand (X : Sd l Z n0 y B ml rt R k T h cc ss) {a b : Int32} (hd : decode B pc = .ok (.iand, 1)) (pc' : Nat) (hp : pc + 1 = pc') (K : Go k n0 Q kc ks T pc' Ls (.int (a &&& b) :: st)) : Go k n0 Q kc ks T pc Ls (.int b :: .int a :: st) := by subst hp; exact K.of fun _ q => XS.iand X.hh X.x rfl (X.d hd) rfl q
theorem g_ior (X : Sd l Z n0 y B ml rt R k T h cc ss) {a b : Int32} (hd : decode B pc = .ok (.ior, 1)) (pc' : Nat) (hp : pc + 1 = pc') (K : Go k n0 Q kc ks T pc' Ls (.int (a ||| b) :: st)) : Go k n0 Q kc ks T pc Ls (.int b :: .int a :: st) := by subst hp; exact K.of fun _ q => XS.ior X.hh X.x rfl (X.d hd) rfl q
theorem g_ixor (X : Sd l Z n0 y B ml rt R k T h cc ss) {a b : Int32} (hd : decode B pc = .ok (.ixor, 1)) (pc' : Nat) (hp : pc + 1 = pc') (K : Go k n0 Q kc ks T pc' Ls (.int (a ^^^ b) :: st)) : Go k n0 Q kc ks T pc Ls (.int b :: .int a :: st) := by subst hp; exact K.of fun _ q => XS.ixor X.hh X.x rfl (X.d hd) rfl q
theorem g_ishl (X : Sd l Z n0 y B ml rt R k T h cc ss) {a b : Int32} (hd : decode B pc = .ok (.ishl, 1)) (pc' : Nat) (hp : pc + 1 = pc') (K : Go k n0 Q kc ks T pc' Ls (.int (a <<< (b &&& 31)) :: st)) : Go k n0 Q kc ks T pc Ls (.int b :: .int a :: st) := by subst hp; exact K.of fun _ q => XS.ishl X.hh X.x rfl (X.d hd) rfl q
theorem g_ishr (X : Sd l Z n0 y B ml rt R k T h cc ss) {a b : Int32} (hd : decode B pc = .ok (.ishr, 1)) (pc' : Nat) (hp : pc + 1 = pc') (K : Go k n0 Q kc ks T pc' Ls (.int (a >>> (b &&& 31)) :: st)) : Go k n0 Q kc ks T pc Ls (.int b :: .int a :: st) := by subst hp; exact K.of fun _ q => XS.ishr X.hh X.x rfl (X.d hd) rfl q
theorem g_iushr (X : Sd l Z n0 y B ml rt R k T h cc ss) {a b : Int32} (hd : decode B pc = .ok (.iushr, 1)) (pc' : Nat) (hp : pc + 1 = pc') (K : Go k n0 Q kc ks T pc' Ls (.int ((a.toUInt32 >>> (b &&& 31).toUInt32).toInt32) :: st)) : Go k n0 Q kc ks T pc Ls (.int b :: .int a :: st) := by subst hp; exact K.of fun _ q => XS.iushr X.hh X.x rfl (X.d hd) rfl q
theorem g_ineg (X : Sd l Z n0 y B ml rt R k T h cc ss) {a : Int32} (hd : decode B pc = .ok (.ineg, 1)) (pc' : Nat) (hp : pc + 1 = pc') (K : Go k n0 Q kc ks T pc' Ls (.int (-a) :: st)) : Go k n0 Q kc ks T pc Ls (.int a :: st) := by subst hp; exact K.of fun _ q => XS.ineg X.hh X.x rfl (X.d hd) rfl q
theorem g_ladd (X : Sd l Z n0 y B ml rt R k T h cc ss) {a b : Int64} (hd : decode B pc = .ok (.ladd, 1)) (pc' : Nat) (hp : pc + 1 = pc') (K : Go k n0 Q kc ks T pc' Ls (.long (a + b) :: st)) : Go k n0 Q kc ks T pc Ls (.long b :: .long a :: st) := by subst hp; exact K.of fun _ q => XS.ladd X.hh X.x rfl (X.d hd) rfl q
theorem g_lsub (X : Sd l Z n0 y B ml rt R k T h cc ss) {a b : Int64} (hd : decode B pc = .ok (.lsub, 1)) (pc' : Nat) (hp : pc + 1 = pc') (K : Go k n0 Q kc ks T pc' Ls (.long (a - b) :: st)) : Go k n0 Q kc ks T pc Ls (.long b :: .long a :: st) := by subst hp; exact K.of fun _ q => XS.lsub X.hh X.x rfl (X.d hd) rfl q
theorem g_land (X : Sd l Z n0 y B ml rt R k T h cc ss) {a b : Int64} (hd : decode B pc = .ok (.land, 1)) (pc' : Nat) (hp : pc + 1 = pc') (K : Go k n0 Q kc ks T pc' Ls (.long (a &&& b) :: st)) : Go k n0 Q kc ks T pc Ls (.long b :: .long a :: st) := by subst hp; exact K.of fun _ q => XS.land X.hh X.x rfl (X.d hd) rfl q
theorem g_lushr (X : Sd l Z n0 y B ml rt R k T h cc ss) {a : Int64} {b : Int32} (hd : decode B pc = .ok (.lushr, 1)) (pc' : Nat) (hp : pc + 1 = pc') (K : Go k n0 Q kc ks T pc' Ls (.long ((a.toUInt64 >>> (b &&& 0x3f).toInt64.toUInt64).toInt64) :: st)) : Go k n0 Q kc ks T pc Ls (.int b :: .long a :: st) := by subst hp; exact K.of fun _ q => XS.lushr X.hh X.x rfl (X.d hd) rfl q
theorem g_i2l (X : Sd l Z n0 y B ml rt R k T h cc ss) {a : Int32} (hd : decode B pc = .ok (.i2l, 1)) (pc' : Nat) (hp : pc + 1 = pc') (K : Go k n0 Q kc ks T pc' Ls (.long a.toInt64 :: st)) : Go k n0 Q kc ks T pc Ls (.int a :: st) := by subst hp; exact K.of fun _ q => XS.i2l X.hh X.x rfl (X.d hd) rfl q
theorem g_l2i (X : Sd l Z n0 y B ml rt R k T h cc ss) {a : Int64} (hd : decode B pc = .ok (.l2i, 1)) (pc' : Nat) (hp : pc + 1 = pc') (K : Go k n0 Q kc ks T pc' Ls (.int a.toInt32 :: st)) : Go k n0 Q kc ks T pc Ls (.long a :: st) := by subst hp; exact K.of fun _ q => XS.l2i X.hh X.x rfl (X.d hd) rfl q
theorem g_i2b (X : Sd l Z n0 y B ml rt R k T h cc ss) {a : Int32} (hd : decode B pc = .ok (.i2b, 1)) (pc' : Nat) (hp : pc + 1 = pc') (K : Go k n0 Q kc ks T pc' Ls (.int a.toInt8.toInt32 :: st)) : Go k n0 Q kc ks T pc Ls (.int a :: st) := by subst hp; exact K.of fun _ q => XS.i2b X.hh X.x rfl (X.d hd) rfl q
theorem g_i2c (X : Sd l Z n0 y B ml rt R k T h cc ss) {a : Int32} (hd : decode B pc = .ok (.i2c, 1)) (pc' : Nat) (hp : pc + 1 = pc') (K : Go k n0 Q kc ks T pc' Ls (.int a.toUInt32.toUInt16.toUInt32.toInt32 :: st)) : Go k n0 Q kc ks T pc Ls (.int a :: st) := by subst hp; exact K.of fun _ q => XS.i2c X.hh X.x rfl (X.d hd) rfl q
theorem g_lcmp (X : Sd l Z n0 y B ml rt R k T h cc ss) {a b : Int64} (hd : decode B pc = .ok (.lcmp, 1)) (pc' : Nat) (hp : pc + 1 = pc') (K : Go k n0 Q kc ks T pc' Ls (.int (XT.cmpL a b) :: st)) : Go k n0 Q kc ks T pc Ls (.long b :: .long a :: st) := by subst hp; exact K.of fun _ q => XT.lcmp X.hh X.x rfl (X.d hd) rfl q
/-! the stack -/
theorem g_dup (X : Sd l Z n0 y B ml rt R k T h cc ss) {v : Value} (hd : decode B pc = .ok (.dup, 1)) (hc : v.category = 1) (pc' : Nat) (hp : pc + 1 = pc') (K : Go k n0 Q kc ks T pc' Ls (v :: v :: st)) : Go k n0 Q kc ks T pc Ls (v :: st) := by subst hp; exact K.of fun _ q => XS.dup X.hh X.x rfl (X.d hd) rfl hc q
theorem g_pop (X : Sd l Z n0 y B ml rt R k T h cc ss) {v : Value} (hd : decode B pc = .ok (.pop, 1)) (hc : v.category = 1) (pc' : Nat) (hp : pc + 1 = pc') (K : Go k n0 Q kc ks T pc' Ls st) : Go k n0 Q kc ks T pc Ls (v :: st) := by subst hp; exact K.of fun _ q => XS.pop X.hh X.x rfl (X.d hd) rfl hc q
theorem g_dupX1 (X : Sd l Z n0 y B ml rt R k T h cc ss) {v w : Value} (hd : decode B pc = .ok (.dup_x1, 1)) (hc : v.category = 1) (hc2 : w.category = 1) (pc' : Nat) (hp : pc + 1 = pc') (K : Go k n0 Q kc ks T pc' Ls (v :: w :: v :: st)) : Go k n0 Q kc ks T pc Ls (v :: w :: st) := by subst hp; exact K.of fun _ q => XS.dupX1 X.hh X.x rfl (X.d hd) rfl hc hc2 q
theorem g_dup2 (X : Sd l Z n0 y B ml rt R k T h cc ss) {v w : Value} (hd : decode B pc = .ok (.dup2, 1)) (hc : v.category = 1) (hc2 : w.category = 1) (pc' : Nat) (hp : pc + 1 = pc') (K : Go k n0 Q kc ks T pc' Ls (v :: w :: v :: w :: st)) : Go k n0 Q kc ks T pc Ls (v :: w :: st) := by subst hp; exact K.of fun _ q => XT.dup2 X.hh X.x rfl (X.d hd) rfl hc hc2 q
/-! jumps -/
theorem g_goto (X : Sd l Z n0 y B ml rt R k T h cc ss) {o : Int} (hd : decode B pc = .ok (.goto o, 3)) (pc' : Nat) (ho : 0 ≤ (pc : Int) + o) (hp : ((pc : Int) + o).toNat = pc') (K : Go k n0 Q kc ks T pc' Ls st) : Go k n0 Q kc ks T pc Ls st := K.of fun _ q => XS.goto X.hh X.x rfl rfl (X.d hd) ho hp q
theorem g_if (X : Sd l Z n0 y B ml rt R k T h cc ss) {cd : ClassFile.Cond} {a : Int32} {o : Int} {C : Prop} (hc : ifCond.holds cd a = true ↔ C) (hd : decode B pc = .ok (.ifCond cd o, 3)) (pT : Nat) (ho : 0 ≤ (pc : Int) + o) (hT : ((pc : Int) + o).toNat = pT) (pF : Nat) (hF : pc + 3 = pF) (K1 : C → Go k n0 Q kc ks T pT Ls st) (K2 : ¬ C → Go k n0 Q kc ks T pF Ls st) : Go k n0 Q kc ks T pc Ls (.int a :: st) := by
  subst hF
  cases q : ifCond.holds cd a with
  | true => exact (K1 (hc.mp q)).of fun _ z => XS.ifYes X.hh X.x rfl rfl (X.d hd) rfl q ho hT z
  | false => exact (K2 (fun z => by rw [hc.mpr z] at q; cases q)).of fun _ z => XS.ifNo X.hh X.x rfl (X.d hd) rfl q z
theorem g_icmp (X : Sd l Z n0 y B ml rt R k T h cc ss) {cd : ClassFile.Cond} {a b : Int32} {o : Int} {C : Prop} (hc : if_icmp.holds cd a b = true ↔ C) (hd : decode B pc = .ok (.if_icmp cd o, 3)) (pT : Nat) (ho : 0 ≤ (pc : Int) + o) (hT : ((pc : Int) + o).toNat = pT) (pF : Nat) (hF : pc + 3 = pF) (K1 : C → Go k n0 Q kc ks T pT Ls st) (K2 : ¬ C → Go k n0 Q kc ks T pF Ls st) : Go k n0 Q kc ks T pc Ls (.int b :: .int a :: st) := by
  subst hF
  cases q : if_icmp.holds cd a b with
  | true => exact (K1 (hc.mp q)).of fun _ z => XS.icmpYes X.hh X.x rfl rfl (X.d hd) rfl q ho hT z
  | false => exact (K2 (fun z => by rw [hc.mpr z] at q; cases q)).of fun _ z => XS.icmpNo X.hh X.x rfl (X.d hd) rfl q z
/-- the same, told the other way round: the jump is taken where C fails -/
theorem g_ifN (X : Sd l Z n0 y B ml rt R k T h cc ss) {cd : ClassFile.Cond} {a : Int32} {o : Int} {C : Prop} (hc : ifCond.holds cd a = true ↔ ¬ C) (hd : decode B pc = .ok (.ifCond cd o, 3)) (pT : Nat) (ho : 0 ≤ (pc : Int) + o) (hT : ((pc : Int) + o).toNat = pT) (pF : Nat) (hF : pc + 3 = pF) (K1 : C → Go k n0 Q kc ks T pF Ls st) (K2 : ¬ C → Go k n0 Q kc ks T pT Ls st) : Go k n0 Q kc ks T pc Ls (.int a :: st) :=
  g_if X hc hd pT ho hT pF hF K2 fun q => K1 (Classical.not_not.mp q)
theorem g_icmpN (X : Sd l Z n0 y B ml rt R k T h cc ss) {cd : ClassFile.Cond} {a b : Int32} {o : Int} {C : Prop} (hc : if_icmp.holds cd a b = true ↔ ¬ C) (hd : decode B pc = .ok (.if_icmp cd o, 3)) (pT : Nat) (ho : 0 ≤ (pc : Int) + o) (hT : ((pc : Int) + o).toNat = pT) (pF : Nat) (hF : pc + 3 = pF) (K1 : C → Go k n0 Q kc ks T pF Ls st) (K2 : ¬ C → Go k n0 Q kc ks T pT Ls st) : Go k n0 Q kc ks T pc Ls (.int b :: .int a :: st) :=
  g_icmp X hc hd pT ho hT pF hF K2 fun q => K1 (Classical.not_not.mp q)
theorem z_eq {a : Int32} : ifCond.holds .eq a = true ↔ a = 0 := by simp [ifCond.holds]
theorem z_ne {a : Int32} : ifCond.holds .ne a = true ↔ ¬ a = 0 := by simp [ifCond.holds]
theorem z_lt {a : Int32} : ifCond.holds .lt a = true ↔ a < 0 := by simp [ifCond.holds]
theorem z_ge {a : Int32} : ifCond.holds .ge a = true ↔ ¬ a < 0 := by simp [ifCond.holds, Int32.not_lt]
theorem z_gt {a : Int32} : ifCond.holds .gt a = true ↔ 0 < a := by simp [ifCond.holds]
theorem z_le {a : Int32} : ifCond.holds .le a = true ↔ ¬ 0 < a := by simp [ifCond.holds, Int32.not_lt]
theorem i_eq {a b : Int32} : if_icmp.holds .eq a b = true ↔ a = b := by simp [if_icmp.holds]
theorem i_ne {a b : Int32} : if_icmp.holds .ne a b = true ↔ ¬ a = b := by simp [if_icmp.holds]
theorem i_lt {a b : Int32} : if_icmp.holds .lt a b = true ↔ a < b := by simp [if_icmp.holds]
theorem i_ge {a b : Int32} : if_icmp.holds .ge a b = true ↔ ¬ a < b := by simp [if_icmp.holds, Int32.not_lt]
theorem i_gt {a b : Int32} : if_icmp.holds .gt a b = true ↔ b < a := by simp [if_icmp.holds]
theorem i_le {a b : Int32} : if_icmp.holds .le a b = true ↔ ¬ b < a := by simp [if_icmp.holds, Int32.not_lt]
theorem l_of {b : Bool} {C : Prop} (h1 : C → b = true) (h2 : ¬ C → b = false) : b = true ↔ C := ⟨fun q => Classical.byContradiction fun z => Bool.noConfusion ((h2 z).symm.trans q), h1⟩
theorem l_eq {a b : Int64} : ifCond.holds .eq (XT.cmpL a b) = true ↔ a = b := l_of XT.ll_eq_t XT.ll_eq_f
theorem l_ne {a b : Int64} : ifCond.holds .ne (XT.cmpL a b) = true ↔ ¬ a = b := l_of XT.ll_ne_t (fun q => XT.ll_ne_f (Classical.not_not.mp q))
theorem l_lt {a b : Int64} : ifCond.holds .lt (XT.cmpL a b) = true ↔ a < b := l_of XT.ll_lt_t XT.ll_lt_f
theorem l_ge {a b : Int64} : ifCond.holds .ge (XT.cmpL a b) = true ↔ ¬ a < b := l_of XT.ll_ge_t (fun q => XT.ll_ge_f (Classical.not_not.mp q))
theorem l_gt {a b : Int64} : ifCond.holds .gt (XT.cmpL a b) = true ↔ b < a := l_of XT.ll_gt_t XT.ll_gt_f
theorem l_le {a b : Int64} : ifCond.holds .le (XT.cmpL a b) = true ↔ ¬ b < a := l_of XT.ll_le_t (fun q => XT.ll_le_f (Classical.not_not.mp q))
theorem g_nullY (X : Sd l Z n0 y B ml rt R k T h cc ss) {o : Int} (hd : decode B pc = .ok (.ifnull o, 3)) (pc' : Nat) (ho : 0 ≤ (pc : Int) + o) (hp : ((pc : Int) + o).toNat = pc') (K : Go k n0 Q kc ks T pc' Ls st) : Go k n0 Q kc ks T pc Ls (.null :: st) := K.of fun _ q => XS.ifnullYes X.hh X.x rfl rfl (X.d hd) rfl ho hp q
theorem g_nullN (X : Sd l Z n0 y B ml rt R k T h cc ss) {o : Int} {a : Addr} (hd : decode B pc = .ok (.ifnull o, 3)) (pc' : Nat) (hp : pc + 3 = pc') (K : Go k n0 Q kc ks T pc' Ls st) : Go k n0 Q kc ks T pc Ls (.ref a :: st) := by subst hp; exact K.of fun _ q => XS.ifnullNo X.hh X.x rfl (X.d hd) rfl q
theorem g_nonnullY (X : Sd l Z n0 y B ml rt R k T h cc ss) {o : Int} {a : Addr} (hd : decode B pc = .ok (.ifnonnull o, 3)) (pc' : Nat) (ho : 0 ≤ (pc : Int) + o) (hp : ((pc : Int) + o).toNat = pc') (K : Go k n0 Q kc ks T pc' Ls st) : Go k n0 Q kc ks T pc Ls (.ref a :: st) := K.of fun _ q => XS.ifnonnullYes X.hh X.x rfl rfl (X.d hd) rfl ho hp q
theorem g_nonnullN (X : Sd l Z n0 y B ml rt R k T h cc ss) {o : Int} (hd : decode B pc = .ok (.ifnonnull o, 3)) (pc' : Nat) (hp : pc + 3 = pc') (K : Go k n0 Q kc ks T pc' Ls st) : Go k n0 Q kc ks T pc Ls (.null :: st) := by subst hp; exact K.of fun _ q => XS.ifnonnullNo X.hh X.x rfl (X.d hd) rfl q
theorem g_acmpY (X : Sd l Z n0 y B ml rt R k T h cc ss) {cd : ClassFile.ACond} {v w : Value} {o : Int} (hd : decode B pc = .ok (.if_acmp cd o, 3)) (hv : v.isRef = true) (hw : w.isRef = true) (hc : XT.acmp cd v w = true) (pc' : Nat) (ho : 0 ≤ (pc : Int) + o) (hp : ((pc : Int) + o).toNat = pc') (K : Go k n0 Q kc ks T pc' Ls st) : Go k n0 Q kc ks T pc Ls (w :: v :: st) := K.of fun _ q => XT.acmpYes X.hh X.x rfl rfl (X.d hd) rfl hv hw hc ho hp q
theorem g_acmpN (X : Sd l Z n0 y B ml rt R k T h cc ss) {cd : ClassFile.ACond} {v w : Value} {o : Int} (hd : decode B pc = .ok (.if_acmp cd o, 3)) (hv : v.isRef = true) (hw : w.isRef = true) (hc : XT.acmp cd v w = false) (pc' : Nat) (hp : pc + 3 = pc') (K : Go k n0 Q kc ks T pc' Ls st) : Go k n0 Q kc ks T pc Ls (w :: v :: st) := by subst hp; exact K.of fun _ q => XT.acmpNo X.hh X.x rfl (X.d hd) rfl hv hw hc q
theorem a_eq {a b : Addr} : XT.acmp .eq (.ref a) (.ref b) = true ↔ a = b := by simp [XT.acmp]
theorem a_ne {a b : Addr} : XT.acmp .ne (.ref a) (.ref b) = true ↔ ¬ a = b := by simp [XT.acmp]
theorem g_acmp (X : Sd l Z n0 y B ml rt R k T h cc ss) {cd : ClassFile.ACond} {a b : Addr} {o : Int} {C : Prop} (hc : XT.acmp cd (.ref a) (.ref b) = true ↔ C) (hd : decode B pc = .ok (.if_acmp cd o, 3)) (pT : Nat) (ho : 0 ≤ (pc : Int) + o) (hT : ((pc : Int) + o).toNat = pT) (pF : Nat) (hF : pc + 3 = pF) (K1 : C → Go k n0 Q kc ks T pT Ls st) (K2 : ¬ C → Go k n0 Q kc ks T pF Ls st) : Go k n0 Q kc ks T pc Ls (.ref b :: .ref a :: st) := by
  cases q : XT.acmp cd (.ref a) (.ref b) with
  | true => exact g_acmpY X hd rfl rfl q pT ho hT (K1 (hc.mp q))
  | false => exact g_acmpN X hd rfl rfl q pF hF (K2 (fun z => by rw [hc.mpr z] at q; cases q))
theorem g_acmpNN (X : Sd l Z n0 y B ml rt R k T h cc ss) {cd : ClassFile.ACond} {a b : Addr} {o : Int} {C : Prop} (hc : XT.acmp cd (.ref a) (.ref b) = true ↔ ¬ C) (hd : decode B pc = .ok (.if_acmp cd o, 3)) (pT : Nat) (ho : 0 ≤ (pc : Int) + o) (hT : ((pc : Int) + o).toNat = pT) (pF : Nat) (hF : pc + 3 = pF) (K1 : C → Go k n0 Q kc ks T pF Ls st) (K2 : ¬ C → Go k n0 Q kc ks T pT Ls st) : Go k n0 Q kc ks T pc Ls (.ref b :: .ref a :: st) :=
  g_acmp X hc hd pT ho hT pF hF K2 fun q => K1 (Classical.not_not.mp q)
/-! constants of the pool -/
theorem g_ldcI (X : Sd l Z n0 y B ml rt R k T h cc ss) {i : Nat} {v : Int32} (w : (Jvm.Cond.constant y.cls i v).before a0 Z = true) (hd : decode B pc = .ok (.ldc i, 2)) (pc' : Nat) (hp : pc + 2 = pc') (K : Go k n0 Q kc ks T pc' Ls (.int v :: st)) : Go k n0 Q kc ks T pc Ls st := by
  subst hp; obtain ⟨⟨locs, Y, N⟩, eh, hx, hZ, hown, hby, -⟩ := X
  exact K.of fun _ q => Y.ldcI hx hown (mv hZ w) rfl (Jvm.hb hby hd) q
theorem g_ldc2J (X : Sd l Z n0 y B ml rt R k T h cc ss) {i : Nat} {v : Int64} (w : (Jvm.Cond.constantLong y.cls i v).before a0 Z = true) (hd : decode B pc = .ok (.ldc2_w i, 3)) (pc' : Nat) (hp : pc + 3 = pc') (K : Go k n0 Q kc ks T pc' Ls (.long v :: st)) : Go k n0 Q kc ks T pc Ls st := by
  subst hp; obtain ⟨⟨locs, Y, N⟩, eh, hx, hZ, hown, hby, -⟩ := X
  exact K.of fun _ q => Y.ldc2J hx hown (mv hZ w) rfl (Jvm.hb hby hd) q
/-! returns -/
theorem g_retI (X : Sd l Z n0 y B ml (some .int) R k T h cc ss) {z : Int32} (hd : decode B pc = .ok (.ireturn, 1)) (hk : cc ≤ kc) (hs : ss ≤ ks) (hQ : Q (some (.int z)) h) : Go k n0 Q kc ks T pc Ls [.int z] :=
  Go.end X hk hs (fun q => nomatch q) (fun fs hr => by obtain ⟨⟨locs, Y, N⟩, eh, hx, hZ, hown, hby, hml, hnm, hrt, hlk⟩ := X; exact Y.ireturnOut hx hrt rfl (Or.inl rfl) (Jvm.hb hby hd) hr) hQ
theorem g_retN (X : Sd l Z n0 y B ml rt R k T h cc ss) {z : Int32} {t : FieldType} (hrt : rt = some t) (ht : t = .boolean ∨ t = .byte ∨ t = .char ∨ t = .short) (hd : decode B pc = .ok (.ireturn, 1)) (hk : cc ≤ kc) (hs : ss ≤ ks) (hQ : Q (some (.int (nar t z))) h) : Go k n0 Q kc ks T pc Ls [.int z] :=
  Go.end X hk hs (fun q => by rw [hrt] at q; cases q) (fun fs hr => by obtain ⟨⟨locs, Y, N⟩, eh, hx, hZ, hown, hby, hml, hnm, hrt', hlk⟩ := X; exact retN Y hx (hrt'.trans hrt) ht (Jvm.hb hby hd) hr) hQ
theorem g_retZ (X : Sd l Z n0 y B ml (some .boolean) R k T h cc ss) {z : Int32} (hd : decode B pc = .ok (.ireturn, 1)) (hk : cc ≤ kc) (hs : ss ≤ ks) (hQ : Q (some (.int (z &&& 1))) h) : Go k n0 Q kc ks T pc Ls [.int z] := g_retN X rfl (Or.inl rfl) hd hk hs hQ
theorem g_retL (X : Sd l Z n0 y B ml (some .long) R k T h cc ss) {z : Int64} (hd : decode B pc = .ok (.lreturn, 1)) (hk : cc ≤ kc) (hs : ss ≤ ks) (hQ : Q (some (.long z)) h) : Go k n0 Q kc ks T pc Ls [.long z] :=
  Go.end X hk hs (fun q => nomatch q) (fun fs hr => by obtain ⟨⟨locs, Y, N⟩, eh, hx, hZ, hown, hby, hml, hnm, hrt, hlk⟩ := X; exact Y.lreturnOut hx hrt (Jvm.hb hby hd) hr) hQ
theorem g_retA (X : Sd l Z n0 y B ml rt R k T h cc ss) {v : Value} {t : FieldType} (hrt : rt = some t) (ht : t.isReference = true) (hv : v.isRef = true) (hd : decode B pc = .ok (.areturn, 1)) (hk : cc ≤ kc) (hs : ss ≤ ks) (hQ : Q (some v) h) : Go k n0 Q kc ks T pc Ls [v] :=
  Go.end X hk hs (fun q => by rw [hrt] at q; cases q) (fun fs hr => by obtain ⟨⟨locs, Y, N⟩, eh, hx, hZ, hown, hby, hml, hnm, hrt', hlk⟩ := X; exact Y.areturnOut hx hv (hrt'.trans hrt) ht (Jvm.hb hby hd) hr) hQ
theorem g_ret (X : Sd l Z n0 y B ml none R k T h cc ss) (hd : decode B pc = .ok (.return_, 1)) (hk : cc ≤ kc) (hs : ss ≤ ks) (hQ : Q none h) : Go k n0 Q kc ks T pc Ls [] :=
  Go.end X hk hs (fun _ => rfl) (fun fs hr => by obtain ⟨⟨locs, Y, N⟩, eh, hx, hZ, hown, hby, hml, hnm, hrt, hlk⟩ := X; exact Y.returnOut hx hrt (Jvm.hb hby hd) hr) hQ
/-! objects -/
theorem g_new (X : Sd l Z n0 y B ml rt R k T h cc ss) {i n : Nat} {C : String} (w : (Jvm.Cond.classLink y.cls i C).before a0 Z = true) (wi : (Jvm.Cond.instantiable C n).before a0 Z = true) (wz : (Jvm.Cond.initialized C).before a0 Z = true) (hd : decode B pc = .ok (.new i, 3)) (hc : cc + 1 ≤ R.cells) (hl : ss + n ≤ R.slots) (pc' : Nat) (hp : pc + 3 = pc')
    (K : ∀ T' h' a, Sd l Z n0 y B ml rt R k T' h' (cc + 1) (ss + n) → a = h.size → Ext h h' → Exa Z h' a C → (∀ {O nm d : String} {ty : FieldType}, Laid Z a0 C O nm d → parseFieldDescriptor d = some ty → Fld Z h' a O nm d (defaultValue ty)) → Go k n0 Q kc ks T' pc' Ls (.ref a :: st)) : Go k n0 Q kc ks T pc Ls st := by
  subst hp; obtain ⟨⟨locs, Y, N⟩, eh, hx, hZ, hown, hby, hr⟩ := X
  obtain ⟨T2, h2, X2, e2, E2, A2, D2, -, st2⟩ := newO Y hx hZ hown w wi wz eh (g := mkF (owm k) pc Ls st) rfl (Jvm.hb hby hd) hc hl
  exact (K T2 h2 h.size ⟨⟨locs, X2, N⟩, e2, hx, hZ, hown, hby, hr⟩ rfl E2 A2 D2).of st2
theorem g_getF (X : Sd l Z n0 y B ml rt R k T h cc ss) {i : Nat} {R0 O n d : String} (w : (Jvm.Cond.fieldLink y.cls i R0 n d).before a0 Z = true) (via : Via Z R0 O n d) {a : Addr} {v : Value} (F : Fld Z h a O n d v) (hd : decode B pc = .ok (.getfield i, 3)) (pc' : Nat) (hp : pc + 3 = pc')
    (K : ∀ T', Sd l Z n0 y B ml rt R k T' h cc ss → Go k n0 Q kc ks T' pc' Ls (v :: st)) : Go k n0 Q kc ks T pc Ls (.ref a :: st) := by
  subst hp; obtain ⟨⟨locs, Y, N⟩, eh, hx, hZ, hown, hby, hr⟩ := X
  obtain ⟨T2, X2, e2, st2⟩ := getF Y hx hZ hown (host := "") (Or.inl w) via eh F (g := mkF (owm k) pc Ls (.ref a :: st)) rfl rfl (Jvm.hb hby hd)
  exact (K T2 ⟨⟨locs, X2, N⟩, e2, hx, hZ, hown, hby, hr⟩).of st2
theorem g_getFH (X : Sd l Z n0 y B ml rt R k T h cc ss) {i : Nat} {R0 O n d host : String} (w : (Jvm.Cond.fieldLinkNest y.cls i R0 n d host).before a0 Z = true) (via : Via Z R0 O n d) {a : Addr} {v : Value} (F : Fld Z h a O n d v) (hd : decode B pc = .ok (.getfield i, 3)) (pc' : Nat) (hp : pc + 3 = pc')
    (K : ∀ T', Sd l Z n0 y B ml rt R k T' h cc ss → Go k n0 Q kc ks T' pc' Ls (v :: st)) : Go k n0 Q kc ks T pc Ls (.ref a :: st) := by
  subst hp; obtain ⟨⟨locs, Y, N⟩, eh, hx, hZ, hown, hby, hr⟩ := X
  obtain ⟨T2, X2, e2, st2⟩ := getF Y hx hZ hown (Or.inr w) via eh F (g := mkF (owm k) pc Ls (.ref a :: st)) rfl rfl (Jvm.hb hby hd)
  exact (K T2 ⟨⟨locs, X2, N⟩, e2, hx, hZ, hown, hby, hr⟩).of st2
theorem g_getS (X : Sd l Z n0 y B ml rt R k T h cc ss) {i : Nat} {R0 O n d : String} (w : (Jvm.Cond.fieldLink y.cls i R0 n d).before a0 Z = true) (via : Via Z R0 O n d) {v : Value} (F : Sta Z h O n d v) (hd : decode B pc = .ok (.getstatic i, 3)) (pc' : Nat) (hp : pc + 3 = pc')
    (K : ∀ T', Sd l Z n0 y B ml rt R k T' h cc ss → Go k n0 Q kc ks T' pc' Ls (v :: st)) : Go k n0 Q kc ks T pc Ls st := by
  subst hp; obtain ⟨⟨locs, Y, N⟩, eh, hx, hZ, hown, hby, hr⟩ := X
  obtain ⟨T2, X2, e2, st2⟩ := getS2 Y hx hZ hown (host := "") (Or.inl w) via eh F (g := mkF (owm k) pc Ls st) rfl (Jvm.hb hby hd)
  exact (K T2 ⟨⟨locs, X2, N⟩, e2, hx, hZ, hown, hby, hr⟩).of st2
/-- a final field in a constructor of its class -/
theorem g_putFin (X : Sd l Z n0 y B ml rt R k T h cc ss) {i kk : Nat} {O n d C : String} (w : (Jvm.Cond.fieldLink y.cls i O n d).before a0 Z = true) {a : Addr} {v old : Value} (F : Fld Z h a O n d old) (E : Exa Z h a C) (L : (Jvm.Cond.laysFinal C O n d).before a0 Z = true) (ho : y.cls = O) (hi : y.name = "<init>") (wi : (Jvm.Cond.instantiable C kk).before a0 Z = true)
    (g0 : n0 ≤ a) (ty : FieldType) (hty : parseFieldDescriptor d = some ty) (hn : narrow ty v = v) (hf : fits ty v = true) (hd : decode B pc = .ok (.putfield i, 3)) (pc' : Nat) (hp : pc + 3 = pc')
    (K : ∀ T' h', Sd l Z n0 y B ml rt R k T' h' cc ss → Wr h h' a (Jvm.RoadKit.slotOf Z O n d) v → Go k n0 Q kc ks T' pc' Ls st) : Go k n0 Q kc ks T pc Ls (v :: .ref a :: st) := by
  subst hp; obtain ⟨⟨locs, Y, N⟩, eh, hx, hZ, hown, hby, hml, hnm, hr⟩ := X
  obtain ⟨T2, h2, X2, e2, W2, st2⟩ := putF Y hx hZ hown (host := "") (Or.inl w) Via.refl eh F E (Or.inr ⟨L, ho, hnm.trans hi⟩) wi hty hn hf (g := mkF (owm k) pc Ls (v :: .ref a :: st)) rfl rfl (Jvm.hb hby hd)
  exact (K T2 h2 ⟨⟨_, X2, Fr.snoc X2 N g0⟩, e2, hx, hZ, hown, hby, hml, hnm, hr⟩ W2).of st2
theorem g_putF (X : Sd l Z n0 y B ml rt R k T h cc ss) {i kk : Nat} {R0 O n d C : String} (w : (Jvm.Cond.fieldLink y.cls i R0 n d).before a0 Z = true) (via : Via Z R0 O n d) {a : Addr} {v old : Value} (F : Fld Z h a O n d old) (E : Exa Z h a C) (L : (Jvm.Cond.lays C O n d).before a0 Z = true) (wi : (Jvm.Cond.instantiable C kk).before a0 Z = true)
    (g0 : n0 ≤ a) (ty : FieldType) (hty : parseFieldDescriptor d = some ty) (hn : narrow ty v = v) (hf : fits ty v = true) (hd : decode B pc = .ok (.putfield i, 3)) (pc' : Nat) (hp : pc + 3 = pc')
    (K : ∀ T' h', Sd l Z n0 y B ml rt R k T' h' cc ss → Wr h h' a (Jvm.RoadKit.slotOf Z O n d) v → Go k n0 Q kc ks T' pc' Ls st) : Go k n0 Q kc ks T pc Ls (v :: .ref a :: st) := by
  subst hp; obtain ⟨⟨locs, Y, N⟩, eh, hx, hZ, hown, hby, hr⟩ := X
  obtain ⟨T2, h2, X2, e2, W2, st2⟩ := putF Y hx hZ hown (host := "") (Or.inl w) via eh F E (Or.inl L) wi hty hn hf (g := mkF (owm k) pc Ls (v :: .ref a :: st)) rfl rfl (Jvm.hb hby hd)
  exact (K T2 h2 ⟨⟨_, X2, Fr.snoc X2 N g0⟩, e2, hx, hZ, hown, hby, hr⟩ W2).of st2
theorem g_putFinN (X : Sd l Z n0 y B ml rt R k T h cc ss) {i kk : Nat} {O n d C : String} (w : (Jvm.Cond.fieldLink y.cls i O n d).before a0 Z = true) {a : Addr} {v old : Value} (v' : Value) (F : Fld Z h a O n d old) (E : Exa Z h a C) (L : (Jvm.Cond.laysFinal C O n d).before a0 Z = true) (ho : y.cls = O) (hi : y.name = "<init>") (wi : (Jvm.Cond.instantiable C kk).before a0 Z = true)
    (g0 : n0 ≤ a) (ty : FieldType) (hty : parseFieldDescriptor d = some ty) (hn : narrow ty v = v') (hf : fits ty v' = true) (hd : decode B pc = .ok (.putfield i, 3)) (pc' : Nat) (hp : pc + 3 = pc')
    (K : ∀ T' h', Sd l Z n0 y B ml rt R k T' h' cc ss → Wr h h' a (Jvm.RoadKit.slotOf Z O n d) v' → Go k n0 Q kc ks T' pc' Ls st) : Go k n0 Q kc ks T pc Ls (v :: .ref a :: st) := by
  subst hp; obtain ⟨⟨locs, Y, N⟩, eh, hx, hZ, hown, hby, hml, hnm, hr⟩ := X
  obtain ⟨T2, h2, X2, e2, W2, st2⟩ := putFN Y hx hZ hown w Via.refl eh F E (Or.inr ⟨L, ho, hnm.trans hi⟩) wi hty hn hf (g := mkF (owm k) pc Ls (v :: .ref a :: st)) rfl rfl (Jvm.hb hby hd)
  exact (K T2 h2 ⟨⟨_, X2, Fr.snoc X2 N g0⟩, e2, hx, hZ, hown, hby, hml, hnm, hr⟩ W2).of st2
theorem g_initO (X : Sd l Z n0 y B ml rt R k T h cc ss) {i : Nat} {a : Addr} (w1 : (Jvm.Cond.methodLink y.cls i Lib.objectInit).before a0 Z = true) (w2 : (Jvm.Cond.instanceMethod Lib.objectInit).before a0 Z = true) (w3 : (Jvm.Cond.code Lib.objectInit ⟨#[0xb1]⟩ 1 none).before a0 Z = true) (hsz : Ls.size = ml) (hf : 1 ≤ R.frames) (hl : (st.map fun v => v.category).sum + 12 ≤ R.locals) (hd : decode B pc = .ok (.invokespecial i, 3)) (pc' : Nat) (hp : pc + 3 = pc')
    (K : ∀ T', Sd l Z n0 y B ml rt R k T' h cc ss → Go k n0 Q kc ks T' pc' Ls st) : Go k n0 Q kc ks T pc Ls (.ref a :: st) := by
  subst hp; obtain ⟨⟨locs, Y, N⟩, eh, hx, hZ, hown, hby, hml, hr⟩ := X
  obtain ⟨T2, X2, e2, st2⟩ := initO Y hx hZ hown w1 w2 w3 eh (g := mkF (owm k) pc Ls (.ref a :: st)) rfl (hsz.trans hml.symm) rfl (Jvm.hb hby hd) hf (W := (st.map fun v => v.category).sum) (by show 2 * 0 + _ ≤ _; omega) hl
  exact (K T2 ⟨⟨locs, X2, N⟩, e2, hx, hZ, hown, hby, hml, hr⟩).of st2
/-! calls -/
theorem g_callS (X : Sd l Z n0 y B ml rt R k T h cc ss) {i : Nat} {z : MethodName} {Bz : ByteArray} {mz : Nat} {rz : Option FieldType} {rm : Room} {Qz : Option Value → Heap → Prop} (argsL rest : List Value) {ps : List FieldType} {pr : Option FieldType} (M : Met l Z n0 z Bz mz rz [] rm argsL.toArray h Qz rm.cells rm.slots)
    (w1 : (Jvm.Cond.methodLink y.cls i z).before a0 Z = true) (w2 : (Jvm.Cond.static z).before a0 Z = true) (w3 : (Jvm.Cond.initialized z.cls).before a0 Z = true) (w4 : (Jvm.Cond.code z Bz mz rz).before a0 Z = true) (hy : z.cls ≠ "java/lang/invoke/MethodHandle" ∧ z.cls ≠ "java/lang/invoke/VarHandle") (pd : parseMethodDescriptor z.desc = some ⟨ps, pr⟩) (hlen : argsL.length = ps.length)
    (hsz : Ls.size = ml) (hf : rm.frames + 1 ≤ R.frames) (hlo : (rest.map fun v => v.category).sum + (mz + 11) + rm.locals ≤ R.locals) (hc : cc + rm.cells ≤ R.cells) (hs : ss + rm.slots ≤ R.slots) (hd : decode B pc = .ok (.invokestatic i, 3)) (hst : st = argsL.reverse ++ rest) (pc' : Nat) (hp : pc + 3 = pc')
    (K : ∀ v T' h', Sd l Z n0 y B ml rt R k T' h' (cc + rm.cells) (ss + rm.slots) → Qz v h' → Go k n0 Q kc ks T' pc' Ls (v.toList ++ rest)) : Go k n0 Q kc ks T pc Ls st := by
  subst hp; obtain ⟨⟨locs, Y, N⟩, eh, hx, hZ, hown, hby, hml, hr⟩ := X
  obtain ⟨v, _, ⟨T', L', c', n'⟩, -, X', ⟨Lc, hQ, l1, y1, z1⟩, stp⟩ := Jvm.LawKit.callS Y hx (y := z) hown (mvT hZ w1) (mvT hZ w2) (mvT hZ w3) (mvT hZ w4) hy (backOf (W := (rest.map fun v => v.category).sum) (Q := fun v h L => Fr n0 L ∧ Qz v h) M hZ w4 w3 hf hlo) (g := mkF (owm k) pc Ls st) rfl (hsz.trans hml.symm) (argsL := argsL) (rest := rest) (lenOf pd hlen) hst (by show 2 * 0 + _ ≤ _; omega) (Jvm.hb hby hd) (fun _ _ => ⟨rfl, eh, hc, hs⟩)
  dsimp only [Pt.U, Pt.locs, Pt.cells, Pt.slots] at X' l1 y1 z1 stp hQ
  subst l1 y1 z1
  exact (K v T' _ ⟨⟨_, X', N.app hQ.1⟩, rfl, hx, hZ, hown, hby, hml, hr⟩ hQ.2).of stp
theorem g_callI (X : Sd l Z n0 y B ml rt R k T h cc ss) {i : Nat} {z : MethodName} {Bz : ByteArray} {mz : Nat} {rm : Room} {Qz : Option Value → Heap → Prop} (a : Addr) (argsL rest : List Value) {ps : List FieldType} {pr : Option FieldType} (M : Met l Z n0 z Bz mz none [] rm (Value.ref a :: argsL).toArray h Qz rm.cells rm.slots) (hi : z.name = "<init>")
    (w1 : (Jvm.Cond.methodLink y.cls i z).before a0 Z = true) (w2 : (Jvm.Cond.instanceMethod z).before a0 Z = true) (w3 : (Jvm.Cond.initialized z.cls).before a0 Z = true) (w4 : (Jvm.Cond.code z Bz mz none).before a0 Z = true) (hy : z.cls ≠ "java/lang/invoke/MethodHandle" ∧ z.cls ≠ "java/lang/invoke/VarHandle") (pd : parseMethodDescriptor z.desc = some ⟨ps, pr⟩) (hlen : argsL.length = ps.length)
    (hsz : Ls.size = ml) (hf : rm.frames + 1 ≤ R.frames) (hlo : (rest.map fun v => v.category).sum + (mz + 11) + rm.locals ≤ R.locals) (hc : cc + rm.cells ≤ R.cells) (hs : ss + rm.slots ≤ R.slots) (hd : decode B pc = .ok (.invokespecial i, 3)) (hst : st = argsL.reverse ++ .ref a :: rest) (pc' : Nat) (hp : pc + 3 = pc')
    (K : ∀ v T' h', Sd l Z n0 y B ml rt R k T' h' (cc + rm.cells) (ss + rm.slots) → Qz v h' → Go k n0 Q kc ks T' pc' Ls (v.toList ++ rest)) : Go k n0 Q kc ks T pc Ls st := by
  subst hp; obtain ⟨⟨locs, Y, N⟩, eh, hx, hZ, hown, hby, hml, hr⟩ := X
  obtain ⟨v, _, ⟨T', L', c', n'⟩, -, X', ⟨Lc, hQ, l1, y1, z1⟩, stp⟩ := Y.specialBack hx (y := z) hi hown (mvT hZ w1) (mvT hZ w2) (mvT hZ w4) hy (backOf (W := (rest.map fun v => v.category).sum) (Q := fun v h L => Fr n0 L ∧ Qz v h) M hZ w4 w3 hf hlo) (g := mkF (owm k) pc Ls st) rfl (hsz.trans hml.symm) (Steps.refl _) (a := a) (argsL := argsL) (rest := rest) (lenOf pd hlen) hst (by show 2 * 0 + _ ≤ _; omega) (Jvm.hb hby hd) (fun _ _ => ⟨rfl, eh, hc, hs⟩)
  dsimp only [Pt.U, Pt.locs, Pt.cells, Pt.slots] at X' l1 y1 z1 stp hQ
  subst l1 y1 z1
  exact (K v T' _ ⟨⟨_, X', N.app hQ.1⟩, rfl, hx, hZ, hown, hby, hml, hr⟩ hQ.2).of fun _ q => stp.trans q
/-- an instance method, found where it is named -/
theorem g_callV (X : Sd l Z n0 y B ml rt R k T h cc ss) {i : Nat} {z : MethodName} {C : String} {Bz : ByteArray} {mz : Nat} {rz : Option FieldType} {rm : Room} {Qz : Option Value → Heap → Prop} (a : Addr) (argsL rest : List Value) {ps : List FieldType} {pr : Option FieldType} (M : Met l Z n0 z Bz mz rz [] rm (Value.ref a :: argsL).toArray h Qz rm.cells rm.slots) (E : Exa Z h a C)
    (w1 : (Jvm.Cond.methodLink y.cls i z).before a0 Z = true) (w2 : (Jvm.Cond.declares z).before a0 Z = true) (w5 : (Jvm.Cond.selects C z z).before a0 Z = true) (w6 : (Jvm.Cond.instanceMethod z).before a0 Z = true) (w3 : (Jvm.Cond.initialized z.cls).before a0 Z = true) (w4 : (Jvm.Cond.code z Bz mz rz).before a0 Z = true) (hy : z.cls ≠ "java/lang/invoke/MethodHandle" ∧ z.cls ≠ "java/lang/invoke/VarHandle") (pd : parseMethodDescriptor z.desc = some ⟨ps, pr⟩) (hlen : argsL.length = ps.length)
    (hsz : Ls.size = ml) (hf : rm.frames + 1 ≤ R.frames) (hlo : (rest.map fun v => v.category).sum + (mz + 11) + rm.locals ≤ R.locals) (hc : cc + rm.cells ≤ R.cells) (hs : ss + rm.slots ≤ R.slots) (hd : decode B pc = .ok (.invokevirtual i, 3)) (hst : st = argsL.reverse ++ .ref a :: rest) (pc' : Nat) (hp : pc + 3 = pc')
    (K : ∀ v T' h', Sd l Z n0 y B ml rt R k T' h' (cc + rm.cells) (ss + rm.slots) → Qz v h' → Go k n0 Q kc ks T' pc' Ls (v.toList ++ rest)) : Go k n0 Q kc ks T pc Ls st := by
  subst hp; obtain ⟨⟨locs, Y, N⟩, eh, hx, hZ, hown, hby, hml, hr⟩ := X
  obtain ⟨cq, kq, qa, qb, qc⟩ := isOf hZ eh E
  obtain ⟨v, _, ⟨T', L', c', n'⟩, -, X', ⟨Lc, hQ, l1, y1, z1⟩, stp⟩ := Y.virtualBack hx (y := z) (z := z) hown (mvT hZ w1) (mvT hZ w2) (notFace_of_selects (args := #[]) (mvT hZ w5)) (mvT hZ w5) (mvT hZ w6) hy (backOf (W := (rest.map fun v => v.category).sum) (Q := fun v h L => Fr n0 L ∧ Qz v h) M hZ w4 w3 hf hlo) qa qc (g := mkF (owm k) pc Ls st) rfl (hsz.trans hml.symm) (Steps.refl _) (argsL := argsL) (rest := rest) (lenOf pd hlen) hst (by show 2 * 0 + _ ≤ _; omega) (Jvm.hb hby hd) (fun _ _ => ⟨rfl, eh, hc, hs⟩)
  dsimp only [Pt.U, Pt.locs, Pt.cells, Pt.slots] at X' l1 y1 z1 stp hQ
  subst l1 y1 z1
  exact (K v T' _ ⟨⟨_, X', N.app hQ.1⟩, rfl, hx, hZ, hown, hby, hml, hr⟩ hQ.2).of fun _ q => stp.trans q
/-- a private instance method by invokevirtual -/
theorem g_callP (X : Sd l Z n0 y B ml rt R k T h cc ss) {i : Nat} {z : MethodName} {C : String} {Bz : ByteArray} {mz : Nat} {rz : Option FieldType} {rm : Room} {Qz : Option Value → Heap → Prop} (a : Addr) (argsL rest : List Value) {ps : List FieldType} {pr : Option FieldType} (M : Met l Z n0 z Bz mz rz [] rm (Value.ref a :: argsL).toArray h Qz rm.cells rm.slots) (E : Exa Z h a C)
    (w1 : (Jvm.Cond.methodLink y.cls i z).before a0 Z = true) (w2 : (Jvm.Cond.privateMethod z).before a0 Z = true) (w5 : (Jvm.Cond.selects z.cls z z).before a0 Z = true) (w6 : (Jvm.Cond.instanceMethod z).before a0 Z = true) (w3 : (Jvm.Cond.initialized z.cls).before a0 Z = true) (w4 : (Jvm.Cond.code z Bz mz rz).before a0 Z = true) (hy : z.cls ≠ "java/lang/invoke/MethodHandle" ∧ z.cls ≠ "java/lang/invoke/VarHandle") (pd : parseMethodDescriptor z.desc = some ⟨ps, pr⟩) (hlen : argsL.length = ps.length)
    (hsz : Ls.size = ml) (hf : rm.frames + 1 ≤ R.frames) (hlo : (rest.map fun v => v.category).sum + (mz + 11) + rm.locals ≤ R.locals) (hc : cc + rm.cells ≤ R.cells) (hs : ss + rm.slots ≤ R.slots) (hd : decode B pc = .ok (.invokevirtual i, 3)) (hst : st = argsL.reverse ++ .ref a :: rest) (pc' : Nat) (hp : pc + 3 = pc')
    (K : ∀ v T' h', Sd l Z n0 y B ml rt R k T' h' (cc + rm.cells) (ss + rm.slots) → Qz v h' → Go k n0 Q kc ks T' pc' Ls (v.toList ++ rest)) : Go k n0 Q kc ks T pc Ls st := by
  subst hp; obtain ⟨⟨locs, Y, N⟩, eh, hx, hZ, hown, hby, hml, hr⟩ := X
  obtain ⟨cl, qa, qb⟩ := E.cell
  obtain ⟨v, _, ⟨T', L', c', n'⟩, -, X', ⟨Lc, hQ, l1, y1, z1⟩, stp⟩ := Y.privateBack hx (y := z) hown (mvT hZ w1) (mvT hZ w6) (mvT hZ w5) (Cond.privateMethod_at (mvP (args := #[]) hZ w2)) (mvT hZ w4) hy (backOf (W := (rest.map fun v => v.category).sum) (Q := fun v h L => Fr n0 L ∧ Qz v h) M hZ w4 w3 hf hlo) (g := mkF (owm k) pc Ls st) rfl (hsz.trans hml.symm) (Steps.refl _) (by rw [eh]; exact qa) qb (argsL := argsL) (rest := rest) (lenOf pd hlen) hst (by show 2 * 0 + _ ≤ _; omega) (Jvm.hb hby hd) (fun _ _ => ⟨rfl, eh, hc, hs⟩)
  dsimp only [Pt.U, Pt.locs, Pt.cells, Pt.slots] at X' l1 y1 z1 stp hQ
  subst l1 y1 z1
  exact (K v T' _ ⟨⟨_, X', N.app hQ.1⟩, rfl, hx, hZ, hown, hby, hml, hr⟩ hQ.2).of fun _ q => stp.trans q
/-! arrays: n places, f says what each holds -/
def AI (Z : State) (h : Heap) (a : Addr) (ty : FieldType) (n : Nat) (f : Nat → Value) : Prop := ∃ c : Cell, Arr Z h a c ty ∧ c.slots.size = n ∧ n < 2147483648 ∧ ∀ i, i < n → c.slots[i]? = some (f i)
theorem AI.lt {a : Addr} {ty : FieldType} {n : Nat} {f : Nat → Value} (A : AI Z h a ty n f) : a < h.size := by obtain ⟨c, A, -⟩ := A; exact A.lt
theorem AI.ext {h' : Heap} {a : Addr} {ty : FieldType} {n : Nat} {f : Nat → Value} (A : AI Z h a ty n f) (E : Ext h h') : AI Z h' a ty n f := by obtain ⟨c, A, r⟩ := A; exact ⟨c, A.ext E, r⟩
theorem AI.other {h' : Heap} {a b : Addr} {sl : Nat} {v : Value} {ty : FieldType} {n : Nat} {f : Nat → Value} (A : AI Z h a ty n f) (W : Wr h h' b sl v) (q : a ≠ b) : AI Z h' a ty n f := by obtain ⟨c, A, r⟩ := A; exact ⟨c, A.other W q, r⟩
theorem AI.keep {h' : Heap} {ws : List Addr} {a : Addr} {ty : FieldType} {n : Nat} {f : Nat → Value} (A : AI Z h a ty n f) (K : Keep h h' ws) (q : a ∉ ws) : AI Z h' a ty n f := by obtain ⟨c, A, r⟩ := A; exact ⟨c, ⟨K.2.1 a c A.1 q, A.2⟩, r⟩
theorem AI.to {a : Addr} {ty : FieldType} {n : Nat} {f g : Nat → Value} (A : AI Z h a ty n f) (e : ∀ i, i < n → f i = g i) : AI Z h a ty n g := by obtain ⟨c, A, r1, r2, r3⟩ := A; exact ⟨c, A, r1, r2, fun i hi => by rw [r3 i hi, e i hi]⟩
theorem AI.set {h' : Heap} {a : Addr} {ty : FieldType} {n i : Nat} {v : Value} {f : Nat → Value} (A : AI Z h a ty n f) (W : Wr h h' a i v) : AI Z h' a ty n (fun j => if j = i then v else f j) := by
  obtain ⟨c, A, r1, r2, r3⟩ := A
  refine ⟨_, A.same W, by rw [sz_set]; exact r1, r2, fun j hj => ?_⟩
  obtain ⟨c', q1, -, q3, -⟩ := W
  cases A.1.symm.trans q1
  by_cases e : j = i
  · subst e; simp [Cell.setSlot, r1, hj]
  · have e' : ¬ i = j := fun z => e z.symm
    simp [Cell.setSlot, Array.getElem?_setIfInBounds, e', e, r3 j hj]
theorem AI.new {a : Addr} {ty : FieldType} {cA : ClassId} {m : Int32} (A : Arr Z h a (newA cA ty m) ty) (q : ¬ m < 0) {n : Nat} (e : m.toInt = n) : AI Z h a ty n (fun _ => defaultValue ty) := by
  have e1 : m.toNatClampNeg = n := by simp [Int32.toNatClampNeg, e]
  have e2 : n < 2147483648 := by have := m.toInt_lt; omega
  refine ⟨_, A, by rw [sz_new]; exact e1, e2, fun i hi => ?_⟩
  simp [newA, e1, hi]
theorem ix_of {j : Int32} {i n : Nat} (hj : j.toInt = i) (hi : i < n) : ¬ (j < 0 ∨ n ≤ j.toNatClampNeg) ∧ j.toNatClampNeg = i := by
  have e1 : j.toNatClampNeg = i := by simp [Int32.toNatClampNeg, hj]
  refine ⟨fun q => ?_, e1⟩
  rcases q with q | q
  · rw [Int32.lt_iff_toInt_lt, hj] at q; simp at q; omega
  · omega
theorem g_iaload (X : Sd l Z n0 y B ml rt R k T h cc ss) {a : Addr} {n : Nat} {f : Nat → Value} (A : AI Z h a .int n f) {j : Int32} (i : Nat) (hj : j.toInt = i) (hi : i < n) (v : Value) (hv : f i = v) (hd : decode B pc = .ok (.iaload, 1)) (pc' : Nat) (hp : pc + 1 = pc') (K : Go k n0 Q kc ks T pc' Ls (v :: st)) : Go k n0 Q kc ks T pc Ls (.int j :: .ref a :: st) := by
  subst hp hv; obtain ⟨⟨locs, Y, N⟩, eh, hx, hZ, hown, hby, hr⟩ := X
  obtain ⟨c, A, r1, r2, r3⟩ := A; obtain ⟨q1, q2⟩ := ix_of hj hi
  exact K.of fun t q => Y.iaload hx (by rw [eh]; exact A.1) (State.isArrayOf_alike hZ.alike A.2.1) A.2.2 (by rw [r1]; exact q1) (by rw [q2]; exact r3 i hi) (g := mkF (owm k) pc Ls (.int j :: .ref a :: st)) rfl rfl (Jvm.hb hby hd) t q
theorem g_baload (X : Sd l Z n0 y B ml rt R k T h cc ss) {a : Addr} {n : Nat} {f : Nat → Value} (A : AI Z h a .byte n f) {j : Int32} (i : Nat) (hj : j.toInt = i) (hi : i < n) (v : Value) (hv : f i = v) (hd : decode B pc = .ok (.baload, 1)) (pc' : Nat) (hp : pc + 1 = pc') (K : Go k n0 Q kc ks T pc' Ls (v :: st)) : Go k n0 Q kc ks T pc Ls (.int j :: .ref a :: st) := by
  subst hp hv; obtain ⟨⟨locs, Y, N⟩, eh, hx, hZ, hown, hby, hr⟩ := X
  obtain ⟨c, A, r1, r2, r3⟩ := A; obtain ⟨q1, q2⟩ := ix_of hj hi
  exact K.of fun t q => Y.baloadBytes hx (by rw [eh]; exact A.1) (State.isArrayOf_alike hZ.alike A.2.1) A.2.2 (by rw [r1]; exact q1) (by rw [q2]; exact r3 i hi) (g := mkF (owm k) pc Ls (.int j :: .ref a :: st)) rfl rfl (Jvm.hb hby hd) t q
theorem g_laload (X : Sd l Z n0 y B ml rt R k T h cc ss) {a : Addr} {n : Nat} {f : Nat → Value} (A : AI Z h a .long n f) {j : Int32} (i : Nat) (hj : j.toInt = i) (hi : i < n) (v : Value) (hv : f i = v) (hd : decode B pc = .ok (.laload, 1)) (pc' : Nat) (hp : pc + 1 = pc') (K : Go k n0 Q kc ks T pc' Ls (v :: st)) : Go k n0 Q kc ks T pc Ls (.int j :: .ref a :: st) := by
  subst hp hv; obtain ⟨⟨locs, Y, N⟩, eh, hx, hZ, hown, hby, hr⟩ := X
  obtain ⟨c, A, r1, r2, r3⟩ := A; obtain ⟨q1, q2⟩ := ix_of hj hi
  exact K.of fun t q => Y.laload hx (by rw [eh]; exact A.1) (State.isArrayOf_alike hZ.alike A.2.1) A.2.2 (by rw [r1]; exact q1) (by rw [q2]; exact r3 i hi) (g := mkF (owm k) pc Ls (.int j :: .ref a :: st)) rfl rfl (Jvm.hb hby hd) t q
theorem g_aaload (X : Sd l Z n0 y B ml rt R k T h cc ss) {a : Addr} {ty : FieldType} {n : Nat} {f : Nat → Value} (A : AI Z h a ty n f) (hty : ty.isReference = true) {j : Int32} (i : Nat) (hj : j.toInt = i) (hi : i < n) (v : Value) (hv : f i = v) (hd : decode B pc = .ok (.aaload, 1)) (pc' : Nat) (hp : pc + 1 = pc') (K : Go k n0 Q kc ks T pc' Ls (v :: st)) : Go k n0 Q kc ks T pc Ls (.int j :: .ref a :: st) := by
  subst hp hv; obtain ⟨⟨locs, Y, N⟩, eh, hx, hZ, hown, hby, hr⟩ := X
  obtain ⟨c, A, r1, r2, r3⟩ := A; obtain ⟨q1, q2⟩ := ix_of hj hi
  exact K.of fun t q => Y.aaload hx (by rw [eh]; exact A.1) (State.isArrayOf_alike hZ.alike A.2.1) hty A.2.2 (by rw [r1]; exact q1) (by rw [q2]; exact r3 i hi) (g := mkF (owm k) pc Ls (.int j :: .ref a :: st)) rfl rfl (Jvm.hb hby hd) t q
theorem g_alen (X : Sd l Z n0 y B ml rt R k T h cc ss) {a : Addr} {ty : FieldType} {n : Nat} {f : Nat → Value} (A : AI Z h a ty n f) (v : Int32) (hv : v.toInt = n) (hd : decode B pc = .ok (.arraylength, 1)) (pc' : Nat) (hp : pc + 1 = pc') (K : Go k n0 Q kc ks T pc' Ls (.int v :: st)) : Go k n0 Q kc ks T pc Ls (.ref a :: st) := by
  subst hp; obtain ⟨⟨locs, Y, N⟩, eh, hx, hZ, hown, hby, hr⟩ := X
  obtain ⟨c, A, r1, r2, r3⟩ := A
  have ev : c.slots.size.toInt32 = v := by
    rw [r1]; apply Int32.toInt_inj.mp; rw [hv]
    show (Int32.ofNat n).toInt = _
    rw [Int32.toInt_ofNat_of_lt (by omega)]
  exact K.of fun t q => Y.arraylength hx (by rw [eh]; exact A.1) (State.isArrayOf_alike hZ.alike A.2.1) (g := mkF (owm k) pc Ls (.ref a :: st)) rfl rfl (Jvm.hb hby hd) t (by rw [ev]; exact q)
theorem g_newP (X : Sd l Z n0 y B ml rt R k T h cc ss) {aty : ArrayType} (w : (Jvm.Cond.arrayClass (newarray.typeOf aty)).before a0 Z = true) {m : Int32} (n cap : Nat) (hm : m.toInt = n) (hn : n ≤ cap) (hb : cap * 8 ≤ 536870912) (hd : decode B pc = .ok (.newarray aty, 2)) (hc : cc + 1 ≤ R.cells) (hl : ss + cap ≤ R.slots) (pc' : Nat) (hp : pc + 2 = pc')
    (K : ∀ T' h' a, Sd l Z n0 y B ml rt R k T' h' (cc + 1) (ss + cap) → a = h.size → Ext h h' → AI Z h' a (newarray.typeOf aty) n (fun _ => defaultValue (newarray.typeOf aty)) → Go k n0 Q kc ks T' pc' Ls (.ref a :: st)) : Go k n0 Q kc ks T pc Ls (.int m :: st) := by
  subst hp; obtain ⟨⟨locs, Y, N⟩, eh, hx, hZ, hown, hby, hr⟩ := X
  have q : ¬ m < 0 := by
    have e : (0 : Int32).toInt = 0 := by decide
    rw [Int32.lt_iff_toInt_lt, hm]; omega
  have e1 : m.toNatClampNeg = n := by simp [Int32.toNatClampNeg, hm]
  obtain ⟨T2, h2, cA, X2, e2, E2, A2, st2⟩ := newP Y hx hZ w eh (g := mkF (owm k) pc Ls (.int m :: st)) rfl (Jvm.hb hby hd) rfl q (cap := cap) (by omega) hb hc hl
  exact (K T2 h2 h.size ⟨⟨locs, X2, N⟩, e2, hx, hZ, hown, hby, hr⟩ rfl E2 (AI.new A2 q hm)).of st2
theorem g_iastore (X : Sd l Z n0 y B ml rt R k T h cc ss) {a : Addr} {n : Nat} {f : Nat → Value} (A : AI Z h a .int n f) {j x : Int32} (i : Nat) (hj : j.toInt = i) (hi : i < n) (g0 : n0 ≤ a) (hd : decode B pc = .ok (.iastore, 1)) (pc' : Nat) (hp : pc + 1 = pc')
    (K : ∀ T' h', Sd l Z n0 y B ml rt R k T' h' cc ss → Wr h h' a i (.int x) → Go k n0 Q kc ks T' pc' Ls st) : Go k n0 Q kc ks T pc Ls (.int x :: .int j :: .ref a :: st) := by
  subst hp; obtain ⟨⟨locs, Y, N⟩, eh, hx, hZ, hown, hby, hr⟩ := X
  obtain ⟨c, A, r1, r2, r3⟩ := A; obtain ⟨q1, q2⟩ := ix_of hj hi
  obtain ⟨T2, h2, X2, e2, W2, st2⟩ := stI Y hx hZ eh A (j := j) (x := x) (by rw [r1]; exact q1) (g := mkF (owm k) pc Ls (.int x :: .int j :: .ref a :: st)) rfl rfl (Jvm.hb hby hd)
  rw [q2] at X2 W2
  exact (K T2 h2 ⟨⟨_, X2, Fr.snoc X2 N g0⟩, e2, hx, hZ, hown, hby, hr⟩ W2).of st2
theorem g_lastore (X : Sd l Z n0 y B ml rt R k T h cc ss) {a : Addr} {n : Nat} {f : Nat → Value} (A : AI Z h a .long n f) {j : Int32} {x : Int64} (i : Nat) (hj : j.toInt = i) (hi : i < n) (g0 : n0 ≤ a) (hd : decode B pc = .ok (.lastore, 1)) (pc' : Nat) (hp : pc + 1 = pc')
    (K : ∀ T' h', Sd l Z n0 y B ml rt R k T' h' cc ss → Wr h h' a i (.long x) → Go k n0 Q kc ks T' pc' Ls st) : Go k n0 Q kc ks T pc Ls (.long x :: .int j :: .ref a :: st) := by
  subst hp; obtain ⟨⟨locs, Y, N⟩, eh, hx, hZ, hown, hby, hr⟩ := X
  obtain ⟨c, A, r1, r2, r3⟩ := A; obtain ⟨q1, q2⟩ := ix_of hj hi
  obtain ⟨T2, h2, X2, e2, W2, st2⟩ := stJ Y hx hZ eh A (j := j) (x := x) (by rw [r1]; exact q1) (g := mkF (owm k) pc Ls (.long x :: .int j :: .ref a :: st)) rfl rfl (Jvm.hb hby hd)
  rw [q2] at X2 W2
  exact (K T2 h2 ⟨⟨_, X2, Fr.snoc X2 N g0⟩, e2, hx, hZ, hown, hby, hr⟩ W2).of st2
theorem g_bastore (X : Sd l Z n0 y B ml rt R k T h cc ss) {a : Addr} {n : Nat} {f : Nat → Value} (A : AI Z h a .byte n f) {j x : Int32} (i : Nat) (hj : j.toInt = i) (hi : i < n) (g0 : n0 ≤ a) (hd : decode B pc = .ok (.bastore, 1)) (pc' : Nat) (hp : pc + 1 = pc')
    (K : ∀ T' h', Sd l Z n0 y B ml rt R k T' h' cc ss → Wr h h' a i (.int x.toInt8.toInt32) → Go k n0 Q kc ks T' pc' Ls st) : Go k n0 Q kc ks T pc Ls (.int x :: .int j :: .ref a :: st) := by
  subst hp; obtain ⟨⟨locs, Y, N⟩, eh, hx, hZ, hown, hby, hr⟩ := X
  obtain ⟨c, A, r1, r2, r3⟩ := A; obtain ⟨q1, q2⟩ := ix_of hj hi
  obtain ⟨T2, h2, X2, e2, W2, st2⟩ := stB Y hx hZ eh A (j := j) (x := x) (by rw [r1]; exact q1) (g := mkF (owm k) pc Ls (.int x :: .int j :: .ref a :: st)) rfl rfl (Jvm.hb hby hd)
  rw [q2] at X2 W2
  exact (K T2 h2 ⟨⟨_, X2, Fr.snoc X2 N g0⟩, e2, hx, hZ, hown, hby, hr⟩ W2).of st2
end Ow
theorem own_b1 : ((1 : Int32) &&& 1) = 1 := by decide
theorem own_b0 : ((0 : Int32) &&& 1) = 0 := by decide
theorem own_one : (some (Value.int ((1 : Int32) &&& 1))) = some (.int 1) := congrArg (fun z => some (Value.int z)) own_b1
theorem w0 {Z : State} {a0 : Array Value} (hw : ∀ d ∈ tables_1, d.before a0 Z = true) : (Jvm.Cond.classLink "com/example/settle/settle/io/PublishedEndIsPastPinLaw" (7 : Nat) "com/example/settle/settle/io/PublishedEnd").before a0 Z = true := hw _ (List.mem_of_getElem? (i := 0) rfl)
theorem w1 {Z : State} {a0 : Array Value} (hw : ∀ d ∈ tables_1, d.before a0 Z = true) : (Jvm.Cond.instantiable "com/example/settle/settle/io/PublishedEnd" (2 : Nat)).before a0 Z = true := hw _ (List.mem_of_getElem? (i := 1) rfl)
theorem w2 {Z : State} {a0 : Array Value} (hw : ∀ d ∈ tables_1, d.before a0 Z = true) : (Jvm.Cond.initialized "com/example/settle/settle/io/PublishedEnd").before a0 Z = true := hw _ (List.mem_of_getElem? (i := 2) rfl)
theorem w3 {Z : State} {a0 : Array Value} (hw : ∀ d ∈ tables_1, d.before a0 Z = true) : (Jvm.Cond.methodLink "com/example/settle/settle/io/PublishedEndIsPastPinLaw" (9 : Nat) ({ cls := "com/example/settle/settle/io/PublishedEnd", name := "<init>", desc := "(JJ)V" } : Jvm.MethodName)).before a0 Z = true := hw _ (List.mem_of_getElem? (i := 3) rfl)
theorem w4 {Z : State} {a0 : Array Value} (hw : ∀ d ∈ tables_1, d.before a0 Z = true) : (Jvm.Cond.instanceMethod ({ cls := "com/example/settle/settle/io/PublishedEnd", name := "<init>", desc := "(JJ)V" } : Jvm.MethodName)).before a0 Z = true := hw _ (List.mem_of_getElem? (i := 4) rfl)
theorem w5 {Z : State} {a0 : Array Value} (hw : ∀ d ∈ tables_1, d.before a0 Z = true) : (Jvm.Cond.code ({ cls := "com/example/settle/settle/io/PublishedEnd", name := "<init>", desc := "(JJ)V" } : Jvm.MethodName) prog_14_method_1_code (5 : Nat) (Option.none : Option Jvm.ClassFile.FieldType)).before a0 Z = true := hw _ (List.mem_of_getElem? (i := 5) rfl)
theorem w6 {Z : State} {a0 : Array Value} (hw : ∀ d ∈ tables_1, d.before a0 Z = true) : (Jvm.Cond.methodLink "com/example/settle/settle/io/PublishedEnd" (1 : Nat) ({ cls := "java/lang/Object", name := "<init>", desc := "()V" } : Jvm.MethodName)).before a0 Z = true := hw _ (List.mem_of_getElem? (i := 6) rfl)
theorem w7 {Z : State} {a0 : Array Value} (hw : ∀ d ∈ tables_1, d.before a0 Z = true) : (Jvm.Cond.instanceMethod ({ cls := "java/lang/Object", name := "<init>", desc := "()V" } : Jvm.MethodName)).before a0 Z = true := hw _ (List.mem_of_getElem? (i := 7) rfl)
theorem w8 {Z : State} {a0 : Array Value} (hw : ∀ d ∈ tables_1, d.before a0 Z = true) : (Jvm.Cond.code ({ cls := "java/lang/Object", name := "<init>", desc := "()V" } : Jvm.MethodName) object_method_1_code (1 : Nat) (Option.none : Option Jvm.ClassFile.FieldType)).before a0 Z = true := hw _ (List.mem_of_getElem? (i := 8) rfl)
theorem w9 {Z : State} {a0 : Array Value} (hw : ∀ d ∈ tables_1, d.before a0 Z = true) : (Jvm.Cond.fieldLink "com/example/settle/settle/io/PublishedEnd" (7 : Nat) "com/example/settle/settle/io/PublishedEnd" "segment" "J").before a0 Z = true := hw _ (List.mem_of_getElem? (i := 9) rfl)
theorem w10 {Z : State} {a0 : Array Value} (hw : ∀ d ∈ tables_1, d.before a0 Z = true) : (Jvm.Cond.laysFinal "com/example/settle/settle/io/PublishedEnd" "com/example/settle/settle/io/PublishedEnd" "segment" "J").before a0 Z = true := hw _ (List.mem_of_getElem? (i := 10) rfl)
theorem w11 {Z : State} {a0 : Array Value} (hw : ∀ d ∈ tables_1, d.before a0 Z = true) : (Jvm.Cond.fieldLink "com/example/settle/settle/io/PublishedEnd" (13 : Nat) "com/example/settle/settle/io/PublishedEnd" "offset" "J").before a0 Z = true := hw _ (List.mem_of_getElem? (i := 11) rfl)
theorem w12 {Z : State} {a0 : Array Value} (hw : ∀ d ∈ tables_1, d.before a0 Z = true) : (Jvm.Cond.laysFinal "com/example/settle/settle/io/PublishedEnd" "com/example/settle/settle/io/PublishedEnd" "offset" "J").before a0 Z = true := hw _ (List.mem_of_getElem? (i := 12) rfl)
theorem w13 {Z : State} {a0 : Array Value} (hw : ∀ d ∈ tables_1, d.before a0 Z = true) : (Jvm.Cond.methodLink "com/example/settle/settle/io/PublishedEndIsPastPinLaw" (12 : Nat) ({ cls := "com/example/settle/settle/io/PublishedEnd", name := "isPast", desc := "(Lcom/example/settle/settle/io/PublishedEnd;)Z" } : Jvm.MethodName)).before a0 Z = true := hw _ (List.mem_of_getElem? (i := 13) rfl)
theorem w14 {Z : State} {a0 : Array Value} (hw : ∀ d ∈ tables_1, d.before a0 Z = true) : (Jvm.Cond.declares ({ cls := "com/example/settle/settle/io/PublishedEnd", name := "isPast", desc := "(Lcom/example/settle/settle/io/PublishedEnd;)Z" } : Jvm.MethodName)).before a0 Z = true := hw _ (List.mem_of_getElem? (i := 14) rfl)
theorem w15 {Z : State} {a0 : Array Value} (hw : ∀ d ∈ tables_1, d.before a0 Z = true) : (Jvm.Cond.instanceMethod ({ cls := "com/example/settle/settle/io/PublishedEnd", name := "isPast", desc := "(Lcom/example/settle/settle/io/PublishedEnd;)Z" } : Jvm.MethodName)).before a0 Z = true := hw _ (List.mem_of_getElem? (i := 15) rfl)
theorem w16 {Z : State} {a0 : Array Value} (hw : ∀ d ∈ tables_1, d.before a0 Z = true) : (Jvm.Cond.selects "com/example/settle/settle/io/PublishedEnd" ({ cls := "com/example/settle/settle/io/PublishedEnd", name := "isPast", desc := "(Lcom/example/settle/settle/io/PublishedEnd;)Z" } : Jvm.MethodName) ({ cls := "com/example/settle/settle/io/PublishedEnd", name := "isPast", desc := "(Lcom/example/settle/settle/io/PublishedEnd;)Z" } : Jvm.MethodName)).before a0 Z = true := hw _ (List.mem_of_getElem? (i := 16) rfl)
theorem w17 {Z : State} {a0 : Array Value} (hw : ∀ d ∈ tables_1, d.before a0 Z = true) : (Jvm.Cond.code ({ cls := "com/example/settle/settle/io/PublishedEnd", name := "isPast", desc := "(Lcom/example/settle/settle/io/PublishedEnd;)Z" } : Jvm.MethodName) prog_14_method_4_code (2 : Nat) (Option.some Jvm.ClassFile.FieldType.boolean)).before a0 Z = true := hw _ (List.mem_of_getElem? (i := 17) rfl)
theorem pd0 : parseMethodDescriptor "(JJ)V" = some ⟨[.long, .long], none⟩ := by decide +kernel
theorem pd1 : parseMethodDescriptor "(Lcom/example/settle/settle/io/PublishedEnd;)Z" = some ⟨[(.object "com/example/settle/settle/io/PublishedEnd")], some .boolean⟩ := by decide +kernel
theorem pn0 : Jvm.plainFor (⟨"com/example/settle/settle/io/PublishedEnd", "<init>", "(JJ)V"⟩ : MethodName) = true := by first | exact plainFor_of_name (by first | (simp [Jvm.plainName, overriddenIn]; done) | decide +kernel) | decide +kernel
theorem pn1 : Jvm.plainFor (⟨"com/example/settle/settle/io/PublishedEnd", "isPast", "(Lcom/example/settle/settle/io/PublishedEnd;)Z"⟩ : MethodName) = true := by first | exact plainFor_of_name (by first | (simp [Jvm.plainName, overriddenIn]; done) | decide +kernel) | decide +kernel
theorem pn2 : Jvm.plainFor (⟨"com/example/settle/settle/io/PublishedEndIsPastPinLaw", "law", "(JJJJJI)Z"⟩ : MethodName) = true := by first | exact plainFor_of_name (by first | (simp [Jvm.plainName, overriddenIn]; done) | decide +kernel) | decide +kernel
def fPast (s o s' o' : Int64) : Int32 := if s' < s then 1 else if s = s' then (if o' < o then 1 else 0) else 0
def fRef (s o s' o' : Int64) : Int32 := if s = s' then (if o' < o then 1 else 0) else (if s' < s then 1 else 0)
theorem own_ref (s o s' o' : Int64) : fPast s o s' o' = fRef s o s' o' := by
  unfold fPast fRef
  by_cases h : s = s'
  · subst h; simp [Int64.lt_irrefl]
  · simp [h]
theorem own_01 (s o s' o' : Int64) : fPast s o s' o' = 0 ∨ fPast s o s' o' = 1 := by unfold fPast; (repeat' split) <;> simp
theorem own_iff (s o s' o' : Int64) : fPast s o s' o' = 1 ↔ (s'.toInt < s.toInt ∨ (s.toInt = s'.toInt ∧ o'.toInt < o.toInt)) := by
  unfold fPast
  simp only [Int64.lt_iff_toInt_lt, ← Int64.toInt_inj]
  (repeat' split) <;> simp <;> omega
theorem own_ne0 (s o s' o' : Int64) : fPast s o s' o' = 0 ↔ ¬ (s'.toInt < s.toInt ∨ (s.toInt = s'.toInt ∧ o'.toInt < o.toInt)) := by
  rw [← own_iff]; rcases own_01 s o s' o' with h | h <;> simp [h]
def fSame (s o s' o' : Int64) : Int32 := if s = s' then (if o = o' then 1 else 0) else 0
theorem own_tri (s o s' o' : Int64) : (if fPast s o s' o' = 0 then (0 : Int32) else 1) + (if fPast s' o' s o = 0 then 0 else 1) + (if fSame s o s' o' = 0 then 0 else 1) = 1 := by
  have h1 := own_ne0 s o s' o'; have h2 := own_ne0 s' o' s o
  have h3 : fSame s o s' o' = 0 ↔ ¬ (s.toInt = s'.toInt ∧ o.toInt = o'.toInt) := by
    unfold fSame; simp only [← Int64.toInt_inj]; (repeat' split) <;> simp <;> omega
  by_cases q1 : fPast s o s' o' = 0 <;> by_cases q2 : fPast s' o' s o = 0 <;> by_cases q3 : fSame s o s' o' = 0 <;> simp only [q1, q2, q3, if_true, if_false] <;> first | decide | (exfalso; simp only [q1, q2, q3, true_iff, false_iff, iff_true, iff_false, Classical.not_not] at h1 h2 h3; omega)
theorem own_trans {a b c d e f : Int64} (h1 : ¬ fPast a b c d = 0) (h2 : ¬ fPast c d e f = 0) : ¬ fPast a b e f = 0 := by
  rw [own_ne0, Classical.not_not] at *; omega
theorem own_trans2 {a b c d e f : Int64} : ¬ (if (fPast a b c d) = 0 then (1 : Int32) else (if (fPast c d e f) = 0 then (1 : Int32) else (if (fPast a b e f) = 0 then (0 : Int32) else (1 : Int32)))) = 0 := by
  split
  · decide
  · split
    · decide
    · rw [if_neg (own_trans (by assumption) (by assumption))]; decide
theorem own_ref2 (s o s' o' : Int64) : fPast s' o' s o = if s = s' then (if o < o' then (1 : Int32) else (0 : Int32)) else (if s < s' then (1 : Int32) else (0 : Int32)) := by
  rw [own_ref]; unfold fRef; simp only [eq_comm (a := s') (b := s)]
theorem d1_0 : decode prog_14_method_1_code 0 = .ok (.aload_n 0, 1) := by decide +kernel
theorem d1_1 : decode prog_14_method_1_code 1 = .ok (.invokespecial 1, 3) := by decide +kernel
theorem d1_4 : decode prog_14_method_1_code 4 = .ok (.aload_n 0, 1) := by decide +kernel
theorem d1_5 : decode prog_14_method_1_code 5 = .ok (.lload_n 1, 1) := by decide +kernel
theorem d1_6 : decode prog_14_method_1_code 6 = .ok (.putfield 7, 3) := by decide +kernel
theorem d1_9 : decode prog_14_method_1_code 9 = .ok (.aload_n 0, 1) := by decide +kernel
theorem d1_10 : decode prog_14_method_1_code 10 = .ok (.lload_n 3, 1) := by decide +kernel
theorem d1_11 : decode prog_14_method_1_code 11 = .ok (.putfield 13, 3) := by decide +kernel
theorem d1_14 : decode prog_14_method_1_code 14 = .ok (.return_, 1) := by decide +kernel
abbrev Q1 (Z : State) (a : Addr) (p : Int64) (q : Int64)  (h0 : Heap) : Option Value → Heap → Prop := fun v h => v = none ∧ Keep h0 h [a] ∧ Fld Z h a "com/example/settle/settle/io/PublishedEnd" "segment" "J" (.long p) ∧ Fld Z h a "com/example/settle/settle/io/PublishedEnd" "offset" "J" (.long q)
set_option maxRecDepth 65536 in
set_option maxHeartbeats 40000000 in
theorem rm1 {l : Launch} {Z : State} {a0 : Array Value} (hw : ∀ d ∈ tables_1, d.before a0 Z = true) (n0 : Nat) (a : Addr) (p : Int64) (q : Int64)  (h0 : Heap) (Fsegment : Fld Z h0 a "com/example/settle/settle/io/PublishedEnd" "segment" "J" (.long (0 : Int64))) (Foffset : Fld Z h0 a "com/example/settle/settle/io/PublishedEnd" "offset" "J" (.long (0 : Int64))) (E : Exa Z h0 a "com/example/settle/settle/io/PublishedEnd") (g_a : n0 ≤ a) :
    Met l Z n0 (⟨"com/example/settle/settle/io/PublishedEnd", "<init>", "(JJ)V"⟩ : MethodName) prog_14_method_1_code 5 none [] ({ frames := 1, cells := 0, slots := 0, locals := 12 } : Room) #[(.ref a), (.long p), (.long q)] h0 (Q1 Z a p q h0) 0 0 := by
  refine Met.of pn0 (Ls := #[.val (.ref a), .val (.long p), .second, .val (.long q), .second]) rfl (fun k T0 X0 => ?_)
  have K0 : Keep h0 h0 [a] := Keep.refl _ _
  refine g_aloadN X0 d1_0 rfl rfl 1 rfl ?_
  refine g_initO X0 (w6 hw) (w7 hw) (w8 hw) rfl (by decide) (Nat.le_of_ble_eq_true rfl) d1_1 4 rfl (fun T1 X1 => ?_)
  refine g_aloadN X1 d1_4 rfl rfl 5 rfl ?_
  refine g_lloadN X1 d1_5 rfl 6 rfl ?_
  refine g_putFin X1 (w9 hw) Fsegment E (w10 hw) rfl rfl (w1 hw) g_a .long (by decide) rfl rfl d1_6 9 rfl (fun T2 h2 X2 W2 => ?_)
  have F2 := Fsegment.same W2
  have K3 : Keep h0 h2 [a] := K0.wr W2 (Or.inl (by simp))
  refine g_aloadN X2 d1_9 rfl rfl 10 rfl ?_
  refine g_lloadN X2 d1_10 rfl 11 rfl ?_
  have ft4 := (E.wr W2)
  have ft5 := (Foffset.other W2 (Or.inr (slot_ne (Or.inr (w12 hw)) (Or.inr (w10 hw)) (by decide) (t := .long) (t' := .long) (by decide) (by decide))))
  refine g_putFin X2 (w11 hw) ft5 ft4 (w12 hw) rfl rfl (w1 hw) g_a .long (by decide) rfl rfl d1_11 14 rfl (fun T6 h6 X6 W6 => ?_)
  have F6 := ft5.same W6
  have K7 : Keep h0 h6 [a] := K3.wr W6 (Or.inl (by simp))
  have ft8 := (F2.other W6 (Or.inr (slot_ne (Or.inr (w10 hw)) (Or.inr (w12 hw)) (by decide) (t := .long) (t' := .long) (by decide) (by decide))))
  exact g_ret X6 d1_14 (by decide) (by decide) ⟨rfl, K7, ft8, F6⟩
theorem d2_0 : decode prog_14_method_4_code 0 = .ok (.aload_n 0, 1) := by decide +kernel
theorem d2_1 : decode prog_14_method_4_code 1 = .ok (.getfield 7, 3) := by decide +kernel
theorem d2_4 : decode prog_14_method_4_code 4 = .ok (.aload_n 1, 1) := by decide +kernel
theorem d2_5 : decode prog_14_method_4_code 5 = .ok (.getfield 7, 3) := by decide +kernel
theorem d2_8 : decode prog_14_method_4_code 8 = .ok (.lcmp, 1) := by decide +kernel
theorem d2_9 : decode prog_14_method_4_code 9 = .ok (.ifCond .gt 27, 3) := by decide +kernel
theorem d2_12 : decode prog_14_method_4_code 12 = .ok (.aload_n 0, 1) := by decide +kernel
theorem d2_13 : decode prog_14_method_4_code 13 = .ok (.getfield 7, 3) := by decide +kernel
theorem d2_16 : decode prog_14_method_4_code 16 = .ok (.aload_n 1, 1) := by decide +kernel
theorem d2_17 : decode prog_14_method_4_code 17 = .ok (.getfield 7, 3) := by decide +kernel
theorem d2_20 : decode prog_14_method_4_code 20 = .ok (.lcmp, 1) := by decide +kernel
theorem d2_21 : decode prog_14_method_4_code 21 = .ok (.ifCond .ne 19, 3) := by decide +kernel
theorem d2_24 : decode prog_14_method_4_code 24 = .ok (.aload_n 0, 1) := by decide +kernel
theorem d2_25 : decode prog_14_method_4_code 25 = .ok (.getfield 13, 3) := by decide +kernel
theorem d2_28 : decode prog_14_method_4_code 28 = .ok (.aload_n 1, 1) := by decide +kernel
theorem d2_29 : decode prog_14_method_4_code 29 = .ok (.getfield 13, 3) := by decide +kernel
theorem d2_32 : decode prog_14_method_4_code 32 = .ok (.lcmp, 1) := by decide +kernel
theorem d2_33 : decode prog_14_method_4_code 33 = .ok (.ifCond .le 7, 3) := by decide +kernel
theorem d2_36 : decode prog_14_method_4_code 36 = .ok (.iconst 1, 1) := by decide +kernel
theorem d2_37 : decode prog_14_method_4_code 37 = .ok (.goto 4, 3) := by decide +kernel
theorem d2_40 : decode prog_14_method_4_code 40 = .ok (.iconst 0, 1) := by decide +kernel
theorem d2_41 : decode prog_14_method_4_code 41 = .ok (.ireturn, 1) := by decide +kernel
abbrev Q2 (a : Addr) (b : Addr) (s : Int64) (o : Int64) (s' : Int64) (o' : Int64) (h0 : Heap) : Option Value → Heap → Prop := fun v h => v = some (.int (fPast s o s' o')) ∧ h0 = h
set_option maxRecDepth 65536 in
set_option maxHeartbeats 40000000 in
theorem rm2 {l : Launch} {Z : State} {a0 : Array Value} (hw : ∀ d ∈ tables_1, d.before a0 Z = true) (n0 : Nat) (a : Addr) (b : Addr) (s : Int64) (o : Int64) (s' : Int64) (o' : Int64) (h0 : Heap) (Fasegment : Fld Z h0 a "com/example/settle/settle/io/PublishedEnd" "segment" "J" (.long s)) (Faoffset : Fld Z h0 a "com/example/settle/settle/io/PublishedEnd" "offset" "J" (.long o)) (Fbsegment : Fld Z h0 b "com/example/settle/settle/io/PublishedEnd" "segment" "J" (.long s')) (Fboffset : Fld Z h0 b "com/example/settle/settle/io/PublishedEnd" "offset" "J" (.long o')) :
    Met l Z n0 (⟨"com/example/settle/settle/io/PublishedEnd", "isPast", "(Lcom/example/settle/settle/io/PublishedEnd;)Z"⟩ : MethodName) prog_14_method_4_code 2 (some .boolean) [] ({ frames := 0, cells := 0, slots := 0, locals := 0 } : Room) #[(.ref a), (.ref b)] h0 (Q2 a b s o s' o' h0) 0 0 := by
  refine Met.of pn1 (Ls := #[.val (.ref a), .val (.ref b)]) rfl (fun k T0 X0 => ?_)
  refine g_aloadN X0 d2_0 rfl rfl 1 rfl ?_
  refine g_getF X0 (w9 hw) Via.refl Fasegment d2_1 4 rfl (fun T1 X1 => ?_)
  refine g_aloadN X1 d2_4 rfl rfl 5 rfl ?_
  refine g_getF X1 (w9 hw) Via.refl Fbsegment d2_5 8 rfl (fun T2 X2 => ?_)
  refine g_lcmp X2 d2_8 9 rfl ?_
  refine g_if X2 l_gt d2_9 36 (by decide) (by decide) 12 rfl (fun h3 => ?_) (fun h3 => ?_)
  · skip
    refine g_iconst X2 (1 : Int32) d2_36 rfl 37 rfl ?_
    refine g_goto X2 d2_37 41 (by decide) (by decide) ?_
    exact g_retZ X2 d2_41 (by decide) (by decide) ⟨by simp [fPast, own_b0, own_b1, h3], rfl⟩
  · skip
    refine g_aloadN X2 d2_12 rfl rfl 13 rfl ?_
    refine g_getF X2 (w9 hw) Via.refl Fasegment d2_13 16 rfl (fun T4 X4 => ?_)
    refine g_aloadN X4 d2_16 rfl rfl 17 rfl ?_
    refine g_getF X4 (w9 hw) Via.refl Fbsegment d2_17 20 rfl (fun T5 X5 => ?_)
    refine g_lcmp X5 d2_20 21 rfl ?_
    refine g_ifN X5 l_ne d2_21 40 (by decide) (by decide) 24 rfl (fun h6 => ?_) (fun h6 => ?_)
    · skip
      refine g_aloadN X5 d2_24 rfl rfl 25 rfl ?_
      refine g_getF X5 (w11 hw) Via.refl Faoffset d2_25 28 rfl (fun T7 X7 => ?_)
      refine g_aloadN X7 d2_28 rfl rfl 29 rfl ?_
      refine g_getF X7 (w11 hw) Via.refl Fboffset d2_29 32 rfl (fun T8 X8 => ?_)
      refine g_lcmp X8 d2_32 33 rfl ?_
      refine g_ifN X8 l_le d2_33 40 (by decide) (by decide) 36 rfl (fun h9 => ?_) (fun h9 => ?_)
      · skip
        refine g_iconst X8 (1 : Int32) d2_36 rfl 37 rfl ?_
        refine g_goto X8 d2_37 41 (by decide) (by decide) ?_
        exact g_retZ X8 d2_41 (by decide) (by decide) ⟨by simp [fPast, own_b0, own_b1, h3, h6, h9], rfl⟩
      · skip
        refine g_iconst X8 (0 : Int32) d2_40 rfl 41 rfl ?_
        exact g_retZ X8 d2_41 (by decide) (by decide) ⟨by simp [fPast, own_b0, own_b1, h3, h6, h9], rfl⟩
    · skip
      refine g_iconst X5 (0 : Int32) d2_40 rfl 41 rfl ?_
      exact g_retZ X5 d2_41 (by decide) (by decide) ⟨by simp [fPast, own_b0, own_b1, h3, h6], rfl⟩
abbrev Q0 (sa : Int64) (oa : Int64) (sb : Int64) (ob : Int64) (sc : Int64) (mo : Int32)  (h0 : Heap) : Option Value → Heap → Prop := fun v h => v = some (.int 1)
set_option maxRecDepth 65536 in
set_option maxHeartbeats 40000000 in
theorem rm0 {l : Launch} {Z : State} {a0 : Array Value} (hw : ∀ d ∈ tables_1, d.before a0 Z = true) (n0 : Nat) (sa : Int64) (oa : Int64) (sb : Int64) (ob : Int64) (sc : Int64) (mo : Int32)  (h0 : Heap) (Z0 : n0 ≤ h0.size)  :
    Met l Z n0 x code maxLocals ret tables_1 room_1 #[(.long sa), (.long oa), (.long sb), (.long ob), (.long sc), (.int mo)] h0 (Q0 sa oa sb ob sc mo h0) 16 128 := by
  refine Met.of pn2 (Ls := #[.val (.long sa), .second, .val (.long oa), .second, .val (.long sb), .second, .val (.long ob), .second, .val (.long sc), .second, .val (.int mo), .unset, .unset, .unset, .unset, .unset, .unset, .unset, .unset, .unset, .unset, .unset, .unset, .unset, .unset, .unset, .unset, .unset, .unset, .unset, .unset, .unset, .unset, .unset, .unset, .unset]) rfl (fun k T0 X0 => ?_)
  refine g_lloadN X0 at_0 rfl 1 rfl ?_
  refine g_lstore X0 at_1 #[.val (.long sa), .second, .val (.long oa), .second, .val (.long sb), .second, .val (.long ob), .second, .val (.long sc), .second, .val (.int mo), .val (.long sa), .second, .unset, .unset, .unset, .unset, .unset, .unset, .unset, .unset, .unset, .unset, .unset, .unset, .unset, .unset, .unset, .unset, .unset, .unset, .unset, .unset, .unset, .unset, .unset] rfl 3 rfl ?_
  refine g_lloadN X0 at_3 rfl 4 rfl ?_
  refine g_lstore X0 at_4 #[.val (.long sa), .second, .val (.long oa), .second, .val (.long sb), .second, .val (.long ob), .second, .val (.long sc), .second, .val (.int mo), .val (.long sa), .second, .val (.long oa), .second, .unset, .unset, .unset, .unset, .unset, .unset, .unset, .unset, .unset, .unset, .unset, .unset, .unset, .unset, .unset, .unset, .unset, .unset, .unset, .unset, .unset] rfl 6 rfl ?_
  refine g_iload X0 at_6 rfl 8 rfl ?_
  refine g_iconst X0 (1 : Int32) at_8 rfl 9 rfl ?_
  refine g_iand X0 at_9 10 rfl ?_
  have k19_1 : ∀ (v1 : Int64), v1 = (if (mo &&& (1 : Int32)) = 0 then sb else sa) → Go k n0 (Q0 sa oa sb ob sc mo h0) 16 128 T0 19 #[.val (.long sa), .second, .val (.long oa), .second, .val (.long sb), .second, .val (.long ob), .second, .val (.long sc), .second, .val (.int mo), .val (.long sa), .second, .val (.long oa), .second, .unset, .unset, .unset, .unset, .unset, .unset, .unset, .unset, .unset, .unset, .unset, .unset, .unset, .unset, .unset, .unset, .unset, .unset, .unset, .unset, .unset] [(.long v1)] := by
    intro v1 hv1
    refine g_lstore X0 at_19 #[.val (.long sa), .second, .val (.long oa), .second, .val (.long sb), .second, .val (.long ob), .second, .val (.long sc), .second, .val (.int mo), .val (.long sa), .second, .val (.long oa), .second, .val (.long v1), .second, .unset, .unset, .unset, .unset, .unset, .unset, .unset, .unset, .unset, .unset, .unset, .unset, .unset, .unset, .unset, .unset, .unset, .unset, .unset] rfl 21 rfl ?_
    refine g_iload X0 at_21 rfl 23 rfl ?_
    refine g_iconst X0 (2 : Int32) at_23 rfl 24 rfl ?_
    refine g_iand X0 at_24 25 rfl ?_
    have k34_2 : ∀ (v2 : Int64), v2 = (if (mo &&& (2 : Int32)) = 0 then ob else oa) → Go k n0 (Q0 sa oa sb ob sc mo h0) 16 128 T0 34 #[.val (.long sa), .second, .val (.long oa), .second, .val (.long sb), .second, .val (.long ob), .second, .val (.long sc), .second, .val (.int mo), .val (.long sa), .second, .val (.long oa), .second, .val (.long v1), .second, .unset, .unset, .unset, .unset, .unset, .unset, .unset, .unset, .unset, .unset, .unset, .unset, .unset, .unset, .unset, .unset, .unset, .unset, .unset] [(.long v2)] := by
      intro v2 hv2
      refine g_lstore X0 at_34 #[.val (.long sa), .second, .val (.long oa), .second, .val (.long sb), .second, .val (.long ob), .second, .val (.long sc), .second, .val (.int mo), .val (.long sa), .second, .val (.long oa), .second, .val (.long v1), .second, .val (.long v2), .second, .unset, .unset, .unset, .unset, .unset, .unset, .unset, .unset, .unset, .unset, .unset, .unset, .unset, .unset, .unset, .unset, .unset] rfl 36 rfl ?_
      refine g_iload X0 at_36 rfl 38 rfl ?_
      refine g_iconst X0 (4 : Int32) at_38 rfl 39 rfl ?_
      refine g_iand X0 at_39 40 rfl ?_
      have k50_3 : ∀ (v3 : Int64), v3 = (if (mo &&& (4 : Int32)) = 0 then sc else v1) → Go k n0 (Q0 sa oa sb ob sc mo h0) 16 128 T0 50 #[.val (.long sa), .second, .val (.long oa), .second, .val (.long sb), .second, .val (.long ob), .second, .val (.long sc), .second, .val (.int mo), .val (.long sa), .second, .val (.long oa), .second, .val (.long v1), .second, .val (.long v2), .second, .unset, .unset, .unset, .unset, .unset, .unset, .unset, .unset, .unset, .unset, .unset, .unset, .unset, .unset, .unset, .unset, .unset] [(.long v3)] := by
        intro v3 hv3
        refine g_lstore X0 at_50 #[.val (.long sa), .second, .val (.long oa), .second, .val (.long sb), .second, .val (.long ob), .second, .val (.long sc), .second, .val (.int mo), .val (.long sa), .second, .val (.long oa), .second, .val (.long v1), .second, .val (.long v2), .second, .val (.long v3), .second, .unset, .unset, .unset, .unset, .unset, .unset, .unset, .unset, .unset, .unset, .unset, .unset, .unset, .unset, .unset] rfl 52 rfl ?_
        refine g_iload X0 at_52 rfl 54 rfl ?_
        refine g_bipush X0 (8 : Int32) at_54 rfl 56 rfl ?_
        refine g_iand X0 at_56 57 rfl ?_
        have k70_4 : ∀ (v4 : Int64), v4 = (if (mo &&& (8 : Int32)) = 0 then (ob + sc) else v2) → Go k n0 (Q0 sa oa sb ob sc mo h0) 16 128 T0 70 #[.val (.long sa), .second, .val (.long oa), .second, .val (.long sb), .second, .val (.long ob), .second, .val (.long sc), .second, .val (.int mo), .val (.long sa), .second, .val (.long oa), .second, .val (.long v1), .second, .val (.long v2), .second, .val (.long v3), .second, .unset, .unset, .unset, .unset, .unset, .unset, .unset, .unset, .unset, .unset, .unset, .unset, .unset, .unset, .unset] [(.long v4)] := by
          intro v4 hv4
          refine g_lstore X0 at_70 #[.val (.long sa), .second, .val (.long oa), .second, .val (.long sb), .second, .val (.long ob), .second, .val (.long sc), .second, .val (.int mo), .val (.long sa), .second, .val (.long oa), .second, .val (.long v1), .second, .val (.long v2), .second, .val (.long v3), .second, .val (.long v4), .second, .unset, .unset, .unset, .unset, .unset, .unset, .unset, .unset, .unset, .unset, .unset, .unset, .unset] rfl 72 rfl ?_
          refine g_new X0 (w0 hw) (w1 hw) (w2 hw) at_72 (by decide) (by decide) 75 rfl (fun T5 h5 b5 X5 g5 E5 A5 D5 => ?_)
          have g_b5 : n0 ≤ b5 := Nat.le_trans Z0 (Nat.le_of_eq g5.symm)
          have z6 : n0 ≤ h5.size := Nat.le_trans Z0 E5.1
          have F7 : Fld Z h5 b5 "com/example/settle/settle/io/PublishedEnd" "segment" "J" (.long (0 : Int64)) := D5 (Or.inr (w10 hw)) (ty := .long) (by decide)
          have F8 : Fld Z h5 b5 "com/example/settle/settle/io/PublishedEnd" "offset" "J" (.long (0 : Int64)) := D5 (Or.inr (w12 hw)) (ty := .long) (by decide)
          refine g_dup X5 at_75 rfl 76 rfl ?_
          refine g_lload X5 at_76 rfl 78 rfl ?_
          refine g_lload X5 at_78 rfl 80 rfl ?_
          refine g_callI X5 b5 [(.long sa), (.long oa)] [(.ref b5)] (rm1 hw n0 b5 sa oa h5 F7 F8 A5 g_b5) rfl (w3 hw) (w4 hw) (w2 hw) (w5 hw) (by decide) pd0 rfl rfl (by decide) (Nat.le_of_ble_eq_true rfl) (by decide) (by decide) at_80 rfl 83 rfl (fun v9 T9 h9 X9 q9 => ?_)
          obtain ⟨rfl, K9, F9_0, F9_1⟩ := q9
          have z10 : n0 ≤ h9.size := Nat.le_trans z6 K9.1
          show Go k n0 (Q0 sa oa sb ob sc mo h0) 16 128 T9 83 #[.val (.long sa), .second, .val (.long oa), .second, .val (.long sb), .second, .val (.long ob), .second, .val (.long sc), .second, .val (.int mo), .val (.long sa), .second, .val (.long oa), .second, .val (.long v1), .second, .val (.long v2), .second, .val (.long v3), .second, .val (.long v4), .second, .unset, .unset, .unset, .unset, .unset, .unset, .unset, .unset, .unset, .unset, .unset, .unset, .unset] [(.ref b5)]
          refine g_astore X9 at_83 rfl #[.val (.long sa), .second, .val (.long oa), .second, .val (.long sb), .second, .val (.long ob), .second, .val (.long sc), .second, .val (.int mo), .val (.long sa), .second, .val (.long oa), .second, .val (.long v1), .second, .val (.long v2), .second, .val (.long v3), .second, .val (.long v4), .second, .val (.ref b5), .unset, .unset, .unset, .unset, .unset, .unset, .unset, .unset, .unset, .unset, .unset, .unset] rfl 85 rfl ?_
          refine g_new X9 (w0 hw) (w1 hw) (w2 hw) at_85 (by decide) (by decide) 88 rfl (fun T11 h11 b11 X11 g11 E11 A11 D11 => ?_)
          have ft12 := (A5.keep K9)
          have ne13 : b5 ≠ b11 := Nat.ne_of_lt (Nat.lt_of_lt_of_le ft12.lt (Nat.le_of_eq g11.symm))
          have g_b11 : n0 ≤ b11 := Nat.le_trans z10 (Nat.le_of_eq g11.symm)
          have z14 : n0 ≤ h11.size := Nat.le_trans z10 E11.1
          have F15 : Fld Z h11 b11 "com/example/settle/settle/io/PublishedEnd" "segment" "J" (.long (0 : Int64)) := D11 (Or.inr (w10 hw)) (ty := .long) (by decide)
          have F16 : Fld Z h11 b11 "com/example/settle/settle/io/PublishedEnd" "offset" "J" (.long (0 : Int64)) := D11 (Or.inr (w12 hw)) (ty := .long) (by decide)
          refine g_dup X11 at_88 rfl 89 rfl ?_
          refine g_lload X11 at_89 rfl 91 rfl ?_
          refine g_lload X11 at_91 rfl 93 rfl ?_
          refine g_callI X11 b11 [(.long v1), (.long v2)] [(.ref b11)] (rm1 hw n0 b11 v1 v2 h11 F15 F16 A11 g_b11) rfl (w3 hw) (w4 hw) (w2 hw) (w5 hw) (by decide) pd0 rfl rfl (by decide) (Nat.le_of_ble_eq_true rfl) (by decide) (by decide) at_93 rfl 96 rfl (fun v17 T17 h17 X17 q17 => ?_)
          obtain ⟨rfl, K17, F17_0, F17_1⟩ := q17
          have z18 : n0 ≤ h17.size := Nat.le_trans z14 K17.1
          show Go k n0 (Q0 sa oa sb ob sc mo h0) 16 128 T17 96 #[.val (.long sa), .second, .val (.long oa), .second, .val (.long sb), .second, .val (.long ob), .second, .val (.long sc), .second, .val (.int mo), .val (.long sa), .second, .val (.long oa), .second, .val (.long v1), .second, .val (.long v2), .second, .val (.long v3), .second, .val (.long v4), .second, .val (.ref b5), .unset, .unset, .unset, .unset, .unset, .unset, .unset, .unset, .unset, .unset, .unset, .unset] [(.ref b11)]
          refine g_astore X17 at_96 rfl #[.val (.long sa), .second, .val (.long oa), .second, .val (.long sb), .second, .val (.long ob), .second, .val (.long sc), .second, .val (.int mo), .val (.long sa), .second, .val (.long oa), .second, .val (.long v1), .second, .val (.long v2), .second, .val (.long v3), .second, .val (.long v4), .second, .val (.ref b5), .val (.ref b11), .unset, .unset, .unset, .unset, .unset, .unset, .unset, .unset, .unset, .unset, .unset] rfl 98 rfl ?_
          refine g_new X17 (w0 hw) (w1 hw) (w2 hw) at_98 (by decide) (by decide) 101 rfl (fun T19 h19 b19 X19 g19 E19 A19 D19 => ?_)
          have ft20 := ((ft12.ext E11).keep K17)
          have ne21 : b5 ≠ b19 := Nat.ne_of_lt (Nat.lt_of_lt_of_le ft20.lt (Nat.le_of_eq g19.symm))
          have ft22 := (A11.keep K17)
          have ne23 : b11 ≠ b19 := Nat.ne_of_lt (Nat.lt_of_lt_of_le ft22.lt (Nat.le_of_eq g19.symm))
          have g_b19 : n0 ≤ b19 := Nat.le_trans z18 (Nat.le_of_eq g19.symm)
          have z24 : n0 ≤ h19.size := Nat.le_trans z18 E19.1
          have F25 : Fld Z h19 b19 "com/example/settle/settle/io/PublishedEnd" "segment" "J" (.long (0 : Int64)) := D19 (Or.inr (w10 hw)) (ty := .long) (by decide)
          have F26 : Fld Z h19 b19 "com/example/settle/settle/io/PublishedEnd" "offset" "J" (.long (0 : Int64)) := D19 (Or.inr (w12 hw)) (ty := .long) (by decide)
          refine g_dup X19 at_101 rfl 102 rfl ?_
          refine g_lload X19 at_102 rfl 104 rfl ?_
          refine g_lload X19 at_104 rfl 106 rfl ?_
          refine g_callI X19 b19 [(.long v3), (.long v4)] [(.ref b19)] (rm1 hw n0 b19 v3 v4 h19 F25 F26 A19 g_b19) rfl (w3 hw) (w4 hw) (w2 hw) (w5 hw) (by decide) pd0 rfl rfl (by decide) (Nat.le_of_ble_eq_true rfl) (by decide) (by decide) at_106 rfl 109 rfl (fun v27 T27 h27 X27 q27 => ?_)
          obtain ⟨rfl, K27, F27_0, F27_1⟩ := q27
          have z28 : n0 ≤ h27.size := Nat.le_trans z24 K27.1
          show Go k n0 (Q0 sa oa sb ob sc mo h0) 16 128 T27 109 #[.val (.long sa), .second, .val (.long oa), .second, .val (.long sb), .second, .val (.long ob), .second, .val (.long sc), .second, .val (.int mo), .val (.long sa), .second, .val (.long oa), .second, .val (.long v1), .second, .val (.long v2), .second, .val (.long v3), .second, .val (.long v4), .second, .val (.ref b5), .val (.ref b11), .unset, .unset, .unset, .unset, .unset, .unset, .unset, .unset, .unset, .unset, .unset] [(.ref b19)]
          refine g_astore X27 at_109 rfl #[.val (.long sa), .second, .val (.long oa), .second, .val (.long sb), .second, .val (.long ob), .second, .val (.long sc), .second, .val (.int mo), .val (.long sa), .second, .val (.long oa), .second, .val (.long v1), .second, .val (.long v2), .second, .val (.long v3), .second, .val (.long v4), .second, .val (.ref b5), .val (.ref b11), .val (.ref b19), .unset, .unset, .unset, .unset, .unset, .unset, .unset, .unset, .unset, .unset] rfl 111 rfl ?_
          refine g_aload X27 at_111 rfl rfl 113 rfl ?_
          refine g_aload X27 at_113 rfl rfl 115 rfl ?_
          have ft29 := ((((F9_0.ext E11).keep K17 (ninS ne13 nin0)).ext E19).keep K27 (ninS ne21 nin0))
          have ft30 := ((((F9_1.ext E11).keep K17 (ninS ne13 nin0)).ext E19).keep K27 (ninS ne21 nin0))
          have ft31 := ((F17_0.ext E19).keep K27 (ninS ne23 nin0))
          have ft32 := ((F17_1.ext E19).keep K27 (ninS ne23 nin0))
          have ft34 := ((ft20.ext E19).keep K27)
          refine g_callV X27 b5 [(.ref b11)] [] (rm2 hw n0 b5 b11 sa oa v1 v2 h27 ft29 ft30 ft31 ft32) ft34 (w13 hw) (w14 hw) (w16 hw) (w15 hw) (w2 hw) (w17 hw) (by decide) pd1 rfl rfl (by decide) (Nat.le_of_ble_eq_true rfl) (by decide) (by decide) at_115 rfl 118 rfl (fun v33 T33 h33 X33 q33 => ?_)
          obtain ⟨rfl, rfl⟩ := q33
          show Go k n0 (Q0 sa oa sb ob sc mo h0) 16 128 T33 118 #[.val (.long sa), .second, .val (.long oa), .second, .val (.long sb), .second, .val (.long ob), .second, .val (.long sc), .second, .val (.int mo), .val (.long sa), .second, .val (.long oa), .second, .val (.long v1), .second, .val (.long v2), .second, .val (.long v3), .second, .val (.long v4), .second, .val (.ref b5), .val (.ref b11), .val (.ref b19), .unset, .unset, .unset, .unset, .unset, .unset, .unset, .unset, .unset, .unset] [(.int (fPast sa oa v1 v2))]
          refine g_istore X33 at_118 #[.val (.long sa), .second, .val (.long oa), .second, .val (.long sb), .second, .val (.long ob), .second, .val (.long sc), .second, .val (.int mo), .val (.long sa), .second, .val (.long oa), .second, .val (.long v1), .second, .val (.long v2), .second, .val (.long v3), .second, .val (.long v4), .second, .val (.ref b5), .val (.ref b11), .val (.ref b19), .val (.int (fPast sa oa v1 v2)), .unset, .unset, .unset, .unset, .unset, .unset, .unset, .unset, .unset] rfl 120 rfl ?_
          refine g_aload X33 at_120 rfl rfl 122 rfl ?_
          refine g_aload X33 at_122 rfl rfl 124 rfl ?_
          have ft36 := ((ft22.ext E19).keep K27)
          refine g_callV X33 b11 [(.ref b5)] [] (rm2 hw n0 b11 b5 v1 v2 sa oa h27 ft31 ft32 ft29 ft30) ft36 (w13 hw) (w14 hw) (w16 hw) (w15 hw) (w2 hw) (w17 hw) (by decide) pd1 rfl rfl (by decide) (Nat.le_of_ble_eq_true rfl) (by decide) (by decide) at_124 rfl 127 rfl (fun v35 T35 h35 X35 q35 => ?_)
          obtain ⟨rfl, rfl⟩ := q35
          show Go k n0 (Q0 sa oa sb ob sc mo h0) 16 128 T35 127 #[.val (.long sa), .second, .val (.long oa), .second, .val (.long sb), .second, .val (.long ob), .second, .val (.long sc), .second, .val (.int mo), .val (.long sa), .second, .val (.long oa), .second, .val (.long v1), .second, .val (.long v2), .second, .val (.long v3), .second, .val (.long v4), .second, .val (.ref b5), .val (.ref b11), .val (.ref b19), .val (.int (fPast sa oa v1 v2)), .unset, .unset, .unset, .unset, .unset, .unset, .unset, .unset, .unset] [(.int (fPast v1 v2 sa oa))]
          refine g_istore X35 at_127 #[.val (.long sa), .second, .val (.long oa), .second, .val (.long sb), .second, .val (.long ob), .second, .val (.long sc), .second, .val (.int mo), .val (.long sa), .second, .val (.long oa), .second, .val (.long v1), .second, .val (.long v2), .second, .val (.long v3), .second, .val (.long v4), .second, .val (.ref b5), .val (.ref b11), .val (.ref b19), .val (.int (fPast sa oa v1 v2)), .val (.int (fPast v1 v2 sa oa)), .unset, .unset, .unset, .unset, .unset, .unset, .unset, .unset] rfl 129 rfl ?_
          refine g_aload X35 at_129 rfl rfl 131 rfl ?_
          refine g_aload X35 at_131 rfl rfl 133 rfl ?_
          refine g_callV X35 b11 [(.ref b19)] [] (rm2 hw n0 b11 b19 v1 v2 v3 v4 h27 ft31 ft32 F27_0 F27_1) ft36 (w13 hw) (w14 hw) (w16 hw) (w15 hw) (w2 hw) (w17 hw) (by decide) pd1 rfl rfl (by decide) (Nat.le_of_ble_eq_true rfl) (by decide) (by decide) at_133 rfl 136 rfl (fun v37 T37 h37 X37 q37 => ?_)
          obtain ⟨rfl, rfl⟩ := q37
          show Go k n0 (Q0 sa oa sb ob sc mo h0) 16 128 T37 136 #[.val (.long sa), .second, .val (.long oa), .second, .val (.long sb), .second, .val (.long ob), .second, .val (.long sc), .second, .val (.int mo), .val (.long sa), .second, .val (.long oa), .second, .val (.long v1), .second, .val (.long v2), .second, .val (.long v3), .second, .val (.long v4), .second, .val (.ref b5), .val (.ref b11), .val (.ref b19), .val (.int (fPast sa oa v1 v2)), .val (.int (fPast v1 v2 sa oa)), .unset, .unset, .unset, .unset, .unset, .unset, .unset, .unset] [(.int (fPast v1 v2 v3 v4))]
          refine g_istore X37 at_136 #[.val (.long sa), .second, .val (.long oa), .second, .val (.long sb), .second, .val (.long ob), .second, .val (.long sc), .second, .val (.int mo), .val (.long sa), .second, .val (.long oa), .second, .val (.long v1), .second, .val (.long v2), .second, .val (.long v3), .second, .val (.long v4), .second, .val (.ref b5), .val (.ref b11), .val (.ref b19), .val (.int (fPast sa oa v1 v2)), .val (.int (fPast v1 v2 sa oa)), .val (.int (fPast v1 v2 v3 v4)), .unset, .unset, .unset, .unset, .unset, .unset, .unset] rfl 138 rfl ?_
          refine g_aload X37 at_138 rfl rfl 140 rfl ?_
          refine g_aload X37 at_140 rfl rfl 142 rfl ?_
          refine g_callV X37 b5 [(.ref b19)] [] (rm2 hw n0 b5 b19 sa oa v3 v4 h27 ft29 ft30 F27_0 F27_1) ft34 (w13 hw) (w14 hw) (w16 hw) (w15 hw) (w2 hw) (w17 hw) (by decide) pd1 rfl rfl (by decide) (Nat.le_of_ble_eq_true rfl) (by decide) (by decide) at_142 rfl 145 rfl (fun v38 T38 h38 X38 q38 => ?_)
          obtain ⟨rfl, rfl⟩ := q38
          show Go k n0 (Q0 sa oa sb ob sc mo h0) 16 128 T38 145 #[.val (.long sa), .second, .val (.long oa), .second, .val (.long sb), .second, .val (.long ob), .second, .val (.long sc), .second, .val (.int mo), .val (.long sa), .second, .val (.long oa), .second, .val (.long v1), .second, .val (.long v2), .second, .val (.long v3), .second, .val (.long v4), .second, .val (.ref b5), .val (.ref b11), .val (.ref b19), .val (.int (fPast sa oa v1 v2)), .val (.int (fPast v1 v2 sa oa)), .val (.int (fPast v1 v2 v3 v4)), .unset, .unset, .unset, .unset, .unset, .unset, .unset] [(.int (fPast sa oa v3 v4))]
          refine g_istore X38 at_145 #[.val (.long sa), .second, .val (.long oa), .second, .val (.long sb), .second, .val (.long ob), .second, .val (.long sc), .second, .val (.int mo), .val (.long sa), .second, .val (.long oa), .second, .val (.long v1), .second, .val (.long v2), .second, .val (.long v3), .second, .val (.long v4), .second, .val (.ref b5), .val (.ref b11), .val (.ref b19), .val (.int (fPast sa oa v1 v2)), .val (.int (fPast v1 v2 sa oa)), .val (.int (fPast v1 v2 v3 v4)), .val (.int (fPast sa oa v3 v4)), .unset, .unset, .unset, .unset, .unset, .unset] rfl 147 rfl ?_
          refine g_lload X38 at_147 rfl 149 rfl ?_
          refine g_lload X38 at_149 rfl 151 rfl ?_
          refine g_lcmp X38 at_151 152 rfl ?_
          have k188_5 : ∀ (v39 : Int32), v39 = (if sa = v1 then (if v2 < oa then (1 : Int32) else (0 : Int32)) else (if v1 < sa then (1 : Int32) else (0 : Int32))) → Go k n0 (Q0 sa oa sb ob sc mo h0) 16 128 T38 188 #[.val (.long sa), .second, .val (.long oa), .second, .val (.long sb), .second, .val (.long ob), .second, .val (.long sc), .second, .val (.int mo), .val (.long sa), .second, .val (.long oa), .second, .val (.long v1), .second, .val (.long v2), .second, .val (.long v3), .second, .val (.long v4), .second, .val (.ref b5), .val (.ref b11), .val (.ref b19), .val (.int (fPast sa oa v1 v2)), .val (.int (fPast v1 v2 sa oa)), .val (.int (fPast v1 v2 v3 v4)), .val (.int (fPast sa oa v3 v4)), .val (.int v39), .unset, .unset, .unset, .unset, .unset] [] := by
            intro v39 hv39
            refine g_lload X38 at_188 rfl 190 rfl ?_
            refine g_lload X38 at_190 rfl 192 rfl ?_
            refine g_lcmp X38 at_192 193 rfl ?_
            have k229_6 : ∀ (v40 : Int32), v40 = (if sa = v1 then (if oa < v2 then (1 : Int32) else (0 : Int32)) else (if sa < v1 then (1 : Int32) else (0 : Int32))) → Go k n0 (Q0 sa oa sb ob sc mo h0) 16 128 T38 229 #[.val (.long sa), .second, .val (.long oa), .second, .val (.long sb), .second, .val (.long ob), .second, .val (.long sc), .second, .val (.int mo), .val (.long sa), .second, .val (.long oa), .second, .val (.long v1), .second, .val (.long v2), .second, .val (.long v3), .second, .val (.long v4), .second, .val (.ref b5), .val (.ref b11), .val (.ref b19), .val (.int (fPast sa oa v1 v2)), .val (.int (fPast v1 v2 sa oa)), .val (.int (fPast v1 v2 v3 v4)), .val (.int (fPast sa oa v3 v4)), .val (.int v39), .val (.int v40), .unset, .unset, .unset, .unset] [] := by
              intro v40 hv40
              refine g_lload X38 at_229 rfl 231 rfl ?_
              refine g_lload X38 at_231 rfl 233 rfl ?_
              refine g_lcmp X38 at_233 234 rfl ?_
              have k250_7 : ∀ (v41 : Int32), v41 = (if sa = v1 then (if oa = v2 then (1 : Int32) else (0 : Int32)) else (0 : Int32)) → Go k n0 (Q0 sa oa sb ob sc mo h0) 16 128 T38 250 #[.val (.long sa), .second, .val (.long oa), .second, .val (.long sb), .second, .val (.long ob), .second, .val (.long sc), .second, .val (.int mo), .val (.long sa), .second, .val (.long oa), .second, .val (.long v1), .second, .val (.long v2), .second, .val (.long v3), .second, .val (.long v4), .second, .val (.ref b5), .val (.ref b11), .val (.ref b19), .val (.int (fPast sa oa v1 v2)), .val (.int (fPast v1 v2 sa oa)), .val (.int (fPast v1 v2 v3 v4)), .val (.int (fPast sa oa v3 v4)), .val (.int v39), .val (.int v40), .unset, .unset, .unset, .unset] [(.int v41)] := by
                intro v41 hv41
                refine g_istore X38 at_250 #[.val (.long sa), .second, .val (.long oa), .second, .val (.long sb), .second, .val (.long ob), .second, .val (.long sc), .second, .val (.int mo), .val (.long sa), .second, .val (.long oa), .second, .val (.long v1), .second, .val (.long v2), .second, .val (.long v3), .second, .val (.long v4), .second, .val (.ref b5), .val (.ref b11), .val (.ref b19), .val (.int (fPast sa oa v1 v2)), .val (.int (fPast v1 v2 sa oa)), .val (.int (fPast v1 v2 v3 v4)), .val (.int (fPast sa oa v3 v4)), .val (.int v39), .val (.int v40), .val (.int v41), .unset, .unset, .unset] rfl 252 rfl ?_
                refine g_iload X38 at_252 rfl 254 rfl ?_
                have k262_8 : ∀ (v42 : Int32), v42 = (if (fPast sa oa v1 v2) = 0 then (0 : Int32) else (1 : Int32)) → Go k n0 (Q0 sa oa sb ob sc mo h0) 16 128 T38 262 #[.val (.long sa), .second, .val (.long oa), .second, .val (.long sb), .second, .val (.long ob), .second, .val (.long sc), .second, .val (.int mo), .val (.long sa), .second, .val (.long oa), .second, .val (.long v1), .second, .val (.long v2), .second, .val (.long v3), .second, .val (.long v4), .second, .val (.ref b5), .val (.ref b11), .val (.ref b19), .val (.int (fPast sa oa v1 v2)), .val (.int (fPast v1 v2 sa oa)), .val (.int (fPast v1 v2 v3 v4)), .val (.int (fPast sa oa v3 v4)), .val (.int v39), .val (.int v40), .val (.int v41), .unset, .unset, .unset] [(.int v42)] := by
                  intro v42 hv42
                  refine g_iload X38 at_262 rfl 264 rfl ?_
                  have k272_9 : ∀ (v43 : Int32), v43 = (if (fPast v1 v2 sa oa) = 0 then (0 : Int32) else (1 : Int32)) → Go k n0 (Q0 sa oa sb ob sc mo h0) 16 128 T38 272 #[.val (.long sa), .second, .val (.long oa), .second, .val (.long sb), .second, .val (.long ob), .second, .val (.long sc), .second, .val (.int mo), .val (.long sa), .second, .val (.long oa), .second, .val (.long v1), .second, .val (.long v2), .second, .val (.long v3), .second, .val (.long v4), .second, .val (.ref b5), .val (.ref b11), .val (.ref b19), .val (.int (fPast sa oa v1 v2)), .val (.int (fPast v1 v2 sa oa)), .val (.int (fPast v1 v2 v3 v4)), .val (.int (fPast sa oa v3 v4)), .val (.int v39), .val (.int v40), .val (.int v41), .unset, .unset, .unset] [(.int v43), (.int v42)] := by
                    intro v43 hv43
                    refine g_iadd X38 at_272 273 rfl ?_
                    refine g_iload X38 at_273 rfl 275 rfl ?_
                    have k283_10 : ∀ (v44 : Int32), v44 = (if v41 = 0 then (0 : Int32) else (1 : Int32)) → Go k n0 (Q0 sa oa sb ob sc mo h0) 16 128 T38 283 #[.val (.long sa), .second, .val (.long oa), .second, .val (.long sb), .second, .val (.long ob), .second, .val (.long sc), .second, .val (.int mo), .val (.long sa), .second, .val (.long oa), .second, .val (.long v1), .second, .val (.long v2), .second, .val (.long v3), .second, .val (.long v4), .second, .val (.ref b5), .val (.ref b11), .val (.ref b19), .val (.int (fPast sa oa v1 v2)), .val (.int (fPast v1 v2 sa oa)), .val (.int (fPast v1 v2 v3 v4)), .val (.int (fPast sa oa v3 v4)), .val (.int v39), .val (.int v40), .val (.int v41), .unset, .unset, .unset] [(.int v44), (.int (v42 + v43))] := by
                      intro v44 hv44
                      refine g_iadd X38 at_283 284 rfl ?_
                      refine g_istore X38 at_284 #[.val (.long sa), .second, .val (.long oa), .second, .val (.long sb), .second, .val (.long ob), .second, .val (.long sc), .second, .val (.int mo), .val (.long sa), .second, .val (.long oa), .second, .val (.long v1), .second, .val (.long v2), .second, .val (.long v3), .second, .val (.long v4), .second, .val (.ref b5), .val (.ref b11), .val (.ref b19), .val (.int (fPast sa oa v1 v2)), .val (.int (fPast v1 v2 sa oa)), .val (.int (fPast v1 v2 v3 v4)), .val (.int (fPast sa oa v3 v4)), .val (.int v39), .val (.int v40), .val (.int v41), .val (.int ((v42 + v43) + v44)), .unset, .unset] rfl 286 rfl ?_
                      refine g_iload X38 at_286 rfl 288 rfl ?_
                      refine g_iconst X38 (1 : Int32) at_288 rfl 289 rfl ?_
                      have k297_11 : ∀ (v45 : Int32), v45 = (if ((v42 + v43) + v44) = (1 : Int32) then (1 : Int32) else (0 : Int32)) → Go k n0 (Q0 sa oa sb ob sc mo h0) 16 128 T38 297 #[.val (.long sa), .second, .val (.long oa), .second, .val (.long sb), .second, .val (.long ob), .second, .val (.long sc), .second, .val (.int mo), .val (.long sa), .second, .val (.long oa), .second, .val (.long v1), .second, .val (.long v2), .second, .val (.long v3), .second, .val (.long v4), .second, .val (.ref b5), .val (.ref b11), .val (.ref b19), .val (.int (fPast sa oa v1 v2)), .val (.int (fPast v1 v2 sa oa)), .val (.int (fPast v1 v2 v3 v4)), .val (.int (fPast sa oa v3 v4)), .val (.int v39), .val (.int v40), .val (.int v41), .val (.int ((v42 + v43) + v44)), .unset, .unset] [(.int v45)] := by
                        intro v45 hv45
                        refine g_istore X38 at_297 #[.val (.long sa), .second, .val (.long oa), .second, .val (.long sb), .second, .val (.long ob), .second, .val (.long sc), .second, .val (.int mo), .val (.long sa), .second, .val (.long oa), .second, .val (.long v1), .second, .val (.long v2), .second, .val (.long v3), .second, .val (.long v4), .second, .val (.ref b5), .val (.ref b11), .val (.ref b19), .val (.int (fPast sa oa v1 v2)), .val (.int (fPast v1 v2 sa oa)), .val (.int (fPast v1 v2 v3 v4)), .val (.int (fPast sa oa v3 v4)), .val (.int v39), .val (.int v40), .val (.int v41), .val (.int ((v42 + v43) + v44)), .val (.int v45), .unset] rfl 299 rfl ?_
                        refine g_iload X38 at_299 rfl 301 rfl ?_
                        have k319_12 : ∀ (v46 : Int32), v46 = (if (fPast sa oa v1 v2) = 0 then (1 : Int32) else (if (fPast v1 v2 v3 v4) = 0 then (1 : Int32) else (if (fPast sa oa v3 v4) = 0 then (0 : Int32) else (1 : Int32)))) → Go k n0 (Q0 sa oa sb ob sc mo h0) 16 128 T38 319 #[.val (.long sa), .second, .val (.long oa), .second, .val (.long sb), .second, .val (.long ob), .second, .val (.long sc), .second, .val (.int mo), .val (.long sa), .second, .val (.long oa), .second, .val (.long v1), .second, .val (.long v2), .second, .val (.long v3), .second, .val (.long v4), .second, .val (.ref b5), .val (.ref b11), .val (.ref b19), .val (.int (fPast sa oa v1 v2)), .val (.int (fPast v1 v2 sa oa)), .val (.int (fPast v1 v2 v3 v4)), .val (.int (fPast sa oa v3 v4)), .val (.int v39), .val (.int v40), .val (.int v41), .val (.int ((v42 + v43) + v44)), .val (.int v45), .unset] [(.int v46)] := by
                          intro v46 hv46
                          refine g_istore X38 at_319 #[.val (.long sa), .second, .val (.long oa), .second, .val (.long sb), .second, .val (.long ob), .second, .val (.long sc), .second, .val (.int mo), .val (.long sa), .second, .val (.long oa), .second, .val (.long v1), .second, .val (.long v2), .second, .val (.long v3), .second, .val (.long v4), .second, .val (.ref b5), .val (.ref b11), .val (.ref b19), .val (.int (fPast sa oa v1 v2)), .val (.int (fPast v1 v2 sa oa)), .val (.int (fPast v1 v2 v3 v4)), .val (.int (fPast sa oa v3 v4)), .val (.int v39), .val (.int v40), .val (.int v41), .val (.int ((v42 + v43) + v44)), .val (.int v45), .val (.int v46)] rfl 321 rfl ?_
                          refine g_iload X38 at_321 rfl 323 rfl ?_
                          refine g_iload X38 at_323 rfl 325 rfl ?_
                          have k350_13 : ∀ (v47 : Int32), (Q0 sa oa sb ob sc mo h0) (some (.int (v47 &&& 1))) h27 → Go k n0 (Q0 sa oa sb ob sc mo h0) 16 128 T38 350 #[.val (.long sa), .second, .val (.long oa), .second, .val (.long sb), .second, .val (.long ob), .second, .val (.long sc), .second, .val (.int mo), .val (.long sa), .second, .val (.long oa), .second, .val (.long v1), .second, .val (.long v2), .second, .val (.long v3), .second, .val (.long v4), .second, .val (.ref b5), .val (.ref b11), .val (.ref b19), .val (.int (fPast sa oa v1 v2)), .val (.int (fPast v1 v2 sa oa)), .val (.int (fPast v1 v2 v3 v4)), .val (.int (fPast sa oa v3 v4)), .val (.int v39), .val (.int v40), .val (.int v41), .val (.int ((v42 + v43) + v44)), .val (.int v45), .val (.int v46)] [(.int v47)] := by
                            intro v47 hQ
                            exact g_retZ X38 at_350 (by decide) (by decide) hQ
                          refine g_icmpN X38 i_ne at_325 349 (by decide) (by decide) 328 rfl (fun h48 => ?_) (fun h48 => ?_)
                          · skip
                            refine g_iload X38 at_328 rfl 330 rfl ?_
                            refine g_iload X38 at_330 rfl 332 rfl ?_
                            refine g_icmpN X38 i_ne at_332 349 (by decide) (by decide) 335 rfl (fun h49 => ?_) (fun h49 => ?_)
                            · skip
                              refine g_iload X38 at_335 rfl 337 rfl ?_
                              refine g_if X38 z_eq at_337 349 (by decide) (by decide) 340 rfl (fun h50 => ?_) (fun h50 => ?_)
                              · skip
                                refine g_iconst X38 (0 : Int32) at_349 rfl 350 rfl ?_
                                exact k350_13 ((0 : Int32)) (absurd h50 (by rw [hv45, if_pos (by rw [hv42, hv43, hv44, hv41]; exact own_tri _ _ _ _)]; decide))
                              · skip
                                refine g_iload X38 at_340 rfl 342 rfl ?_
                                refine g_if X38 z_eq at_342 349 (by decide) (by decide) 345 rfl (fun h51 => ?_) (fun h51 => ?_)
                                · skip
                                  refine g_iconst X38 (0 : Int32) at_349 rfl 350 rfl ?_
                                  exact k350_13 ((0 : Int32)) (absurd h51 (by rw [hv46]; exact own_trans2))
                                · skip
                                  refine g_iconst X38 (1 : Int32) at_345 rfl 346 rfl ?_
                                  refine g_goto X38 at_346 350 (by decide) (by decide) ?_
                                  exact k350_13 ((1 : Int32)) own_one
                            · skip
                              refine g_iconst X38 (0 : Int32) at_349 rfl 350 rfl ?_
                              exact k350_13 ((0 : Int32)) (absurd (by rw [hv40]; exact own_ref2 _ _ _ _) h49)
                          · skip
                            refine g_iconst X38 (0 : Int32) at_349 rfl 350 rfl ?_
                            exact k350_13 ((0 : Int32)) (absurd (by rw [hv39]; exact own_ref _ _ _ _) h48)
                        refine g_if X38 z_eq at_301 314 (by decide) (by decide) 304 rfl (fun h52 => ?_) (fun h52 => ?_)
                        · skip
                          refine g_iconst X38 (1 : Int32) at_314 rfl 315 rfl ?_
                          refine g_goto X38 at_315 319 (by decide) (by decide) ?_
                          exact k319_12 ((1 : Int32)) (by first | (simp only [if_pos h52]; done) | (simp only [if_pos h52]; done) | (simp only [h52, if_true, if_false, true_or, or_true, true_and, and_true, not_true_eq_false, not_false_eq_true, false_or, or_false, false_and, and_false]; done) | (simp only [h52, hv1, hv2, hv3, hv4, hv39, hv40, hv41, hv42, hv43, hv44, hv45, if_true, if_false, true_or, or_true, true_and, and_true, not_true_eq_false, not_false_eq_true, false_or, or_false, false_and, and_false]; done))
                        · skip
                          refine g_iload X38 at_304 rfl 306 rfl ?_
                          refine g_if X38 z_eq at_306 314 (by decide) (by decide) 309 rfl (fun h53 => ?_) (fun h53 => ?_)
                          · skip
                            refine g_iconst X38 (1 : Int32) at_314 rfl 315 rfl ?_
                            refine g_goto X38 at_315 319 (by decide) (by decide) ?_
                            exact k319_12 ((1 : Int32)) (by first | (simp only [if_neg h52, if_pos h53]; done) | (simp only [if_neg h52, if_pos h53]; done) | (simp only [h52, h53, if_true, if_false, true_or, or_true, true_and, and_true, not_true_eq_false, not_false_eq_true, false_or, or_false, false_and, and_false]; done) | (simp only [h52, h53, hv1, hv2, hv3, hv4, hv39, hv40, hv41, hv42, hv43, hv44, hv45, if_true, if_false, true_or, or_true, true_and, and_true, not_true_eq_false, not_false_eq_true, false_or, or_false, false_and, and_false]; done))
                          · skip
                            refine g_iload X38 at_309 rfl 311 rfl ?_
                            refine g_if X38 z_eq at_311 318 (by decide) (by decide) 314 rfl (fun h54 => ?_) (fun h54 => ?_)
                            · skip
                              refine g_iconst X38 (0 : Int32) at_318 rfl 319 rfl ?_
                              exact k319_12 ((0 : Int32)) (by first | (simp only [if_neg h52, if_neg h53, if_pos h54]; done) | (simp only [if_neg h52, if_neg h53, if_pos h54]; done) | (simp only [h52, h53, h54, if_true, if_false, true_or, or_true, true_and, and_true, not_true_eq_false, not_false_eq_true, false_or, or_false, false_and, and_false]; done) | (simp only [h52, h53, h54, hv1, hv2, hv3, hv4, hv39, hv40, hv41, hv42, hv43, hv44, hv45, if_true, if_false, true_or, or_true, true_and, and_true, not_true_eq_false, not_false_eq_true, false_or, or_false, false_and, and_false]; done))
                            · skip
                              refine g_iconst X38 (1 : Int32) at_314 rfl 315 rfl ?_
                              refine g_goto X38 at_315 319 (by decide) (by decide) ?_
                              exact k319_12 ((1 : Int32)) (by first | (simp only [if_neg h52, if_neg h53, if_neg h54]; done) | (simp only [if_neg h52, if_neg h53, if_neg h54]; done) | (simp only [h52, h53, h54, if_true, if_false, true_or, or_true, true_and, and_true, not_true_eq_false, not_false_eq_true, false_or, or_false, false_and, and_false]; done) | (simp only [h52, h53, h54, hv1, hv2, hv3, hv4, hv39, hv40, hv41, hv42, hv43, hv44, hv45, if_true, if_false, true_or, or_true, true_and, and_true, not_true_eq_false, not_false_eq_true, false_or, or_false, false_and, and_false]; done))
                      refine g_icmpN X38 i_ne at_289 296 (by decide) (by decide) 292 rfl (fun h55 => ?_) (fun h55 => ?_)
                      · skip
                        refine g_iconst X38 (1 : Int32) at_292 rfl 293 rfl ?_
                        refine g_goto X38 at_293 297 (by decide) (by decide) ?_
                        exact k297_11 ((1 : Int32)) (by first | (simp only [if_pos h55]; done) | (simp only [if_pos h55]; done) | (simp only [h55, if_true, if_false, true_or, or_true, true_and, and_true, not_true_eq_false, not_false_eq_true, false_or, or_false, false_and, and_false]; done) | (simp only [h55, hv1, hv2, hv3, hv4, hv39, hv40, hv41, hv42, hv43, hv44, if_true, if_false, true_or, or_true, true_and, and_true, not_true_eq_false, not_false_eq_true, false_or, or_false, false_and, and_false]; done))
                      · skip
                        refine g_iconst X38 (0 : Int32) at_296 rfl 297 rfl ?_
                        exact k297_11 ((0 : Int32)) (by first | (simp only [if_neg h55]; done) | (simp only [if_neg h55]; done) | (simp only [h55, if_true, if_false, true_or, or_true, true_and, and_true, not_true_eq_false, not_false_eq_true, false_or, or_false, false_and, and_false]; done) | (simp only [h55, hv1, hv2, hv3, hv4, hv39, hv40, hv41, hv42, hv43, hv44, if_true, if_false, true_or, or_true, true_and, and_true, not_true_eq_false, not_false_eq_true, false_or, or_false, false_and, and_false]; done))
                    refine g_if X38 z_eq at_275 282 (by decide) (by decide) 278 rfl (fun h56 => ?_) (fun h56 => ?_)
                    · skip
                      refine g_iconst X38 (0 : Int32) at_282 rfl 283 rfl ?_
                      exact k283_10 ((0 : Int32)) (by first | (simp only [if_pos h56]; done) | (simp only [if_pos h56]; done) | (simp only [h56, if_true, if_false, true_or, or_true, true_and, and_true, not_true_eq_false, not_false_eq_true, false_or, or_false, false_and, and_false]; done) | (simp only [h56, hv1, hv2, hv3, hv4, hv39, hv40, hv41, hv42, hv43, if_true, if_false, true_or, or_true, true_and, and_true, not_true_eq_false, not_false_eq_true, false_or, or_false, false_and, and_false]; done))
                    · skip
                      refine g_iconst X38 (1 : Int32) at_278 rfl 279 rfl ?_
                      refine g_goto X38 at_279 283 (by decide) (by decide) ?_
                      exact k283_10 ((1 : Int32)) (by first | (simp only [if_neg h56]; done) | (simp only [if_neg h56]; done) | (simp only [h56, if_true, if_false, true_or, or_true, true_and, and_true, not_true_eq_false, not_false_eq_true, false_or, or_false, false_and, and_false]; done) | (simp only [h56, hv1, hv2, hv3, hv4, hv39, hv40, hv41, hv42, hv43, if_true, if_false, true_or, or_true, true_and, and_true, not_true_eq_false, not_false_eq_true, false_or, or_false, false_and, and_false]; done))
                  refine g_if X38 z_eq at_264 271 (by decide) (by decide) 267 rfl (fun h57 => ?_) (fun h57 => ?_)
                  · skip
                    refine g_iconst X38 (0 : Int32) at_271 rfl 272 rfl ?_
                    exact k272_9 ((0 : Int32)) (by first | (simp only [if_pos h57]; done) | (simp only [if_pos h57]; done) | (simp only [h57, if_true, if_false, true_or, or_true, true_and, and_true, not_true_eq_false, not_false_eq_true, false_or, or_false, false_and, and_false]; done) | (simp only [h57, hv1, hv2, hv3, hv4, hv39, hv40, hv41, hv42, if_true, if_false, true_or, or_true, true_and, and_true, not_true_eq_false, not_false_eq_true, false_or, or_false, false_and, and_false]; done))
                  · skip
                    refine g_iconst X38 (1 : Int32) at_267 rfl 268 rfl ?_
                    refine g_goto X38 at_268 272 (by decide) (by decide) ?_
                    exact k272_9 ((1 : Int32)) (by first | (simp only [if_neg h57]; done) | (simp only [if_neg h57]; done) | (simp only [h57, if_true, if_false, true_or, or_true, true_and, and_true, not_true_eq_false, not_false_eq_true, false_or, or_false, false_and, and_false]; done) | (simp only [h57, hv1, hv2, hv3, hv4, hv39, hv40, hv41, hv42, if_true, if_false, true_or, or_true, true_and, and_true, not_true_eq_false, not_false_eq_true, false_or, or_false, false_and, and_false]; done))
                refine g_if X38 z_eq at_254 261 (by decide) (by decide) 257 rfl (fun h58 => ?_) (fun h58 => ?_)
                · skip
                  refine g_iconst X38 (0 : Int32) at_261 rfl 262 rfl ?_
                  exact k262_8 ((0 : Int32)) (by first | (simp only [if_pos h58]; done) | (simp only [if_pos h58]; done) | (simp only [h58, if_true, if_false, true_or, or_true, true_and, and_true, not_true_eq_false, not_false_eq_true, false_or, or_false, false_and, and_false]; done) | (simp only [h58, hv1, hv2, hv3, hv4, hv39, hv40, hv41, if_true, if_false, true_or, or_true, true_and, and_true, not_true_eq_false, not_false_eq_true, false_or, or_false, false_and, and_false]; done))
                · skip
                  refine g_iconst X38 (1 : Int32) at_257 rfl 258 rfl ?_
                  refine g_goto X38 at_258 262 (by decide) (by decide) ?_
                  exact k262_8 ((1 : Int32)) (by first | (simp only [if_neg h58]; done) | (simp only [if_neg h58]; done) | (simp only [h58, if_true, if_false, true_or, or_true, true_and, and_true, not_true_eq_false, not_false_eq_true, false_or, or_false, false_and, and_false]; done) | (simp only [h58, hv1, hv2, hv3, hv4, hv39, hv40, hv41, if_true, if_false, true_or, or_true, true_and, and_true, not_true_eq_false, not_false_eq_true, false_or, or_false, false_and, and_false]; done))
              refine g_ifN X38 l_ne at_234 249 (by decide) (by decide) 237 rfl (fun h59 => ?_) (fun h59 => ?_)
              · skip
                refine g_lload X38 at_237 rfl 239 rfl ?_
                refine g_lload X38 at_239 rfl 241 rfl ?_
                refine g_lcmp X38 at_241 242 rfl ?_
                refine g_ifN X38 l_ne at_242 249 (by decide) (by decide) 245 rfl (fun h60 => ?_) (fun h60 => ?_)
                · skip
                  refine g_iconst X38 (1 : Int32) at_245 rfl 246 rfl ?_
                  refine g_goto X38 at_246 250 (by decide) (by decide) ?_
                  exact k250_7 ((1 : Int32)) (by first | (simp only [if_pos h59, if_pos h60]; done) | (simp only [if_pos h59, if_pos h60]; done) | (simp only [h59, h60, if_true, if_false, true_or, or_true, true_and, and_true, not_true_eq_false, not_false_eq_true, false_or, or_false, false_and, and_false]; done) | (simp only [h59, h60, hv1, hv2, hv3, hv4, hv39, hv40, if_true, if_false, true_or, or_true, true_and, and_true, not_true_eq_false, not_false_eq_true, false_or, or_false, false_and, and_false]; done))
                · skip
                  refine g_iconst X38 (0 : Int32) at_249 rfl 250 rfl ?_
                  exact k250_7 ((0 : Int32)) (by first | (simp only [if_pos h59, if_neg h60]; done) | (simp only [if_pos h59, if_neg h60]; done) | (simp only [h59, h60, if_true, if_false, true_or, or_true, true_and, and_true, not_true_eq_false, not_false_eq_true, false_or, or_false, false_and, and_false]; done) | (simp only [h59, h60, hv1, hv2, hv3, hv4, hv39, hv40, if_true, if_false, true_or, or_true, true_and, and_true, not_true_eq_false, not_false_eq_true, false_or, or_false, false_and, and_false]; done))
              · skip
                refine g_iconst X38 (0 : Int32) at_249 rfl 250 rfl ?_
                exact k250_7 ((0 : Int32)) (by first | (simp only [if_neg h59]; done) | (simp only [if_neg h59]; done) | (simp only [h59, if_true, if_false, true_or, or_true, true_and, and_true, not_true_eq_false, not_false_eq_true, false_or, or_false, false_and, and_false]; done) | (simp only [h59, hv1, hv2, hv3, hv4, hv39, hv40, if_true, if_false, true_or, or_true, true_and, and_true, not_true_eq_false, not_false_eq_true, false_or, or_false, false_and, and_false]; done))
            refine g_if X38 l_eq at_193 214 (by decide) (by decide) 196 rfl (fun h61 => ?_) (fun h61 => ?_)
            · skip
              refine g_lload X38 at_214 rfl 216 rfl ?_
              refine g_lload X38 at_216 rfl 218 rfl ?_
              refine g_lcmp X38 at_218 219 rfl ?_
              have k227_14 : ∀ (v62 : Int32), v62 = (if oa < v2 then (1 : Int32) else (0 : Int32)) → Go k n0 (Q0 sa oa sb ob sc mo h0) 16 128 T38 227 #[.val (.long sa), .second, .val (.long oa), .second, .val (.long sb), .second, .val (.long ob), .second, .val (.long sc), .second, .val (.int mo), .val (.long sa), .second, .val (.long oa), .second, .val (.long v1), .second, .val (.long v2), .second, .val (.long v3), .second, .val (.long v4), .second, .val (.ref b5), .val (.ref b11), .val (.ref b19), .val (.int (fPast sa oa v1 v2)), .val (.int (fPast v1 v2 sa oa)), .val (.int (fPast v1 v2 v3 v4)), .val (.int (fPast sa oa v3 v4)), .val (.int v39), .unset, .unset, .unset, .unset, .unset] [(.int v62)] := by
                intro v62 hv62
                refine g_istore X38 at_227 #[.val (.long sa), .second, .val (.long oa), .second, .val (.long sb), .second, .val (.long ob), .second, .val (.long sc), .second, .val (.int mo), .val (.long sa), .second, .val (.long oa), .second, .val (.long v1), .second, .val (.long v2), .second, .val (.long v3), .second, .val (.long v4), .second, .val (.ref b5), .val (.ref b11), .val (.ref b19), .val (.int (fPast sa oa v1 v2)), .val (.int (fPast v1 v2 sa oa)), .val (.int (fPast v1 v2 v3 v4)), .val (.int (fPast sa oa v3 v4)), .val (.int v39), .val (.int v62), .unset, .unset, .unset, .unset] rfl 229 rfl ?_
                exact k229_6 (v62) (by first | (simp only [if_pos h61]; done) | (simp only [hv62, if_pos h61]; done) | (simp only [h61, if_true, if_false, true_or, or_true, true_and, and_true, not_true_eq_false, not_false_eq_true, false_or, or_false, false_and, and_false]; done) | (simp only [h61, hv1, hv2, hv3, hv4, hv39, hv62, if_true, if_false, true_or, or_true, true_and, and_true, not_true_eq_false, not_false_eq_true, false_or, or_false, false_and, and_false]; done))
              refine g_ifN X38 l_le at_219 226 (by decide) (by decide) 222 rfl (fun h63 => ?_) (fun h63 => ?_)
              · skip
                refine g_iconst X38 (1 : Int32) at_222 rfl 223 rfl ?_
                refine g_goto X38 at_223 227 (by decide) (by decide) ?_
                exact k227_14 ((1 : Int32)) (by first | (simp only [if_pos h61, if_pos h63]; done) | (simp only [if_pos h61, if_pos h63]; done) | (simp only [h61, h63, if_true, if_false, true_or, or_true, true_and, and_true, not_true_eq_false, not_false_eq_true, false_or, or_false, false_and, and_false]; done) | (simp only [h61, h63, hv1, hv2, hv3, hv4, hv39, if_true, if_false, true_or, or_true, true_and, and_true, not_true_eq_false, not_false_eq_true, false_or, or_false, false_and, and_false]; done))
              · skip
                refine g_iconst X38 (0 : Int32) at_226 rfl 227 rfl ?_
                exact k227_14 ((0 : Int32)) (by first | (simp only [if_pos h61, if_neg h63]; done) | (simp only [if_pos h61, if_neg h63]; done) | (simp only [h61, h63, if_true, if_false, true_or, or_true, true_and, and_true, not_true_eq_false, not_false_eq_true, false_or, or_false, false_and, and_false]; done) | (simp only [h61, h63, hv1, hv2, hv3, hv4, hv39, if_true, if_false, true_or, or_true, true_and, and_true, not_true_eq_false, not_false_eq_true, false_or, or_false, false_and, and_false]; done))
            · skip
              refine g_lload X38 at_196 rfl 198 rfl ?_
              refine g_lload X38 at_198 rfl 200 rfl ?_
              refine g_lcmp X38 at_200 201 rfl ?_
              have k209_15 : ∀ (v64 : Int32), v64 = (if sa < v1 then (1 : Int32) else (0 : Int32)) → Go k n0 (Q0 sa oa sb ob sc mo h0) 16 128 T38 209 #[.val (.long sa), .second, .val (.long oa), .second, .val (.long sb), .second, .val (.long ob), .second, .val (.long sc), .second, .val (.int mo), .val (.long sa), .second, .val (.long oa), .second, .val (.long v1), .second, .val (.long v2), .second, .val (.long v3), .second, .val (.long v4), .second, .val (.ref b5), .val (.ref b11), .val (.ref b19), .val (.int (fPast sa oa v1 v2)), .val (.int (fPast v1 v2 sa oa)), .val (.int (fPast v1 v2 v3 v4)), .val (.int (fPast sa oa v3 v4)), .val (.int v39), .unset, .unset, .unset, .unset, .unset] [(.int v64)] := by
                intro v64 hv64
                refine g_istore X38 at_209 #[.val (.long sa), .second, .val (.long oa), .second, .val (.long sb), .second, .val (.long ob), .second, .val (.long sc), .second, .val (.int mo), .val (.long sa), .second, .val (.long oa), .second, .val (.long v1), .second, .val (.long v2), .second, .val (.long v3), .second, .val (.long v4), .second, .val (.ref b5), .val (.ref b11), .val (.ref b19), .val (.int (fPast sa oa v1 v2)), .val (.int (fPast v1 v2 sa oa)), .val (.int (fPast v1 v2 v3 v4)), .val (.int (fPast sa oa v3 v4)), .val (.int v39), .val (.int v64), .unset, .unset, .unset, .unset] rfl 211 rfl ?_
                refine g_goto X38 at_211 229 (by decide) (by decide) ?_
                exact k229_6 (v64) (by first | (simp only [if_neg h61]; done) | (simp only [hv64, if_neg h61]; done) | (simp only [h61, if_true, if_false, true_or, or_true, true_and, and_true, not_true_eq_false, not_false_eq_true, false_or, or_false, false_and, and_false]; done) | (simp only [h61, hv1, hv2, hv3, hv4, hv39, hv64, if_true, if_false, true_or, or_true, true_and, and_true, not_true_eq_false, not_false_eq_true, false_or, or_false, false_and, and_false]; done))
              refine g_ifN X38 l_le at_201 208 (by decide) (by decide) 204 rfl (fun h65 => ?_) (fun h65 => ?_)
              · skip
                refine g_iconst X38 (1 : Int32) at_204 rfl 205 rfl ?_
                refine g_goto X38 at_205 209 (by decide) (by decide) ?_
                exact k209_15 ((1 : Int32)) (by first | (simp only [if_neg h61, if_pos h65]; done) | (simp only [if_neg h61, if_pos h65]; done) | (simp only [h61, h65, if_true, if_false, true_or, or_true, true_and, and_true, not_true_eq_false, not_false_eq_true, false_or, or_false, false_and, and_false]; done) | (simp only [h61, h65, hv1, hv2, hv3, hv4, hv39, if_true, if_false, true_or, or_true, true_and, and_true, not_true_eq_false, not_false_eq_true, false_or, or_false, false_and, and_false]; done))
              · skip
                refine g_iconst X38 (0 : Int32) at_208 rfl 209 rfl ?_
                exact k209_15 ((0 : Int32)) (by first | (simp only [if_neg h61, if_neg h65]; done) | (simp only [if_neg h61, if_neg h65]; done) | (simp only [h61, h65, if_true, if_false, true_or, or_true, true_and, and_true, not_true_eq_false, not_false_eq_true, false_or, or_false, false_and, and_false]; done) | (simp only [h61, h65, hv1, hv2, hv3, hv4, hv39, if_true, if_false, true_or, or_true, true_and, and_true, not_true_eq_false, not_false_eq_true, false_or, or_false, false_and, and_false]; done))
          refine g_if X38 l_eq at_152 173 (by decide) (by decide) 155 rfl (fun h66 => ?_) (fun h66 => ?_)
          · skip
            refine g_lload X38 at_173 rfl 175 rfl ?_
            refine g_lload X38 at_175 rfl 177 rfl ?_
            refine g_lcmp X38 at_177 178 rfl ?_
            have k186_16 : ∀ (v67 : Int32), v67 = (if v2 < oa then (1 : Int32) else (0 : Int32)) → Go k n0 (Q0 sa oa sb ob sc mo h0) 16 128 T38 186 #[.val (.long sa), .second, .val (.long oa), .second, .val (.long sb), .second, .val (.long ob), .second, .val (.long sc), .second, .val (.int mo), .val (.long sa), .second, .val (.long oa), .second, .val (.long v1), .second, .val (.long v2), .second, .val (.long v3), .second, .val (.long v4), .second, .val (.ref b5), .val (.ref b11), .val (.ref b19), .val (.int (fPast sa oa v1 v2)), .val (.int (fPast v1 v2 sa oa)), .val (.int (fPast v1 v2 v3 v4)), .val (.int (fPast sa oa v3 v4)), .unset, .unset, .unset, .unset, .unset, .unset] [(.int v67)] := by
              intro v67 hv67
              refine g_istore X38 at_186 #[.val (.long sa), .second, .val (.long oa), .second, .val (.long sb), .second, .val (.long ob), .second, .val (.long sc), .second, .val (.int mo), .val (.long sa), .second, .val (.long oa), .second, .val (.long v1), .second, .val (.long v2), .second, .val (.long v3), .second, .val (.long v4), .second, .val (.ref b5), .val (.ref b11), .val (.ref b19), .val (.int (fPast sa oa v1 v2)), .val (.int (fPast v1 v2 sa oa)), .val (.int (fPast v1 v2 v3 v4)), .val (.int (fPast sa oa v3 v4)), .val (.int v67), .unset, .unset, .unset, .unset, .unset] rfl 188 rfl ?_
              exact k188_5 (v67) (by first | (simp only [if_pos h66]; done) | (simp only [hv67, if_pos h66]; done) | (simp only [h66, if_true, if_false, true_or, or_true, true_and, and_true, not_true_eq_false, not_false_eq_true, false_or, or_false, false_and, and_false]; done) | (simp only [h66, hv1, hv2, hv3, hv4, hv67, if_true, if_false, true_or, or_true, true_and, and_true, not_true_eq_false, not_false_eq_true, false_or, or_false, false_and, and_false]; done))
            refine g_ifN X38 l_le at_178 185 (by decide) (by decide) 181 rfl (fun h68 => ?_) (fun h68 => ?_)
            · skip
              refine g_iconst X38 (1 : Int32) at_181 rfl 182 rfl ?_
              refine g_goto X38 at_182 186 (by decide) (by decide) ?_
              exact k186_16 ((1 : Int32)) (by first | (simp only [if_pos h66, if_pos h68]; done) | (simp only [if_pos h66, if_pos h68]; done) | (simp only [h66, h68, if_true, if_false, true_or, or_true, true_and, and_true, not_true_eq_false, not_false_eq_true, false_or, or_false, false_and, and_false]; done) | (simp only [h66, h68, hv1, hv2, hv3, hv4, if_true, if_false, true_or, or_true, true_and, and_true, not_true_eq_false, not_false_eq_true, false_or, or_false, false_and, and_false]; done))
            · skip
              refine g_iconst X38 (0 : Int32) at_185 rfl 186 rfl ?_
              exact k186_16 ((0 : Int32)) (by first | (simp only [if_pos h66, if_neg h68]; done) | (simp only [if_pos h66, if_neg h68]; done) | (simp only [h66, h68, if_true, if_false, true_or, or_true, true_and, and_true, not_true_eq_false, not_false_eq_true, false_or, or_false, false_and, and_false]; done) | (simp only [h66, h68, hv1, hv2, hv3, hv4, if_true, if_false, true_or, or_true, true_and, and_true, not_true_eq_false, not_false_eq_true, false_or, or_false, false_and, and_false]; done))
          · skip
            refine g_lload X38 at_155 rfl 157 rfl ?_
            refine g_lload X38 at_157 rfl 159 rfl ?_
            refine g_lcmp X38 at_159 160 rfl ?_
            have k168_17 : ∀ (v69 : Int32), v69 = (if v1 < sa then (1 : Int32) else (0 : Int32)) → Go k n0 (Q0 sa oa sb ob sc mo h0) 16 128 T38 168 #[.val (.long sa), .second, .val (.long oa), .second, .val (.long sb), .second, .val (.long ob), .second, .val (.long sc), .second, .val (.int mo), .val (.long sa), .second, .val (.long oa), .second, .val (.long v1), .second, .val (.long v2), .second, .val (.long v3), .second, .val (.long v4), .second, .val (.ref b5), .val (.ref b11), .val (.ref b19), .val (.int (fPast sa oa v1 v2)), .val (.int (fPast v1 v2 sa oa)), .val (.int (fPast v1 v2 v3 v4)), .val (.int (fPast sa oa v3 v4)), .unset, .unset, .unset, .unset, .unset, .unset] [(.int v69)] := by
              intro v69 hv69
              refine g_istore X38 at_168 #[.val (.long sa), .second, .val (.long oa), .second, .val (.long sb), .second, .val (.long ob), .second, .val (.long sc), .second, .val (.int mo), .val (.long sa), .second, .val (.long oa), .second, .val (.long v1), .second, .val (.long v2), .second, .val (.long v3), .second, .val (.long v4), .second, .val (.ref b5), .val (.ref b11), .val (.ref b19), .val (.int (fPast sa oa v1 v2)), .val (.int (fPast v1 v2 sa oa)), .val (.int (fPast v1 v2 v3 v4)), .val (.int (fPast sa oa v3 v4)), .val (.int v69), .unset, .unset, .unset, .unset, .unset] rfl 170 rfl ?_
              refine g_goto X38 at_170 188 (by decide) (by decide) ?_
              exact k188_5 (v69) (by first | (simp only [if_neg h66]; done) | (simp only [hv69, if_neg h66]; done) | (simp only [h66, if_true, if_false, true_or, or_true, true_and, and_true, not_true_eq_false, not_false_eq_true, false_or, or_false, false_and, and_false]; done) | (simp only [h66, hv1, hv2, hv3, hv4, hv69, if_true, if_false, true_or, or_true, true_and, and_true, not_true_eq_false, not_false_eq_true, false_or, or_false, false_and, and_false]; done))
            refine g_ifN X38 l_le at_160 167 (by decide) (by decide) 163 rfl (fun h70 => ?_) (fun h70 => ?_)
            · skip
              refine g_iconst X38 (1 : Int32) at_163 rfl 164 rfl ?_
              refine g_goto X38 at_164 168 (by decide) (by decide) ?_
              exact k168_17 ((1 : Int32)) (by first | (simp only [if_neg h66, if_pos h70]; done) | (simp only [if_neg h66, if_pos h70]; done) | (simp only [h66, h70, if_true, if_false, true_or, or_true, true_and, and_true, not_true_eq_false, not_false_eq_true, false_or, or_false, false_and, and_false]; done) | (simp only [h66, h70, hv1, hv2, hv3, hv4, if_true, if_false, true_or, or_true, true_and, and_true, not_true_eq_false, not_false_eq_true, false_or, or_false, false_and, and_false]; done))
            · skip
              refine g_iconst X38 (0 : Int32) at_167 rfl 168 rfl ?_
              exact k168_17 ((0 : Int32)) (by first | (simp only [if_neg h66, if_neg h70]; done) | (simp only [if_neg h66, if_neg h70]; done) | (simp only [h66, h70, if_true, if_false, true_or, or_true, true_and, and_true, not_true_eq_false, not_false_eq_true, false_or, or_false, false_and, and_false]; done) | (simp only [h66, h70, hv1, hv2, hv3, hv4, if_true, if_false, true_or, or_true, true_and, and_true, not_true_eq_false, not_false_eq_true, false_or, or_false, false_and, and_false]; done))
        refine g_if X0 z_eq at_57 65 (by decide) (by decide) 60 rfl (fun h71 => ?_) (fun h71 => ?_)
        · skip
          refine g_lload X0 at_65 rfl 67 rfl ?_
          refine g_lload X0 at_67 rfl 69 rfl ?_
          refine g_ladd X0 at_69 70 rfl ?_
          exact k70_4 ((ob + sc)) (by first | (simp only [if_pos h71]; done) | (simp only [if_pos h71]; done) | (simp only [h71, if_true, if_false, true_or, or_true, true_and, and_true, not_true_eq_false, not_false_eq_true, false_or, or_false, false_and, and_false]; done) | (simp only [h71, hv1, hv2, hv3, if_true, if_false, true_or, or_true, true_and, and_true, not_true_eq_false, not_false_eq_true, false_or, or_false, false_and, and_false]; done))
        · skip
          refine g_lload X0 at_60 rfl 62 rfl ?_
          refine g_goto X0 at_62 70 (by decide) (by decide) ?_
          exact k70_4 (v2) (by first | (simp only [if_neg h71]; done) | (simp only [if_neg h71]; done) | (simp only [h71, if_true, if_false, true_or, or_true, true_and, and_true, not_true_eq_false, not_false_eq_true, false_or, or_false, false_and, and_false]; done) | (simp only [h71, hv1, hv2, hv3, if_true, if_false, true_or, or_true, true_and, and_true, not_true_eq_false, not_false_eq_true, false_or, or_false, false_and, and_false]; done))
      refine g_if X0 z_eq at_40 48 (by decide) (by decide) 43 rfl (fun h72 => ?_) (fun h72 => ?_)
      · skip
        refine g_lload X0 at_48 rfl 50 rfl ?_
        exact k50_3 (sc) (by first | (simp only [if_pos h72]; done) | (simp only [if_pos h72]; done) | (simp only [h72, if_true, if_false, true_or, or_true, true_and, and_true, not_true_eq_false, not_false_eq_true, false_or, or_false, false_and, and_false]; done) | (simp only [h72, hv1, hv2, if_true, if_false, true_or, or_true, true_and, and_true, not_true_eq_false, not_false_eq_true, false_or, or_false, false_and, and_false]; done))
      · skip
        refine g_lload X0 at_43 rfl 45 rfl ?_
        refine g_goto X0 at_45 50 (by decide) (by decide) ?_
        exact k50_3 (v1) (by first | (simp only [if_neg h72]; done) | (simp only [if_neg h72]; done) | (simp only [h72, if_true, if_false, true_or, or_true, true_and, and_true, not_true_eq_false, not_false_eq_true, false_or, or_false, false_and, and_false]; done) | (simp only [h72, hv1, hv2, if_true, if_false, true_or, or_true, true_and, and_true, not_true_eq_false, not_false_eq_true, false_or, or_false, false_and, and_false]; done))
    refine g_if X0 z_eq at_25 32 (by decide) (by decide) 28 rfl (fun h73 => ?_) (fun h73 => ?_)
    · skip
      refine g_lload X0 at_32 rfl 34 rfl ?_
      exact k34_2 (ob) (by first | (simp only [if_pos h73]; done) | (simp only [if_pos h73]; done) | (simp only [h73, if_true, if_false, true_or, or_true, true_and, and_true, not_true_eq_false, not_false_eq_true, false_or, or_false, false_and, and_false]; done) | (simp only [h73, hv1, if_true, if_false, true_or, or_true, true_and, and_true, not_true_eq_false, not_false_eq_true, false_or, or_false, false_and, and_false]; done))
    · skip
      refine g_lloadN X0 at_28 rfl 29 rfl ?_
      refine g_goto X0 at_29 34 (by decide) (by decide) ?_
      exact k34_2 (oa) (by first | (simp only [if_neg h73]; done) | (simp only [if_neg h73]; done) | (simp only [h73, if_true, if_false, true_or, or_true, true_and, and_true, not_true_eq_false, not_false_eq_true, false_or, or_false, false_and, and_false]; done) | (simp only [h73, hv1, if_true, if_false, true_or, or_true, true_and, and_true, not_true_eq_false, not_false_eq_true, false_or, or_false, false_and, and_false]; done))
  refine g_if X0 z_eq at_10 17 (by decide) (by decide) 13 rfl (fun h74 => ?_) (fun h74 => ?_)
  · skip
    refine g_lload X0 at_17 rfl 19 rfl ?_
    exact k19_1 (sb) (by first | (simp only [if_pos h74]; done) | (simp only [if_pos h74]; done) | (simp only [h74, if_true, if_false, true_or, or_true, true_and, and_true, not_true_eq_false, not_false_eq_true, false_or, or_false, false_and, and_false]; done) | (simp only [h74, if_true, if_false, true_or, or_true, true_and, and_true, not_true_eq_false, not_false_eq_true, false_or, or_false, false_and, and_false]; done))
  · skip
    refine g_lloadN X0 at_13 rfl 14 rfl ?_
    refine g_goto X0 at_14 19 (by decide) (by decide) ?_
    exact k19_1 (sa) (by first | (simp only [if_neg h74]; done) | (simp only [if_neg h74]; done) | (simp only [h74, if_true, if_false, true_or, or_true, true_and, and_true, not_true_eq_false, not_false_eq_true, false_or, or_false, false_and, and_false]; done) | (simp only [h74, if_true, if_false, true_or, or_true, true_and, and_true, not_true_eq_false, not_false_eq_true, false_or, or_false, false_and, and_false]; done))
set_option maxRecDepth 65536 in
set_option maxHeartbeats 40000000 in
theorem comes_1 {Post : Tables → Env → Array Value → State → Outcome → State → Prop} (hpost : ∀ tb e args s v u, (limb_1_1.after args s (.returned v) u = true ∧ limb_1_2.after args s (.returned v) u = true ∧ True) → FrameEnd s (.returned v) u (Jvm.fieldLocs frame_1_writes args s ++ Jvm.arrayLocs frame_1_arrays args s ++ Jvm.staticLocs frame_1_statics s) 16 128 → Post tb e args s (.returned v) u) :
    ArmFor flags0 classFile x code maxLocals ret World_1 tables_1 room_1 Calls_1 rest_1 Pre_1 Post := by
  intro l hfl _ _ p e ha hc hk s m args below hf hA hF happ hP
  obtain ⟨hcalls, hrest, hpre⟩ := hP
  obtain ⟨-, -, -, hnamed, -, -, -, hat⟩ := (Spec.applies_iff hf).mp happ
  obtain ⟨hg, hn⟩ := and_e (Cond.before_iff.mp (show (Jvm.Cond.and given_1 narrow_1).before args s = true from hpre))
  obtain ⟨hcount, g0⟩ := and_e hg
  obtain ⟨q0, g1⟩ := and_e g0
  obtain ⟨q1, g2⟩ := and_e g1
  obtain ⟨q2, g3⟩ := and_e g2
  obtain ⟨q3, g4⟩ := and_e g3
  obtain ⟨q4, g5⟩ := and_e g4
  have q5 := g5
  obtain ⟨w0, w1, w2, w3, w4, w5, rfl⟩ : ∃ w0 w1 w2 w3 w4 w5 : Value, args = #[w0, w1, w2, w3, w4, w5] := by
    have hs : args.size = 6 := by simpa [Cond.value, given_1] using hcount
    obtain ⟨L⟩ := args
    match L, hs with
    | [w0, w1, w2, w3, w4, w5], _ => exact ⟨w0, w1, w2, w3, w4, w5, rfl⟩
  have hw := fun d (hd : d ∈ tables_1) => atoms_spec (ws := Jvm.Cond.code x code maxLocals ret :: tables_1) hat d (List.mem_cons_of_mem _ hd)
  have hfit : Fit s := fun {y c} hc i hi => by
    obtain ⟨ha, rfl⟩ := Array.getElem?_eq_some_iff.mp hc
    have q := List.all_eq_true.mp ((Array.all_eq_true_iff_forall_mem.mp hF) _ (Array.getElem_mem ha)) i (List.mem_range.mpr hi)
    simpa [Array.getElem?_eq_getElem hi] using q
  obtain ⟨i0, e0⟩ := isL_v q0
  obtain rfl : w0 = (.long i0) := Option.some.inj e0
  obtain ⟨i1, e1⟩ := isL_v q1
  obtain rfl : w1 = (.long i1) := Option.some.inj e1
  obtain ⟨i2, e2⟩ := isL_v q2
  obtain rfl : w2 = (.long i2) := Option.some.inj e2
  obtain ⟨i3, e3⟩ := isL_v q3
  obtain rfl : w3 = (.long i3) := Option.some.inj e3
  obtain ⟨i4, e4⟩ := isL_v q4
  obtain rfl : w4 = (.long i4) := Option.some.inj e4
  obtain ⟨i5, e5⟩ := is_v q5
  obtain rfl : w5 = (.int i5) := Option.some.inj e5
  obtain ⟨n, o, h1, h2, h3, v, L, rfl, ⟨N, hQ⟩, hq⟩ := rm0 (l := l) hw s.heap.size i0 i1 i2 i3 i4 i5 s.heap (Nat.le_refl _) p e ha hc hk s m _ below hf ((Spec.applies_iff_loose hf).mp happ).1 ⟨rfl, State.Warmed39.refl s, rfl⟩ trivial
  obtain rfl : v = some (.int 1) := hQ
  refine ⟨n, _, h1, h2, h3, hpost _ _ _ _ _ _ ⟨Cond.after_iff.mpr rfl, Cond.after_iff.mpr (eq_i res_at (Term.int_eval (1)) rfl), trivial⟩ ⟨hq.1, hq.2.1, (hq.2.2.sift fun y hy => Or.inr (N y hy)).mono (by decide) (by decide)⟩⟩
theorem main_1_1 : Claimed_1_1 := comes_1 fun _ _ _ _ _ _ h hF => ⟨h.1, hF⟩
theorem main_1_2 : Claimed_1_2 := comes_1 fun _ _ _ _ _ _ h hF => ⟨h.2.1, hF⟩
end Jvm.Pilot.@@N@@
namespace Jvm.Pilot.@@N@@
open Jvm Jvm.ClassFile Sem Op Lib Jvm.Free Jvm.Stand Jvm.Pilot.@@N@@.Jvm.D
/-! MADE BY PROGRAM (witnessworld.py) out of the Statement's table words and the real class files: 9 classes; the members and pool entries that the words name. The judged class is class 1, her method 1. -/
namespace start1
open Jvm.ClassFile
def u (s : String) : CpInfo := .utf8 (stringToUtf16 s)
/-- a pool by its gaps: so many unusable entries, then the entry; so many at the end -/
def gap : Nat → List CpInfo → List CpInfo
  | 0, r => r
  | n + 1, r => .unusable :: gap n r
def poolList (es : List (Nat × CpInfo)) (last : Nat) : List CpInfo := es.foldr (fun e r => gap e.1 (e.2 :: r)) (gap last [])
def pool (es : List (Nat × CpInfo)) (last : Nat) : Array CpInfo := ⟨poolList es last⟩
def fileOf (pool : Array CpInfo) (this : Nat) (attrs : Array Attribute := #[]) (ms : Array MethodInfo := #[]) (fl : Nat := 33) (sup : Nat := 0) (ifs : Array Nat := #[]) (fds : Array FieldInfo := #[]) : ClassFile where
  minorVersion := 0
  majorVersion := 65
  constantPool := pool
  accessFlags := fl
  thisClass := this
  superClass := sup
  interfaces := ifs
  fields := fds
  methods := ms
  attributes := attrs
def plain (name : String) (sup : Option ClassId) : Class where
  name := name
  kind := .ordinary
  loader := none
  accessFlags := 33
  super := sup
  interfaces := #[]
  cf := none
  fields := #[]
  methods := #[]
  instanceTypes := #[]
  staticTypes := #[]
  resolved := #[]
  callSites := []
  init := .initialized
  statics := none
  mirror := none

def pool0 : Array CpInfo := pool [(5, u "<init>"), (0, u "()V"), (1, .class_ 10), (1, u "java/lang/Object")] 113

def k0c0 : Code := { maxStack := 0, maxLocals := 1, code := object_method_1_code, exceptionTable := #[], attributes := #[] }
def k0m0 : Method := { name := "<init>", desc := "()V", sig := { parameters := [], returnType := none }, accessFlags := 1, code := some k0c0 }
/-- java/lang/Object -/
def k0 : Class := { plain "java/lang/Object" none with
  accessFlags := 33
  interfaces := #[]
  cf := some (fileOf pool0 8 #[] #[{ accessFlags := 1, nameIndex := 5, descriptorIndex := 6, attributes := #[] }] 33 0 #[] #[])
  fields := #[]
  methods := #[k0m0]
  instanceTypes := #[]
  staticTypes := #[]
  resolved := Array.replicate 124 none
  statics := none }

def pool1 : Array CpInfo := pool [(2, .class_ 4), (1, u "java/lang/Object"), (0, u "<init>"), (0, u "()V"), (0, .class_ 8), (0, u "com/example/settle/settle/io/PublishedEnd"), (0, .methodref 7 10), (0, .nameAndType 5 11), (0, u "(JJ)V"), (0, .methodref 7 13), (0, .nameAndType 14 15), (0, u "isPast"), (0, u "(Lcom/example/settle/settle/io/PublishedEnd;)Z"), (0, .class_ 17), (0, u "com/example/settle/settle/io/PublishedEndIsPastPinLaw"), (2, u "law"), (0, u "(JJJJJI)Z")] 3

def k1m0 : Method := { name := "<init>", desc := "()V", sig := { parameters := [], returnType := none }, accessFlags := 1, code := none }
def k1c1 : Code := { maxStack := 6, maxLocals := 36, code := code, exceptionTable := #[], attributes := #[] }
def k1m1 : Method := { name := "law", desc := "(JJJJJI)Z", sig := { parameters := [.long, .long, .long, .long, .long, .int], returnType := some .boolean }, accessFlags := 9, code := some k1c1 }
/-- com/example/settle/settle/io/PublishedEndIsPastPinLaw -/
def k1 : Class := { plain "com/example/settle/settle/io/PublishedEndIsPastPinLaw" (some 0) with
  accessFlags := 49
  interfaces := #[]
  cf := some (fileOf pool1 16 #[] #[{ accessFlags := 1, nameIndex := 5, descriptorIndex := 6, attributes := #[] }, { accessFlags := 9, nameIndex := 20, descriptorIndex := 21, attributes := #[] }] 49 2 #[] #[])
  fields := #[]
  methods := #[k1m0, k1m1]
  instanceTypes := #[]
  staticTypes := #[]
  resolved := Array.replicate 25 none
  statics := none }

def pool2 : Array CpInfo := pool [(1, .methodref 2 3), (0, .class_ 4), (0, .nameAndType 5 6), (0, u "java/lang/Object"), (0, u "<init>"), (0, u "()V"), (0, .fieldref 8 9), (0, .class_ 10), (0, .nameAndType 11 12), (0, u "com/example/settle/settle/io/PublishedEnd"), (0, u "segment"), (0, u "J"), (0, .fieldref 8 14), (0, .nameAndType 15 12), (0, u "offset"), (4, u "(JJ)V"), (3, u "isPast"), (0, u "(Lcom/example/settle/settle/io/PublishedEnd;)Z")] 5

def k2c0 : Code := { maxStack := 3, maxLocals := 5, code := prog_14_method_1_code, exceptionTable := #[], attributes := #[] }
def k2m0 : Method := { name := "<init>", desc := "(JJ)V", sig := { parameters := [.long, .long], returnType := none }, accessFlags := 1, code := some k2c0 }
def k2c1 : Code := { maxStack := 4, maxLocals := 2, code := prog_14_method_4_code, exceptionTable := #[], attributes := #[] }
def k2m1 : Method := { name := "isPast", desc := "(Lcom/example/settle/settle/io/PublishedEnd;)Z", sig := { parameters := [(.object "com/example/settle/settle/io/PublishedEnd")], returnType := some .boolean }, accessFlags := 1, code := some k2c1 }
/-- com/example/settle/settle/io/PublishedEnd -/
def k2 : Class := { plain "com/example/settle/settle/io/PublishedEnd" (some 0) with
  accessFlags := 49
  interfaces := #[]
  cf := some (fileOf pool2 8 #[] #[{ accessFlags := 1, nameIndex := 5, descriptorIndex := 20, attributes := #[] }, { accessFlags := 1, nameIndex := 24, descriptorIndex := 25, attributes := #[] }] 49 2 #[] #[{ accessFlags := 18, nameIndex := 11, descriptorIndex := 12, attributes := #[] }, { accessFlags := 18, nameIndex := 15, descriptorIndex := 12, attributes := #[] }])
  fields := #[{ name := "segment", type := .long, accessFlags := 18, slot := 0, constantValue := 0 }, { name := "offset", type := .long, accessFlags := 18, slot := 1, constantValue := 0 }]
  methods := #[k2m0, k2m1]
  instanceTypes := #[.long, .long]
  staticTypes := #[]
  resolved := Array.replicate 31 none
  statics := none }

def pool3 : Array CpInfo := pool [(1, u "java/lang/Cloneable"), (0, .class_ 1), (0, u "java/lang/Object"), (0, .class_ 3)] 3

/-- java/lang/Cloneable -/
def k3 : Class := { plain "java/lang/Cloneable" (some 0) with
  accessFlags := 1537
  interfaces := #[]
  cf := some (fileOf pool3 2 #[] #[] 1537 4 #[] #[])
  fields := #[]
  methods := #[]
  instanceTypes := #[]
  staticTypes := #[]
  resolved := Array.replicate 8 none
  statics := none }

def pool4 : Array CpInfo := pool [(1, u "java/io/Serializable"), (0, .class_ 1), (0, u "java/lang/Object"), (0, .class_ 3)] 3

/-- java/io/Serializable -/
def k4 : Class := { plain "java/io/Serializable" (some 0) with
  accessFlags := 1537
  interfaces := #[]
  cf := some (fileOf pool4 2 #[] #[] 1537 4 #[] #[])
  fields := #[]
  methods := #[]
  instanceTypes := #[]
  staticTypes := #[]
  resolved := Array.replicate 8 none
  statics := none }

/-- the primitive byte -/
def k5 : Class := { plain "byte" none with kind := .primitive 'B', accessFlags := 0x411 }
/-- [B -/
def k6 : Class := { plain "[B" (some 0) with kind := .array 5 .byte, interfaces := #[3, 4], accessFlags := 1041 }

/-- the primitive int -/
def k7 : Class := { plain "int" none with kind := .primitive 'I', accessFlags := 0x411 }
/-- [I -/
def k8 : Class := { plain "[I" (some 0) with kind := .array 7 .int, interfaces := #[3, 4], accessFlags := 1041 }

def heap : Heap := #[]
def classes : Array Class := #[k0, k1, k2, k3, k4, k5, k6, k7, k8]
def interned : List (Array UInt16 × Addr) := []
def slotsUsed : Nat := 0
def theMethod : MethodId := ⟨1, 1⟩
def args0 : Array Value := #[.long 5, .long 6, .long 7, .long 8, .long 9, .int 3]
def aboutOver (below : List Frame) : State where
  vm := { classes := classes, interned := interned.toArray }
  heap := heap
  slotsUsed := slotsUsed
  threads := #[{ frames := .invoking theMethod args0 :: below }]
def below0 : List Frame := [.native { method := ⟨0, 0⟩, args := #[] }]
def about1 : State := aboutOver below0
def p0 : Program := .bare "" "" ""
def e0 : Env := launch0.env 0 0 0
theorem w_frames : about1.frames = Frame.invoking theMethod args0 :: below0 := rfl
set_option maxRecDepth 65536 in
theorem w_args : argsFit about1.vm theMethod args0 = true := by decide +kernel
set_option maxRecDepth 65536 in
theorem w_heap : heapFits about1 = true := by decide +kernel
set_option maxRecDepth 65536 in
theorem w_runnable : about1.curStatus? = some .runnable := by decide +kernel
set_option maxRecDepth 65536 in
theorem w_alone : about1.alone = true := by decide +kernel
set_option maxRecDepth 65536 in
theorem w_named : about1.methodNamed? x = some theMethod := by decide +kernel
set_option maxRecDepth 65536 in
theorem w_hears : about1.hears theMethod below0 = true := by decide +kernel
set_option maxRecDepth 65536 in
theorem w_ripe : about1.ripe theMethod args0 below0 = true := by decide +kernel
theorem w_running : about1.status = .running := rfl
set_option maxRecDepth 65536 in
theorem w_room : about1.hasRoom e0.platform room_1 = true :=
  launch0.hasRoom_least _ room_1 (by decide +kernel) (by decide +kernel) (by decide +kernel) (by decide +kernel) (by decide +kernel) (by decide +kernel)
theorem allAtoms_all (ts : List Jvm.Cond) (a : Array Jvm.Value) (st : Jvm.State) : (allAtoms ts).before a st = ts.all (fun c => c.before a st) := by
  induction ts with
  | nil => rfl
  | cons c t ih =>
    show (Jvm.Cond.and c (allAtoms t)).before a st = _
    rw [Jvm.Cond.before_and, ih, List.all_cons]
def words1 : List Jvm.Cond := Jvm.Cond.code x code maxLocals ret :: tables_1
/-- a 'code' word, met by the world's own term for the bytes: nothing is compared byte by byte -/
theorem code_word {y : MethodName} {bytes : ByteArray} {mx : Nat} {rt : Option FieldType} {a : Array Value} {s : State} {m : MethodId} {meth : Method} {c : Code} (h1 : s.methodNamed? y = some m) (h2 : s.vm.method? m = some meth) (h3 : meth.code = some c) (h4 : c.code = bytes)
    (h5 : (c.maxLocals == mx && c.exceptionTable.isEmpty && decide (c.maxStack ≤ mostOperands) && decide (meth.sig.returnType = rt) && !meth.locks && decide (parseMethodDescriptor y.desc = some meth.sig)) = true) : (Jvm.Cond.code y bytes mx rt).before a s = true := by
  simp only [Bool.and_eq_true, beq_iff_eq, Bool.not_eq_true', decide_eq_true_eq] at h5
  obtain ⟨⟨⟨⟨⟨g1, g2⟩, g3⟩, g4⟩, g5⟩, g6⟩ := h5
  simp [Cond.before, Cond.holds, Cond.value, h1, h2, h3, h4, g1, g2, g3, g4, g5, g6]
def isCode : Jvm.Cond → Bool
  | .code _ _ _ _ => true
  | _ => false
theorem all_split {L : List Jvm.Cond} {P : Jvm.Cond → Bool} (h1 : L.all (fun c => isCode c || P c) = true) (h2 : ∀ c ∈ L.filter isCode, P c = true) : L.all P = true := by
  refine List.all_eq_true.mpr fun c hc => ?_
  have h := List.all_eq_true.mp h1 c hc
  rcases Bool.eq_false_or_eq_true (isCode c) with hi | hi
  · exact h2 c (List.mem_filter.mpr ⟨hc, hi⟩)
  · simpa [hi] using h
set_option maxRecDepth 65536 in
theorem w_c0 : (Jvm.Cond.code x code maxLocals ret).before args0 about1 = true := code_word (m := ⟨1, 1⟩) (meth := k1m1) (c := k1c1) (by decide +kernel) rfl rfl rfl (by decide +kernel)
set_option maxRecDepth 65536 in
theorem w_c1 : (Jvm.Cond.code ({ cls := "com/example/settle/settle/io/PublishedEnd", name := "<init>", desc := "(JJ)V" } : Jvm.MethodName) prog_14_method_1_code (5 : Nat) (Option.none : Option Jvm.ClassFile.FieldType)).before args0 about1 = true := code_word (m := ⟨2, 0⟩) (meth := k2m0) (c := k2c0) (by decide +kernel) rfl rfl rfl (by decide +kernel)
set_option maxRecDepth 65536 in
theorem w_c2 : (Jvm.Cond.code ({ cls := "java/lang/Object", name := "<init>", desc := "()V" } : Jvm.MethodName) object_method_1_code (1 : Nat) (Option.none : Option Jvm.ClassFile.FieldType)).before args0 about1 = true := code_word (m := ⟨0, 0⟩) (meth := k0m0) (c := k0c0) (by decide +kernel) rfl rfl rfl (by decide +kernel)
set_option maxRecDepth 65536 in
theorem w_c3 : (Jvm.Cond.code ({ cls := "com/example/settle/settle/io/PublishedEnd", name := "isPast", desc := "(Lcom/example/settle/settle/io/PublishedEnd;)Z" } : Jvm.MethodName) prog_14_method_4_code (2 : Nat) (Option.some Jvm.ClassFile.FieldType.boolean)).before args0 about1 = true := code_word (m := ⟨2, 1⟩) (meth := k2m1) (c := k2c1) (by decide +kernel) rfl rfl rfl (by decide +kernel)
def codes1 : List Jvm.Cond := [Jvm.Cond.code x code maxLocals ret, Jvm.Cond.code ({ cls := "com/example/settle/settle/io/PublishedEnd", name := "<init>", desc := "(JJ)V" } : Jvm.MethodName) prog_14_method_1_code (5 : Nat) (Option.none : Option Jvm.ClassFile.FieldType), Jvm.Cond.code ({ cls := "java/lang/Object", name := "<init>", desc := "()V" } : Jvm.MethodName) object_method_1_code (1 : Nat) (Option.none : Option Jvm.ClassFile.FieldType), Jvm.Cond.code ({ cls := "com/example/settle/settle/io/PublishedEnd", name := "isPast", desc := "(Lcom/example/settle/settle/io/PublishedEnd;)Z" } : Jvm.MethodName) prog_14_method_4_code (2 : Nat) (Option.some Jvm.ClassFile.FieldType.boolean)]
set_option maxRecDepth 65536 in
theorem codes_eq : words1.filter isCode = codes1 := rfl
theorem w_codes : ∀ c ∈ words1.filter isCode, c.before args0 about1 = true := by
  rw [codes_eq]
  intro c hc
  simp only [codes1, List.mem_cons, List.not_mem_nil, or_false] at hc
  rcases hc with rfl | rfl | rfl | rfl
  · exact w_c0
  · exact w_c1
  · exact w_c2
  · exact w_c3
set_option maxRecDepth 65536 in
theorem w_t1 : words1.all (fun c => isCode c || c.before args0 about1) = true := by decide +kernel
theorem w_tables : (allAtoms (Jvm.Cond.code x code maxLocals ret :: tables_1)).before args0 about1 = true := by
  rw [allAtoms_all]
  show words1.all (fun c => c.before args0 about1) = true
  refine all_split ?_ w_codes
  rw [w_t1]
set_option maxRecDepth 65536 in
theorem w_case : (Jvm.Cond.and given_1 narrow_1).before args0 about1 = true := by decide +kernel
theorem w_applies : (headSpec (Jvm.Cond.code x code maxLocals ret :: tables_1) room_1).applies x e0.platform about1 = true :=
  (Spec.applies_iff w_frames).mpr ⟨w_running, w_runnable, w_alone, w_named, w_hears, w_ripe, w_room, w_tables⟩
theorem atStart : AtStart classFile x code maxLocals ret World_1 tables_1 room_1 Calls_1 rest_1 Pre_1 launch0 p0 e0 about1 theMethod args0 below0 :=
  ⟨lists_1, trivial, launch0.admits_env _ _ _, launch0.least_env, fairChoices_fair.cas, fairChoices_fair.clock, w_frames, w_args, w_heap, w_applies, trivial, trivial, w_case⟩
end start1
theorem witness_1 : WitnessClaimed_1 := ⟨start1.p0, start1.e0, start1.about1, start1.theMethod, start1.args0, start1.below0, start1.atStart⟩
end Jvm.Pilot.@@N@@
