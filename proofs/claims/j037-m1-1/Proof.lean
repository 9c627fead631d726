import JvmDerived
import JvmDerived.Pilot.@@N@@Statement
import JvmDerived.Pilot.@@N@@Code
set_option linter.unusedVariables false
set_option linter.unusedSimpArgs false

namespace Jvm.Pilot.@@N@@
open Jvm Jvm.ClassFile Sem Op Lib Jvm.Free Jvm.Stand Jvm.LawKit Jvm.RoadKit Bundle Jvm.Pilot.@@N@@.Jvm.D
/-! ## own kit: a walk forwards, in small words -/
abbrev owK : Type := Program × Env × State × MethodId × Array Value × List Frame × Method × Code
abbrev owp (k : owK) : Program := k.1
abbrev owe (k : owK) : Env := k.2.1
abbrev ows (k : owK) : State := k.2.2.1
abbrev owm (k : owK) : MethodId := k.2.2.2.1
abbrev owa (k : owK) : Array Value := k.2.2.2.2.1
abbrev owb (k : owK) : List Frame := k.2.2.2.2.2.1
abbrev owM (k : owK) : Method := k.2.2.2.2.2.2.1
abbrev owc (k : owK) : Code := k.2.2.2.2.2.2.2
/-- what stands fast through a body -/
def owC (Z : State) (y : MethodName) (B : ByteArray) (ml : Nat) (rt : Option FieldType) (k : owK) : Prop :=
  (owp k).tables.exec = Jvm.exec ∧ Z.Warmed39 (ows k).vm ∧ (ows k).vm.findClass y.cls = some (owm k).cls ∧ (owc k).code = B ∧ (owc k).maxLocals = ml ∧ (owM k).name = y.name ∧ (owM k).sig.returnType = rt ∧ (owM k).locks = false
/-- where the walk stands: the state T with the heap h; cc cells and ss slots made so far; all writes at or above n0 -/
def Sd (l : Launch) (Z : State) (n0 : Nat) (y : MethodName) (B : ByteArray) (ml : Nat) (rt : Option FieldType) (R : Room) (k : owK) (T : State) (h : Heap) (cc ss : Nat) : Prop :=
  (∃ locs, Stand (owp k) l (owe k) R (ows k) (owm k) (owa k) (owb k) (owM k) (owc k) T locs cc ss ∧ Fr n0 locs) ∧ T.heap = h ∧ owC Z y B ml rt k
/-- from here the walk ends, as Q says -/
def Go (k : owK) (n0 : Nat) (Q : Option Value → Heap → Prop) (kc ks : Nat) (T : State) (pc : Nat) (Ls : Array Slot) (st : List Value) : Prop :=
  ∃ s₂ o, Steps (owp k).tables (owe k) (owb k) (T.setTop (mkF (owm k) pc Ls st)) s₂ ∧ s₂.status = .running ∧ Ended s₂ (owb k) o ∧ ∃ v L, o = .returned v ∧ (Fr n0 L ∧ Q v s₂.heap) ∧ FrameEnd (ows k) o s₂ L kc ks
/-- the contract of a body -/
def Met (l : Launch) (Z : State) (n0 : Nat) (y : MethodName) (B : ByteArray) (ml : Nat) (rt : Option FieldType) (ws : List Jvm.Cond) (R : Room) (as : Array Value) (h0 : Heap) (Q : Option Value → Heap → Prop) (kc ks : Nat) : Prop :=
  MetFree l y (head1 (Jvm.Cond.code y B ml rt :: ws) R) (fun a U => a = as ∧ Z.Warmed39 U.vm ∧ U.heap = h0) (fun _ _ _ _ _ => True) (fun _ U o U' => ∃ v L, o = .returned v ∧ (Fr n0 L ∧ Q v U'.heap) ∧ FrameEnd U o U' L kc ks)
section Ow
variable {l : Launch} {Z : State} {n0 : Nat} {y : MethodName} {B : ByteArray} {ml : Nat} {rt : Option FieldType} {R : Room} {k : owK} {T : State} {h : Heap} {cc ss : Nat} {Q : Option Value → Heap → Prop} {kc ks : Nat} {pc : Nat} {Ls : Array Slot} {st : List Value} {a0 : Array Value}
theorem Met.of {ws : List Jvm.Cond} {as : Array Value} {h0 : Heap} {Ls : Array Slot} (hp : Jvm.plainFor y = true) (hef : Jvm.Sym.laidSlots as.toList ++ List.replicate (ml - (Jvm.Sym.laidSlots as.toList).length) .unset = Ls.toList) (body : ∀ k T, Sd l Z n0 y B ml rt R k T h0 0 0 → Go k n0 Q kc ks T 0 Ls []) : Met l Z n0 y B ml rt ws R as h0 Q kc ks := by
  refine MetFree.of_bodySF hp hisR ?_
  intro p e s m args below meth c s₁ Bd hml hP hK
  obtain ⟨rfl, hZ, hh⟩ := hP
  have hown : s.vm.findClass y.cls = some m.cls := findClass_of_methodNamed Bd.named
  have hnm := (name_of_methodNamed Bd.named Bd.method).1
  have X0 : Stand p l e R s m args below meth c s₁ [] 0 0 := Stand.of_body Bd
  have e0 : s₁.heap = h0 := by rw [← hh, Bd.state]; rfl
  obtain ⟨s2, o, h1, h2, h3, h4⟩ := body (p, e, s, m, args, below, meth, c) s₁ ⟨⟨[], X0, Fr.nil n0⟩, e0, Bd.exec, hZ, hown, Bd.bytes, hml, hnm, Bd.returns, Bd.notSynchronized⟩
  exact ⟨s2, o, (XT.entry hef).trans h1, h2, h3, h4⟩
theorem Go.of {T T' : State} {pc' : Nat} {Ls' : Array Slot} {st' : List Value} (K : Go k n0 Q kc ks T' pc' Ls' st') (f : ∀ t, Steps (owp k).tables (owe k) (owb k) (T'.setTop (mkF (owm k) pc' Ls' st')) t → Steps (owp k).tables (owe k) (owb k) (T.setTop (mkF (owm k) pc Ls st)) t) : Go k n0 Q kc ks T pc Ls st := by
  obtain ⟨s2, o, h1, h2⟩ := K; exact ⟨s2, o, f _ h1, h2⟩
theorem Go.end {v : Option Value} (X : Sd l Z n0 y B ml rt R k T h cc ss) (hk : cc ≤ kc) (hs : ss ≤ ks) (hv : rt = none → v = none) (f : ∀ fs, (∀ (f : JFrame) (acts : List Action), f.method = owm k → f.locked = none → f.entered = [] → (doReturn (owe k) (T.setTop f) acts v).1 = T.setFrames fs) → Steps (owp k).tables (owe k) (owb k) (T.setTop (mkF (owm k) pc Ls st)) (T.setFrames fs)) (hQ : Q v h) : Go k n0 Q kc ks T pc Ls st := by
  obtain ⟨⟨locs, X, N⟩, rfl, hx, hZ, hown, hby, hml, hnm, hrt, hlk⟩ := X
  obtain ⟨fs, hr, hrun, hended, hW, hsame⟩ := X.leave (v := v) (fun q => hv (by rw [← hrt]; exact q)) hlk
  exact ⟨_, _, f fs hr, hrun, hended, _, _, rfl, ⟨N, hQ⟩, ⟨_, rfl⟩, hW, hsame.mono hk hs⟩
theorem Sd.hh (X : Sd l Z n0 y B ml rt R k T h cc ss) : At T (owm k) (owc k) (owb k) := by obtain ⟨⟨_, X, _⟩, _⟩ := X; exact X.here
theorem Sd.x (X : Sd l Z n0 y B ml rt R k T h cc ss) : (owp k).tables.exec = Jvm.exec := X.2.2.1
theorem Sd.d (X : Sd l Z n0 y B ml rt R k T h cc ss) {pc : Nat} {r : Except ClassFile.DecodeError (ClassFile.Instr × Nat)} (hd : decode B pc = r) : decode (owc k).code pc = r := hb X.2.2.2.2.2.1 hd
theorem Sd.heap (X : Sd l Z n0 y B ml rt R k T h cc ss) : T.heap = h := X.2.1
/-! loads, stores, constants -/
theorem g_aloadN (X : Sd l Z n0 y B ml rt R k T h cc ss) {i : Fin 4} {v : Value} (hd : decode B pc = .ok (.aload_n i, 1)) (hl : Ls[i.val]? = some (.val v)) (hv : v.isRef = true) (pc' : Nat) (hp : pc + 1 = pc') (K : Go k n0 Q kc ks T pc' Ls (v :: st)) : Go k n0 Q kc ks T pc Ls st := by subst hp; exact K.of fun _ q => XS.aloadN X.hh X.x rfl (X.d hd) hl hv q
theorem g_aload (X : Sd l Z n0 y B ml rt R k T h cc ss) {i : Nat} {v : Value} (hd : decode B pc = .ok (.aload i, 2)) (hl : Ls[i]? = some (.val v)) (hv : v.isRef = true) (pc' : Nat) (hp : pc + 2 = pc') (K : Go k n0 Q kc ks T pc' Ls (v :: st)) : Go k n0 Q kc ks T pc Ls st := by subst hp; exact K.of fun _ q => XS.aload X.hh X.x rfl (X.d hd) hl hv q
theorem g_iloadN (X : Sd l Z n0 y B ml rt R k T h cc ss) {i : Fin 4} {v : Int32} (hd : decode B pc = .ok (.iload_n i, 1)) (hl : Ls[i.val]? = some (.val (.int v))) (pc' : Nat) (hp : pc + 1 = pc') (K : Go k n0 Q kc ks T pc' Ls (.int v :: st)) : Go k n0 Q kc ks T pc Ls st := by subst hp; exact K.of fun _ q => XS.iloadN X.hh X.x rfl (X.d hd) hl q
theorem g_iload (X : Sd l Z n0 y B ml rt R k T h cc ss) {i : Nat} {v : Int32} (hd : decode B pc = .ok (.iload i, 2)) (hl : Ls[i]? = some (.val (.int v))) (pc' : Nat) (hp : pc + 2 = pc') (K : Go k n0 Q kc ks T pc' Ls (.int v :: st)) : Go k n0 Q kc ks T pc Ls st := by subst hp; exact K.of fun _ q => XS.iload X.hh X.x rfl (X.d hd) hl q
theorem g_lloadN (X : Sd l Z n0 y B ml rt R k T h cc ss) {i : Fin 4} {v : Int64} (hd : decode B pc = .ok (.lload_n i, 1)) (hl : Ls[i.val]? = some (.val (.long v))) (pc' : Nat) (hp : pc + 1 = pc') (K : Go k n0 Q kc ks T pc' Ls (.long v :: st)) : Go k n0 Q kc ks T pc Ls st := by subst hp; exact K.of fun _ q => XT.lloadN X.hh X.x rfl (X.d hd) hl q
theorem g_lload (X : Sd l Z n0 y B ml rt R k T h cc ss) {i : Nat} {v : Int64} (hd : decode B pc = .ok (.lload i, 2)) (hl : Ls[i]? = some (.val (.long v))) (pc' : Nat) (hp : pc + 2 = pc') (K : Go k n0 Q kc ks T pc' Ls (.long v :: st)) : Go k n0 Q kc ks T pc Ls st := by subst hp; exact K.of fun _ q => XT.lload X.hh X.x rfl (X.d hd) hl q
theorem g_istoreN (X : Sd l Z n0 y B ml rt R k T h cc ss) {i : Fin 4} {v : Int32} (hd : decode B pc = .ok (.istore_n i, 1)) (L' : Array Slot) (hl : storeLocals Ls i.val (.int v) = some L') (pc' : Nat) (hp : pc + 1 = pc') (K : Go k n0 Q kc ks T pc' L' st) : Go k n0 Q kc ks T pc Ls (.int v :: st) := by subst hp; exact K.of fun _ q => XS.istoreN X.hh X.x rfl (X.d hd) rfl hl q
theorem g_istore (X : Sd l Z n0 y B ml rt R k T h cc ss) {i : Nat} {v : Int32} (hd : decode B pc = .ok (.istore i, 2)) (L' : Array Slot) (hl : storeLocals Ls i (.int v) = some L') (pc' : Nat) (hp : pc + 2 = pc') (K : Go k n0 Q kc ks T pc' L' st) : Go k n0 Q kc ks T pc Ls (.int v :: st) := by subst hp; exact K.of fun _ q => XS.istore X.hh X.x rfl (X.d hd) rfl hl q
theorem g_lstoreN (X : Sd l Z n0 y B ml rt R k T h cc ss) {i : Fin 4} {v : Int64} (hd : decode B pc = .ok (.lstore_n i, 1)) (L' : Array Slot) (hl : storeLocals Ls i.val (.long v) = some L') (pc' : Nat) (hp : pc + 1 = pc') (K : Go k n0 Q kc ks T pc' L' st) : Go k n0 Q kc ks T pc Ls (.long v :: st) := by subst hp; exact K.of fun _ q => XT.lstoreN X.hh X.x rfl (X.d hd) rfl hl q
theorem g_lstore (X : Sd l Z n0 y B ml rt R k T h cc ss) {i : Nat} {v : Int64} (hd : decode B pc = .ok (.lstore i, 2)) (L' : Array Slot) (hl : storeLocals Ls i (.long v) = some L') (pc' : Nat) (hp : pc + 2 = pc') (K : Go k n0 Q kc ks T pc' L' st) : Go k n0 Q kc ks T pc Ls (.long v :: st) := by subst hp; exact K.of fun _ q => XT.lstore X.hh X.x rfl (X.d hd) rfl hl q
theorem g_astoreN (X : Sd l Z n0 y B ml rt R k T h cc ss) {i : Fin 4} {v : Value} (hd : decode B pc = .ok (.astore_n i, 1)) (hv : v.isRef = true) (L' : Array Slot) (hl : storeLocals Ls i.val v = some L') (pc' : Nat) (hp : pc + 1 = pc') (K : Go k n0 Q kc ks T pc' L' st) : Go k n0 Q kc ks T pc Ls (v :: st) := by subst hp; exact K.of fun _ q => XS.astoreN X.hh X.x rfl (X.d hd) rfl hv hl q
theorem g_astore (X : Sd l Z n0 y B ml rt R k T h cc ss) {i : Nat} {v : Value} (hd : decode B pc = .ok (.astore i, 2)) (hv : v.isRef = true) (L' : Array Slot) (hl : storeLocals Ls i v = some L') (pc' : Nat) (hp : pc + 2 = pc') (K : Go k n0 Q kc ks T pc' L' st) : Go k n0 Q kc ks T pc Ls (v :: st) := by subst hp; exact K.of fun _ q => XS.astore X.hh X.x rfl (X.d hd) rfl hv hl q
theorem g_iconst (X : Sd l Z n0 y B ml rt R k T h cc ss) {i : Int} (v : Int32) (hd : decode B pc = .ok (.iconst i, 1)) (hv : Int32.ofInt i = v) (pc' : Nat) (hp : pc + 1 = pc') (K : Go k n0 Q kc ks T pc' Ls (.int v :: st)) : Go k n0 Q kc ks T pc Ls st := by subst hp; exact K.of fun _ q => XT.iconstV X.hh X.x rfl v (X.d hd) hv q
theorem g_bipush (X : Sd l Z n0 y B ml rt R k T h cc ss) {i : Int} (v : Int32) (hd : decode B pc = .ok (.bipush i, 2)) (hv : (Int8.ofInt i).toInt32 = v) (pc' : Nat) (hp : pc + 2 = pc') (K : Go k n0 Q kc ks T pc' Ls (.int v :: st)) : Go k n0 Q kc ks T pc Ls st := by subst hp; exact K.of fun _ q => XT.bipushV X.hh X.x rfl v (X.d hd) hv q
theorem g_sipush (X : Sd l Z n0 y B ml rt R k T h cc ss) {i : Int} (v : Int32) (hd : decode B pc = .ok (.sipush i, 3)) (hv : (Int16.ofInt i).toInt32 = v) (pc' : Nat) (hp : pc + 3 = pc') (K : Go k n0 Q kc ks T pc' Ls (.int v :: st)) : Go k n0 Q kc ks T pc Ls st := by subst hp; exact K.of fun _ q => XT.sipushV X.hh X.x rfl v (X.d hd) hv q
theorem g_lconst (X : Sd l Z n0 y B ml rt R k T h cc ss) {i : Fin 2} (v : Int64) (hd : decode B pc = .ok (.lconst i, 1)) (hv : Int64.ofNat i = v) (pc' : Nat) (hp : pc + 1 = pc') (K : Go k n0 Q kc ks T pc' Ls (.long v :: st)) : Go k n0 Q kc ks T pc Ls st := by subst hp; exact K.of fun _ q => XT.lconstV X.hh X.x rfl v (X.d hd) hv q
theorem g_null (X : Sd l Z n0 y B ml rt R k T h cc ss) (hd : decode B pc = .ok (.aconst_null, 1)) (pc' : Nat) (hp : pc + 1 = pc') (K : Go k n0 Q kc ks T pc' Ls (.null :: st)) : Go k n0 Q kc ks T pc Ls st := by subst hp; exact K.of fun _ q => XS.aconstNull X.hh X.x rfl (X.d hd) q
theorem g_iinc (X : Sd l Z n0 y B ml rt R k T h cc ss) {i : Nat} {cst : Int} {x : Int32} (v : Int32) (hd : decode B pc = .ok (.iinc i cst, 3)) (hv : Int32.ofInt cst = v) (hl : Ls[i]? = some (.val (.int x))) (L' : Array Slot) (hl' : storeLocals Ls i (.int (x + v)) = some L') (pc' : Nat) (hp : pc + 3 = pc') (K : Go k n0 Q kc ks T pc' L' st) : Go k n0 Q kc ks T pc Ls st := by subst hp; exact K.of fun _ q => XT.iincV X.hh X.x rfl v (X.d hd) hv hl hl' q
/-! arithmetic -/
theorem g_iadd (X : Sd l Z n0 y B ml rt R k T h cc ss) {a b : Int32} (hd : decode B pc = .ok (.iadd, 1)) (pc' : Nat) (hp : pc + 1 = pc') (K : Go k n0 Q kc ks T pc' Ls (.int (a + b) :: st)) : Go k n0 Q kc ks T pc Ls (.int b :: .int a :: st) := by subst hp; exact K.of fun _ q => XS.iadd X.hh X.x rfl (X.d hd) rfl q
theorem g_isub (X : Sd l Z n0 y B ml rt R k T h cc ss) {a b : Int32} (hd : decode B pc = .ok (.isub, 1)) (pc' : Nat) (hp : pc + 1 = pc') (K : Go k n0 Q kc ks T pc' Ls (.int (a - b) :: st)) : Go k n0 Q kc ks T pc Ls (.int b :: .int a :: st) := by subst hp; exact K.of fun _ q => XS.isub X.hh X.x rfl (X.d hd) rfl q
theorem g_imul (X : Sd l Z n0 y B ml rt R k T h cc ss) {a b : Int32} (hd : decode B pc = .ok (.imul, 1)) (pc' : Nat) (hp : pc + 1 = pc') (K : Go k n0 Q kc ks T pc' Ls (.int (a * b) :: st)) : Go k n0 Q kc ks T pc Ls (.int b :: .int a :: st) := by subst hp; exact K.of fun _ q => XS.imul X.hh X.x rfl (X.d hd) rfl q
theorem g_idiv (X : Sd l Z n0 y B ml rt R k T h cc ss) {a b : Int32} (hd : decode B pc = .ok (.idiv, 1)) (hb : b ≠ 0) (pc' : Nat) (hp : pc + 1 = pc') (K : Go k n0 Q kc ks T pc' Ls (.int (a / b) :: st)) : Go k n0 Q kc ks T pc Ls (.int b :: .int a :: st) := by subst hp; exact K.of fun _ q => XS.idiv X.hh X.x rfl (X.d hd) rfl hb q
theorem g_irem (X : Sd l Z n0 y B ml rt R k T h cc ss) {a b : Int32} (hd : decode B pc = .ok (.irem, 1)) (hb : b ≠ 0) (pc' : Nat) (hp : pc + 1 = pc') (K : Go k n0 Q kc ks T pc' Ls (.int (a % b) :: st)) : Go k n0 Q kc ks T pc Ls (.int b :: .int a :: st) := by
  subst hp; obtain ⟨⟨locs, Y, N⟩, eh, hc⟩ := X
  exact K.of fun _ q => iremM Y hc.1 (g := mkF (owm k) pc Ls (.int b :: .int a :: st)) rfl (Jvm.hb hc.2.2.2.1 hd) rfl hb q
theorem g_iand (X : Sd l Z n0 y B ml rt R k T h cc ss) {a b : Int32} (hd : decode B pc = .ok (.iand, 1)) (pc' : Nat) (hp : pc + 1 = pc') (K : Go k n0 Q kc ks T pc' Ls (.int (a &&& b) :: st)) : Go k n0 Q kc ks T pc Ls (.int b :: .int a :: st) := by subst hp; exact K.of fun _ q => XS.iand X.hh X.x rfl (X.d hd) rfl q
theorem g_ior (X : Sd l Z n0 y B ml rt R k T h cc ss) {a b : Int32} (hd : decode B pc = .ok (.ior, 1)) (pc' : Nat) (hp : pc + 1 = pc') (K : Go k n0 Q kc ks T pc' Ls (.int (a ||| b) :: st)) : Go k n0 Q kc ks T pc Ls (.int b :: .int a :: st) := by subst hp; exact K.of fun _ q => XS.ior X.hh X.x rfl (X.d hd) rfl q
theorem g_ixor (X : Sd l Z n0 y B ml rt R k T h cc ss) {a b : Int32} (hd : decode B pc = .ok (.ixor, 1)) (pc' : Nat) (hp : pc + 1 = pc') (K : Go k n0 Q kc ks T pc' Ls (.int (a ^^^ b) :: st)) : Go k n0 Q kc ks T pc Ls (.int b :: .int a :: st) := by subst hp; exact K.of fun _ q => XS.ixor X.hh X.x rfl (X.d hd) rfl q
theorem g_ishl (X : Sd l Z n0 y B ml rt R k T h cc ss) {a b : Int32} (hd : decode B pc = .ok (.ishl, 1)) (pc' : Nat) (hp : pc + 1 = pc') (K : Go k n0 Q kc ks T pc' Ls (.int (a <<< (b &&& 31)) :: st)) : Go k n0 Q kc ks T pc Ls (.int b :: .int a :: st) := by subst hp; exact K.of fun _ q => XS.ishl X.hh X.x rfl (X.d hd) rfl q
theorem g_ishr (X : Sd l Z n0 y B ml rt R k T h cc ss) {a b : Int32} (hd : decode B pc = .ok (.ishr, 1)) (pc' : Nat) (hp : pc + 1 = pc') (K : Go k n0 Q kc ks T pc' Ls (.int (a >>> (b &&& 31)) :: st)) : Go k n0 Q kc ks T pc Ls (.int b :: .int a :: st) := by subst hp; exact K.of fun _ q => XS.ishr X.hh X.x rfl (X.d hd) rfl q
theorem g_iushr (X : Sd l Z n0 y B ml rt R k T h cc ss) {a b : Int32} (hd : decode B pc = .ok (.iushr, 1)) (pc' : Nat) (hp : pc + 1 = pc') (K : Go k n0 Q kc ks T pc' Ls (.int ((a.toUInt32 >>> (b &&& 31).toUInt32).toInt32) :: st)) : Go k n0 Q kc ks T pc Ls (.int b :: .int a :: st) := by subst hp; exact K.of fun _ q => XS.iushr X.hh X.x rfl (X.d hd) rfl q
theorem g_ineg (X : Sd l Z n0 y B ml rt R k T h cc ss) {a : Int32} (hd : decode B pc = .ok (.ineg, 1)) (pc' : Nat) (hp : pc + 1 = pc') (K : Go k n0 Q kc ks T pc' Ls (.int (-a) :: st)) : Go k n0 Q kc ks T pc Ls (.int a :: st) := by subst hp; exact K.of fun _ q => XS.ineg X.hh X.x rfl (X.d hd) rfl q
theorem g_ladd (X : Sd l Z n0 y B ml rt R k T h cc ss) {a b : Int64} (hd : decode B pc = .ok (.ladd, 1)) (pc' : Nat) (hp : pc + 1 = pc') (K : Go k n0 Q kc ks T pc' Ls (.long (a + b) :: st)) : Go k n0 Q kc ks T pc Ls (.long b :: .long a :: st) := by subst hp; exact K.of fun _ q => XS.ladd X.hh X.x rfl (X.d hd) rfl q
theorem g_lsub (X : Sd l Z n0 y B ml rt R k T h cc ss) {a b : Int64} (hd : decode B pc = .ok (.lsub, 1)) (pc' : Nat) (hp : pc + 1 = pc') (K : Go k n0 Q kc ks T pc' Ls (.long (a - b) :: st)) : Go k n0 Q kc ks T pc Ls (.long b :: .long a :: st) := by subst hp; exact K.of fun _ q => XS.lsub X.hh X.x rfl (X.d hd) rfl q
theorem g_land (X : Sd l Z n0 y B ml rt R k T h cc ss) {a b : Int64} (hd : decode B pc = .ok (.land, 1)) (pc' : Nat) (hp : pc + 1 = pc') (K : Go k n0 Q kc ks T pc' Ls (.long (a &&& b) :: st)) : Go k n0 Q kc ks T pc Ls (.long b :: .long a :: st) := by subst hp; exact K.of fun _ q => XS.land X.hh X.x rfl (X.d hd) rfl q
theorem g_lushr (X : Sd l Z n0 y B ml rt R k T h cc ss) {a : Int64} {b : Int32} (hd : decode B pc = .ok (.lushr, 1)) (pc' : Nat) (hp : pc + 1 = pc') (K : Go k n0 Q kc ks T pc' Ls (.long ((a.toUInt64 >>> (b &&& 0x3f).toInt64.toUInt64).toInt64) :: st)) : Go k n0 Q kc ks T pc Ls (.int b :: .long a :: st) := by subst hp; exact K.of fun _ q => XS.lushr X.hh X.x rfl (X.d hd) rfl q
theorem g_i2l (X : Sd l Z n0 y B ml rt R k T h cc ss) {a : Int32} (hd : decode B pc = .ok (.i2l, 1)) (pc' : Nat) (hp : pc + 1 = pc') (K : Go k n0 Q kc ks T pc' Ls (.long a.toInt64 :: st)) : Go k n0 Q kc ks T pc Ls (.int a :: st) := by subst hp; exact K.of fun _ q => XS.i2l X.hh X.x rfl (X.d hd) rfl q
theorem g_l2i (X : Sd l Z n0 y B ml rt R k T h cc ss) {a : Int64} (hd : decode B pc = .ok (.l2i, 1)) (pc' : Nat) (hp : pc + 1 = pc') (K : Go k n0 Q kc ks T pc' Ls (.int a.toInt32 :: st)) : Go k n0 Q kc ks T pc Ls (.long a :: st) := by subst hp; exact K.of fun _ q => XS.l2i X.hh X.x rfl (X.d hd) rfl q
theorem g_i2b (X : Sd l Z n0 y B ml rt R k T h cc ss) {a : Int32} (hd : decode B pc = .ok (.i2b, 1)) (pc' : Nat) (hp : pc + 1 = pc') (K : Go k n0 Q kc ks T pc' Ls (.int a.toInt8.toInt32 :: st)) : Go k n0 Q kc ks T pc Ls (.int a :: st) := by subst hp; exact K.of fun _ q => XS.i2b X.hh X.x rfl (X.d hd) rfl q
theorem g_i2c (X : Sd l Z n0 y B ml rt R k T h cc ss) {a : Int32} (hd : decode B pc = .ok (.i2c, 1)) (pc' : Nat) (hp : pc + 1 = pc') (K : Go k n0 Q kc ks T pc' Ls (.int a.toUInt32.toUInt16.toUInt32.toInt32 :: st)) : Go k n0 Q kc ks T pc Ls (.int a :: st) := by subst hp; exact K.of fun _ q => XS.i2c X.hh X.x rfl (X.d hd) rfl q
theorem g_lcmp (X : Sd l Z n0 y B ml rt R k T h cc ss) {a b : Int64} (hd : decode B pc = .ok (.lcmp, 1)) (pc' : Nat) (hp : pc + 1 = pc') (K : Go k n0 Q kc ks T pc' Ls (.int (XT.cmpL a b) :: st)) : Go k n0 Q kc ks T pc Ls (.long b :: .long a :: st) := by subst hp; exact K.of fun _ q => XT.lcmp X.hh X.x rfl (X.d hd) rfl q
/-! the stack -/
theorem g_dup (X : Sd l Z n0 y B ml rt R k T h cc ss) {v : Value} (hd : decode B pc = .ok (.dup, 1)) (hc : v.category = 1) (pc' : Nat) (hp : pc + 1 = pc') (K : Go k n0 Q kc ks T pc' Ls (v :: v :: st)) : Go k n0 Q kc ks T pc Ls (v :: st) := by subst hp; exact K.of fun _ q => XS.dup X.hh X.x rfl (X.d hd) rfl hc q
theorem g_pop (X : Sd l Z n0 y B ml rt R k T h cc ss) {v : Value} (hd : decode B pc = .ok (.pop, 1)) (hc : v.category = 1) (pc' : Nat) (hp : pc + 1 = pc') (K : Go k n0 Q kc ks T pc' Ls st) : Go k n0 Q kc ks T pc Ls (v :: st) := by subst hp; exact K.of fun _ q => XS.pop X.hh X.x rfl (X.d hd) rfl hc q
theorem g_dupX1 (X : Sd l Z n0 y B ml rt R k T h cc ss) {v w : Value} (hd : decode B pc = .ok (.dup_x1, 1)) (hc : v.category = 1) (hc2 : w.category = 1) (pc' : Nat) (hp : pc + 1 = pc') (K : Go k n0 Q kc ks T pc' Ls (v :: w :: v :: st)) : Go k n0 Q kc ks T pc Ls (v :: w :: st) := by subst hp; exact K.of fun _ q => XS.dupX1 X.hh X.x rfl (X.d hd) rfl hc hc2 q
theorem g_dup2 (X : Sd l Z n0 y B ml rt R k T h cc ss) {v w : Value} (hd : decode B pc = .ok (.dup2, 1)) (hc : v.category = 1) (hc2 : w.category = 1) (pc' : Nat) (hp : pc + 1 = pc') (K : Go k n0 Q kc ks T pc' Ls (v :: w :: v :: w :: st)) : Go k n0 Q kc ks T pc Ls (v :: w :: st) := by subst hp; exact K.of fun _ q => XT.dup2 X.hh X.x rfl (X.d hd) rfl hc hc2 q
/-! jumps -/
theorem g_goto (X : Sd l Z n0 y B ml rt R k T h cc ss) {o : Int} (hd : decode B pc = .ok (.goto o, 3)) (pc' : Nat) (ho : 0 ≤ (pc : Int) + o) (hp : ((pc : Int) + o).toNat = pc') (K : Go k n0 Q kc ks T pc' Ls st) : Go k n0 Q kc ks T pc Ls st := K.of fun _ q => XS.goto X.hh X.x rfl rfl (X.d hd) ho hp q
theorem g_if (X : Sd l Z n0 y B ml rt R k T h cc ss) {cd : ClassFile.Cond} {a : Int32} {o : Int} {C : Prop} (hc : ifCond.holds cd a = true ↔ C) (hd : decode B pc = .ok (.ifCond cd o, 3)) (pT : Nat) (ho : 0 ≤ (pc : Int) + o) (hT : ((pc : Int) + o).toNat = pT) (pF : Nat) (hF : pc + 3 = pF) (K1 : C → Go k n0 Q kc ks T pT Ls st) (K2 : ¬ C → Go k n0 Q kc ks T pF Ls st) : Go k n0 Q kc ks T pc Ls (.int a :: st) := by
  subst hF
  cases q : ifCond.holds cd a with
  | true => exact (K1 (hc.mp q)).of fun _ z => XS.ifYes X.hh X.x rfl rfl (X.d hd) rfl q ho hT z
  | false => exact (K2 (fun z => by rw [hc.mpr z] at q; cases q)).of fun _ z => XS.ifNo X.hh X.x rfl (X.d hd) rfl q z
theorem g_icmp (X : Sd l Z n0 y B ml rt R k T h cc ss) {cd : ClassFile.Cond} {a b : Int32} {o : Int} {C : Prop} (hc : if_icmp.holds cd a b = true ↔ C) (hd : decode B pc = .ok (.if_icmp cd o, 3)) (pT : Nat) (ho : 0 ≤ (pc : Int) + o) (hT : ((pc : Int) + o).toNat = pT) (pF : Nat) (hF : pc + 3 = pF) (K1 : C → Go k n0 Q kc ks T pT Ls st) (K2 : ¬ C → Go k n0 Q kc ks T pF Ls st) : Go k n0 Q kc ks T pc Ls (.int b :: .int a :: st) := by
  subst hF
  cases q : if_icmp.holds cd a b with
  | true => exact (K1 (hc.mp q)).of fun _ z => XS.icmpYes X.hh X.x rfl rfl (X.d hd) rfl q ho hT z
  | false => exact (K2 (fun z => by rw [hc.mpr z] at q; cases q)).of fun _ z => XS.icmpNo X.hh X.x rfl (X.d hd) rfl q z
/-- the same, told the other way round: the jump is taken where C fails -/
theorem g_ifN (X : Sd l Z n0 y B ml rt R k T h cc ss) {cd : ClassFile.Cond} {a : Int32} {o : Int} {C : Prop} (hc : ifCond.holds cd a = true ↔ ¬ C) (hd : decode B pc = .ok (.ifCond cd o, 3)) (pT : Nat) (ho : 0 ≤ (pc : Int) + o) (hT : ((pc : Int) + o).toNat = pT) (pF : Nat) (hF : pc + 3 = pF) (K1 : C → Go k n0 Q kc ks T pF Ls st) (K2 : ¬ C → Go k n0 Q kc ks T pT Ls st) : Go k n0 Q kc ks T pc Ls (.int a :: st) :=
  g_if X hc hd pT ho hT pF hF K2 fun q => K1 (Classical.not_not.mp q)
theorem g_icmpN (X : Sd l Z n0 y B ml rt R k T h cc ss) {cd : ClassFile.Cond} {a b : Int32} {o : Int} {C : Prop} (hc : if_icmp.holds cd a b = true ↔ ¬ C) (hd : decode B pc = .ok (.if_icmp cd o, 3)) (pT : Nat) (ho : 0 ≤ (pc : Int) + o) (hT : ((pc : Int) + o).toNat = pT) (pF : Nat) (hF : pc + 3 = pF) (K1 : C → Go k n0 Q kc ks T pF Ls st) (K2 : ¬ C → Go k n0 Q kc ks T pT Ls st) : Go k n0 Q kc ks T pc Ls (.int b :: .int a :: st) :=
  g_icmp X hc hd pT ho hT pF hF K2 fun q => K1 (Classical.not_not.mp q)
theorem z_eq {a : Int32} : ifCond.holds .eq a = true ↔ a = 0 := by simp [ifCond.holds]
theorem z_ne {a : Int32} : ifCond.holds .ne a = true ↔ ¬ a = 0 := by simp [ifCond.holds]
theorem z_lt {a : Int32} : ifCond.holds .lt a = true ↔ a < 0 := by simp [ifCond.holds]
theorem z_ge {a : Int32} : ifCond.holds .ge a = true ↔ ¬ a < 0 := by simp [ifCond.holds, Int32.not_lt]
theorem z_gt {a : Int32} : ifCond.holds .gt a = true ↔ 0 < a := by simp [ifCond.holds]
theorem z_le {a : Int32} : ifCond.holds .le a = true ↔ ¬ 0 < a := by simp [ifCond.holds, Int32.not_lt]
theorem i_eq {a b : Int32} : if_icmp.holds .eq a b = true ↔ a = b := by simp [if_icmp.holds]
theorem i_ne {a b : Int32} : if_icmp.holds .ne a b = true ↔ ¬ a = b := by simp [if_icmp.holds]
theorem i_lt {a b : Int32} : if_icmp.holds .lt a b = true ↔ a < b := by simp [if_icmp.holds]
theorem i_ge {a b : Int32} : if_icmp.holds .ge a b = true ↔ ¬ a < b := by simp [if_icmp.holds, Int32.not_lt]
theorem i_gt {a b : Int32} : if_icmp.holds .gt a b = true ↔ b < a := by simp [if_icmp.holds]
theorem i_le {a b : Int32} : if_icmp.holds .le a b = true ↔ ¬ b < a := by simp [if_icmp.holds, Int32.not_lt]
theorem l_of {b : Bool} {C : Prop} (h1 : C → b = true) (h2 : ¬ C → b = false) : b = true ↔ C := ⟨fun q => Classical.byContradiction fun z => Bool.noConfusion ((h2 z).symm.trans q), h1⟩
theorem l_eq {a b : Int64} : ifCond.holds .eq (XT.cmpL a b) = true ↔ a = b := l_of XT.ll_eq_t XT.ll_eq_f
theorem l_ne {a b : Int64} : ifCond.holds .ne (XT.cmpL a b) = true ↔ ¬ a = b := l_of XT.ll_ne_t (fun q => XT.ll_ne_f (Classical.not_not.mp q))
theorem l_lt {a b : Int64} : ifCond.holds .lt (XT.cmpL a b) = true ↔ a < b := l_of XT.ll_lt_t XT.ll_lt_f
theorem l_ge {a b : Int64} : ifCond.holds .ge (XT.cmpL a b) = true ↔ ¬ a < b := l_of XT.ll_ge_t (fun q => XT.ll_ge_f (Classical.not_not.mp q))
theorem l_gt {a b : Int64} : ifCond.holds .gt (XT.cmpL a b) = true ↔ b < a := l_of XT.ll_gt_t XT.ll_gt_f
theorem l_le {a b : Int64} : ifCond.holds .le (XT.cmpL a b) = true ↔ ¬ b < a := l_of XT.ll_le_t (fun q => XT.ll_le_f (Classical.not_not.mp q))
theorem g_nullY (X : Sd l Z n0 y B ml rt R k T h cc ss) {o : Int} (hd : decode B pc = .ok (.ifnull o, 3)) (pc' : Nat) (ho : 0 ≤ (pc : Int) + o) (hp : ((pc : Int) + o).toNat = pc') (K : Go k n0 Q kc ks T pc' Ls st) : Go k n0 Q kc ks T pc Ls (.null :: st) := K.of fun _ q => XS.ifnullYes X.hh X.x rfl rfl (X.d hd) rfl ho hp q
theorem g_nullN (X : Sd l Z n0 y B ml rt R k T h cc ss) {o : Int} {a : Addr} (hd : decode B pc = .ok (.ifnull o, 3)) (pc' : Nat) (hp : pc + 3 = pc') (K : Go k n0 Q kc ks T pc' Ls st) : Go k n0 Q kc ks T pc Ls (.ref a :: st) := by subst hp; exact K.of fun _ q => XS.ifnullNo X.hh X.x rfl (X.d hd) rfl q
theorem g_nonnullY (X : Sd l Z n0 y B ml rt R k T h cc ss) {o : Int} {a : Addr} (hd : decode B pc = .ok (.ifnonnull o, 3)) (pc' : Nat) (ho : 0 ≤ (pc : Int) + o) (hp : ((pc : Int) + o).toNat = pc') (K : Go k n0 Q kc ks T pc' Ls st) : Go k n0 Q kc ks T pc Ls (.ref a :: st) := K.of fun _ q => XS.ifnonnullYes X.hh X.x rfl rfl (X.d hd) rfl ho hp q
theorem g_nonnullN (X : Sd l Z n0 y B ml rt R k T h cc ss) {o : Int} (hd : decode B pc = .ok (.ifnonnull o, 3)) (pc' : Nat) (hp : pc + 3 = pc') (K : Go k n0 Q kc ks T pc' Ls st) : Go k n0 Q kc ks T pc Ls (.null :: st) := by subst hp; exact K.of fun _ q => XS.ifnonnullNo X.hh X.x rfl (X.d hd) rfl q
theorem g_acmpY (X : Sd l Z n0 y B ml rt R k T h cc ss) {cd : ClassFile.ACond} {v w : Value} {o : Int} (hd : decode B pc = .ok (.if_acmp cd o, 3)) (hv : v.isRef = true) (hw : w.isRef = true) (hc : XT.acmp cd v w = true) (pc' : Nat) (ho : 0 ≤ (pc : Int) + o) (hp : ((pc : Int) + o).toNat = pc') (K : Go k n0 Q kc ks T pc' Ls st) : Go k n0 Q kc ks T pc Ls (w :: v :: st) := K.of fun _ q => XT.acmpYes X.hh X.x rfl rfl (X.d hd) rfl hv hw hc ho hp q
theorem g_acmpN (X : Sd l Z n0 y B ml rt R k T h cc ss) {cd : ClassFile.ACond} {v w : Value} {o : Int} (hd : decode B pc = .ok (.if_acmp cd o, 3)) (hv : v.isRef = true) (hw : w.isRef = true) (hc : XT.acmp cd v w = false) (pc' : Nat) (hp : pc + 3 = pc') (K : Go k n0 Q kc ks T pc' Ls st) : Go k n0 Q kc ks T pc Ls (w :: v :: st) := by subst hp; exact K.of fun _ q => XT.acmpNo X.hh X.x rfl (X.d hd) rfl hv hw hc q
theorem a_eq {a b : Addr} : XT.acmp .eq (.ref a) (.ref b) = true ↔ a = b := by simp [XT.acmp]
theorem a_ne {a b : Addr} : XT.acmp .ne (.ref a) (.ref b) = true ↔ ¬ a = b := by simp [XT.acmp]
theorem g_acmp (X : Sd l Z n0 y B ml rt R k T h cc ss) {cd : ClassFile.ACond} {a b : Addr} {o : Int} {C : Prop} (hc : XT.acmp cd (.ref a) (.ref b) = true ↔ C) (hd : decode B pc = .ok (.if_acmp cd o, 3)) (pT : Nat) (ho : 0 ≤ (pc : Int) + o) (hT : ((pc : Int) + o).toNat = pT) (pF : Nat) (hF : pc + 3 = pF) (K1 : C → Go k n0 Q kc ks T pT Ls st) (K2 : ¬ C → Go k n0 Q kc ks T pF Ls st) : Go k n0 Q kc ks T pc Ls (.ref b :: .ref a :: st) := by
  cases q : XT.acmp cd (.ref a) (.ref b) with
  | true => exact g_acmpY X hd rfl rfl q pT ho hT (K1 (hc.mp q))
  | false => exact g_acmpN X hd rfl rfl q pF hF (K2 (fun z => by rw [hc.mpr z] at q; cases q))
theorem g_acmpNN (X : Sd l Z n0 y B ml rt R k T h cc ss) {cd : ClassFile.ACond} {a b : Addr} {o : Int} {C : Prop} (hc : XT.acmp cd (.ref a) (.ref b) = true ↔ ¬ C) (hd : decode B pc = .ok (.if_acmp cd o, 3)) (pT : Nat) (ho : 0 ≤ (pc : Int) + o) (hT : ((pc : Int) + o).toNat = pT) (pF : Nat) (hF : pc + 3 = pF) (K1 : C → Go k n0 Q kc ks T pF Ls st) (K2 : ¬ C → Go k n0 Q kc ks T pT Ls st) : Go k n0 Q kc ks T pc Ls (.ref b :: .ref a :: st) :=
  g_acmp X hc hd pT ho hT pF hF K2 fun q => K1 (Classical.not_not.mp q)
/-! constants of the pool -/
theorem g_ldcI (X : Sd l Z n0 y B ml rt R k T h cc ss) {i : Nat} {v : Int32} (w : (Jvm.Cond.constant y.cls i v).before a0 Z = true) (hd : decode B pc = .ok (.ldc i, 2)) (pc' : Nat) (hp : pc + 2 = pc') (K : Go k n0 Q kc ks T pc' Ls (.int v :: st)) : Go k n0 Q kc ks T pc Ls st := by
  subst hp; obtain ⟨⟨locs, Y, N⟩, eh, hx, hZ, hown, hby, -⟩ := X
  exact K.of fun _ q => Y.ldcI hx hown (mv hZ w) rfl (Jvm.hb hby hd) q
theorem g_ldc2J (X : Sd l Z n0 y B ml rt R k T h cc ss) {i : Nat} {v : Int64} (w : (Jvm.Cond.constantLong y.cls i v).before a0 Z = true) (hd : decode B pc = .ok (.ldc2_w i, 3)) (pc' : Nat) (hp : pc + 3 = pc') (K : Go k n0 Q kc ks T pc' Ls (.long v :: st)) : Go k n0 Q kc ks T pc Ls st := by
  subst hp; obtain ⟨⟨locs, Y, N⟩, eh, hx, hZ, hown, hby, -⟩ := X
  exact K.of fun _ q => Y.ldc2J hx hown (mv hZ w) rfl (Jvm.hb hby hd) q
/-! returns -/
theorem g_retI (X : Sd l Z n0 y B ml (some .int) R k T h cc ss) {z : Int32} (hd : decode B pc = .ok (.ireturn, 1)) (hk : cc ≤ kc) (hs : ss ≤ ks) (hQ : Q (some (.int z)) h) : Go k n0 Q kc ks T pc Ls [.int z] :=
  Go.end X hk hs (fun q => nomatch q) (fun fs hr => by obtain ⟨⟨locs, Y, N⟩, eh, hx, hZ, hown, hby, hml, hnm, hrt, hlk⟩ := X; exact Y.ireturnOut hx hrt rfl (Or.inl rfl) (Jvm.hb hby hd) hr) hQ
theorem g_retN (X : Sd l Z n0 y B ml rt R k T h cc ss) {z : Int32} {t : FieldType} (hrt : rt = some t) (ht : t = .boolean ∨ t = .byte ∨ t = .char ∨ t = .short) (hd : decode B pc = .ok (.ireturn, 1)) (hk : cc ≤ kc) (hs : ss ≤ ks) (hQ : Q (some (.int (nar t z))) h) : Go k n0 Q kc ks T pc Ls [.int z] :=
  Go.end X hk hs (fun q => by rw [hrt] at q; cases q) (fun fs hr => by obtain ⟨⟨locs, Y, N⟩, eh, hx, hZ, hown, hby, hml, hnm, hrt', hlk⟩ := X; exact retN Y hx (hrt'.trans hrt) ht (Jvm.hb hby hd) hr) hQ
theorem g_retZ (X : Sd l Z n0 y B ml (some .boolean) R k T h cc ss) {z : Int32} (hd : decode B pc = .ok (.ireturn, 1)) (hk : cc ≤ kc) (hs : ss ≤ ks) (hQ : Q (some (.int (z &&& 1))) h) : Go k n0 Q kc ks T pc Ls [.int z] := g_retN X rfl (Or.inl rfl) hd hk hs hQ
theorem g_retL (X : Sd l Z n0 y B ml (some .long) R k T h cc ss) {z : Int64} (hd : decode B pc = .ok (.lreturn, 1)) (hk : cc ≤ kc) (hs : ss ≤ ks) (hQ : Q (some (.long z)) h) : Go k n0 Q kc ks T pc Ls [.long z] :=
  Go.end X hk hs (fun q => nomatch q) (fun fs hr => by obtain ⟨⟨locs, Y, N⟩, eh, hx, hZ, hown, hby, hml, hnm, hrt, hlk⟩ := X; exact Y.lreturnOut hx hrt (Jvm.hb hby hd) hr) hQ
theorem g_retA (X : Sd l Z n0 y B ml rt R k T h cc ss) {v : Value} {t : FieldType} (hrt : rt = some t) (ht : t.isReference = true) (hv : v.isRef = true) (hd : decode B pc = .ok (.areturn, 1)) (hk : cc ≤ kc) (hs : ss ≤ ks) (hQ : Q (some v) h) : Go k n0 Q kc ks T pc Ls [v] :=
  Go.end X hk hs (fun q => by rw [hrt] at q; cases q) (fun fs hr => by obtain ⟨⟨locs, Y, N⟩, eh, hx, hZ, hown, hby, hml, hnm, hrt', hlk⟩ := X; exact Y.areturnOut hx hv (hrt'.trans hrt) ht (Jvm.hb hby hd) hr) hQ
theorem g_ret (X : Sd l Z n0 y B ml none R k T h cc ss) (hd : decode B pc = .ok (.return_, 1)) (hk : cc ≤ kc) (hs : ss ≤ ks) (hQ : Q none h) : Go k n0 Q kc ks T pc Ls [] :=
  Go.end X hk hs (fun _ => rfl) (fun fs hr => by obtain ⟨⟨locs, Y, N⟩, eh, hx, hZ, hown, hby, hml, hnm, hrt, hlk⟩ := X; exact Y.returnOut hx hrt (Jvm.hb hby hd) hr) hQ
/-! objects -/
theorem g_new (X : Sd l Z n0 y B ml rt R k T h cc ss) {i n : Nat} {C : String} (w : (Jvm.Cond.classLink y.cls i C).before a0 Z = true) (wi : (Jvm.Cond.instantiable C n).before a0 Z = true) (wz : (Jvm.Cond.initialized C).before a0 Z = true) (hd : decode B pc = .ok (.new i, 3)) (hc : cc + 1 ≤ R.cells) (hl : ss + n ≤ R.slots) (pc' : Nat) (hp : pc + 3 = pc')
    (K : ∀ T' h' a, Sd l Z n0 y B ml rt R k T' h' (cc + 1) (ss + n) → a = h.size → Ext h h' → Exa Z h' a C → (∀ {O nm d : String} {ty : FieldType}, Laid Z a0 C O nm d → parseFieldDescriptor d = some ty → Fld Z h' a O nm d (defaultValue ty)) → Go k n0 Q kc ks T' pc' Ls (.ref a :: st)) : Go k n0 Q kc ks T pc Ls st := by
  subst hp; obtain ⟨⟨locs, Y, N⟩, eh, hx, hZ, hown, hby, hr⟩ := X
  obtain ⟨T2, h2, X2, e2, E2, A2, D2, -, st2⟩ := newO Y hx hZ hown w wi wz eh (g := mkF (owm k) pc Ls st) rfl (Jvm.hb hby hd) hc hl
  exact (K T2 h2 h.size ⟨⟨locs, X2, N⟩, e2, hx, hZ, hown, hby, hr⟩ rfl E2 A2 D2).of st2
theorem g_getF (X : Sd l Z n0 y B ml rt R k T h cc ss) {i : Nat} {R0 O n d : String} (w : (Jvm.Cond.fieldLink y.cls i R0 n d).before a0 Z = true) (via : Via Z R0 O n d) {a : Addr} {v : Value} (F : Fld Z h a O n d v) (hd : decode B pc = .ok (.getfield i, 3)) (pc' : Nat) (hp : pc + 3 = pc')
    (K : ∀ T', Sd l Z n0 y B ml rt R k T' h cc ss → Go k n0 Q kc ks T' pc' Ls (v :: st)) : Go k n0 Q kc ks T pc Ls (.ref a :: st) := by
  subst hp; obtain ⟨⟨locs, Y, N⟩, eh, hx, hZ, hown, hby, hr⟩ := X
  obtain ⟨T2, X2, e2, st2⟩ := getF Y hx hZ hown (host := "") (Or.inl w) via eh F (g := mkF (owm k) pc Ls (.ref a :: st)) rfl rfl (Jvm.hb hby hd)
  exact (K T2 ⟨⟨locs, X2, N⟩, e2, hx, hZ, hown, hby, hr⟩).of st2
theorem g_getFH (X : Sd l Z n0 y B ml rt R k T h cc ss) {i : Nat} {R0 O n d host : String} (w : (Jvm.Cond.fieldLinkNest y.cls i R0 n d host).before a0 Z = true) (via : Via Z R0 O n d) {a : Addr} {v : Value} (F : Fld Z h a O n d v) (hd : decode B pc = .ok (.getfield i, 3)) (pc' : Nat) (hp : pc + 3 = pc')
    (K : ∀ T', Sd l Z n0 y B ml rt R k T' h cc ss → Go k n0 Q kc ks T' pc' Ls (v :: st)) : Go k n0 Q kc ks T pc Ls (.ref a :: st) := by
  subst hp; obtain ⟨⟨locs, Y, N⟩, eh, hx, hZ, hown, hby, hr⟩ := X
  obtain ⟨T2, X2, e2, st2⟩ := getF Y hx hZ hown (Or.inr w) via eh F (g := mkF (owm k) pc Ls (.ref a :: st)) rfl rfl (Jvm.hb hby hd)
  exact (K T2 ⟨⟨locs, X2, N⟩, e2, hx, hZ, hown, hby, hr⟩).of st2
theorem g_getS (X : Sd l Z n0 y B ml rt R k T h cc ss) {i : Nat} {R0 O n d : String} (w : (Jvm.Cond.fieldLink y.cls i R0 n d).before a0 Z = true) (via : Via Z R0 O n d) {v : Value} (F : Sta Z h O n d v) (hd : decode B pc = .ok (.getstatic i, 3)) (pc' : Nat) (hp : pc + 3 = pc')
    (K : ∀ T', Sd l Z n0 y B ml rt R k T' h cc ss → Go k n0 Q kc ks T' pc' Ls (v :: st)) : Go k n0 Q kc ks T pc Ls st := by
  subst hp; obtain ⟨⟨locs, Y, N⟩, eh, hx, hZ, hown, hby, hr⟩ := X
  obtain ⟨T2, X2, e2, st2⟩ := getS2 Y hx hZ hown (host := "") (Or.inl w) via eh F (g := mkF (owm k) pc Ls st) rfl (Jvm.hb hby hd)
  exact (K T2 ⟨⟨locs, X2, N⟩, e2, hx, hZ, hown, hby, hr⟩).of st2
/-- a final field in a constructor of its class -/
theorem g_putFin (X : Sd l Z n0 y B ml rt R k T h cc ss) {i kk : Nat} {O n d C : String} (w : (Jvm.Cond.fieldLink y.cls i O n d).before a0 Z = true) {a : Addr} {v old : Value} (F : Fld Z h a O n d old) (E : Exa Z h a C) (L : (Jvm.Cond.laysFinal C O n d).before a0 Z = true) (ho : y.cls = O) (hi : y.name = "<init>") (wi : (Jvm.Cond.instantiable C kk).before a0 Z = true)
    (g0 : n0 ≤ a) (ty : FieldType) (hty : parseFieldDescriptor d = some ty) (hn : narrow ty v = v) (hf : fits ty v = true) (hd : decode B pc = .ok (.putfield i, 3)) (pc' : Nat) (hp : pc + 3 = pc')
    (K : ∀ T' h', Sd l Z n0 y B ml rt R k T' h' cc ss → Wr h h' a (Jvm.RoadKit.slotOf Z O n d) v → Go k n0 Q kc ks T' pc' Ls st) : Go k n0 Q kc ks T pc Ls (v :: .ref a :: st) := by
  subst hp; obtain ⟨⟨locs, Y, N⟩, eh, hx, hZ, hown, hby, hml, hnm, hr⟩ := X
  obtain ⟨T2, h2, X2, e2, W2, st2⟩ := putF Y hx hZ hown (host := "") (Or.inl w) Via.refl eh F E (Or.inr ⟨L, ho, hnm.trans hi⟩) wi hty hn hf (g := mkF (owm k) pc Ls (v :: .ref a :: st)) rfl rfl (Jvm.hb hby hd)
  exact (K T2 h2 ⟨⟨_, X2, Fr.snoc X2 N g0⟩, e2, hx, hZ, hown, hby, hml, hnm, hr⟩ W2).of st2
theorem g_putF (X : Sd l Z n0 y B ml rt R k T h cc ss) {i kk : Nat} {R0 O n d C : String} (w : (Jvm.Cond.fieldLink y.cls i R0 n d).before a0 Z = true) (via : Via Z R0 O n d) {a : Addr} {v old : Value} (F : Fld Z h a O n d old) (E : Exa Z h a C) (L : (Jvm.Cond.lays C O n d).before a0 Z = true) (wi : (Jvm.Cond.instantiable C kk).before a0 Z = true)
    (g0 : n0 ≤ a) (ty : FieldType) (hty : parseFieldDescriptor d = some ty) (hn : narrow ty v = v) (hf : fits ty v = true) (hd : decode B pc = .ok (.putfield i, 3)) (pc' : Nat) (hp : pc + 3 = pc')
    (K : ∀ T' h', Sd l Z n0 y B ml rt R k T' h' cc ss → Wr h h' a (Jvm.RoadKit.slotOf Z O n d) v → Go k n0 Q kc ks T' pc' Ls st) : Go k n0 Q kc ks T pc Ls (v :: .ref a :: st) := by
  subst hp; obtain ⟨⟨locs, Y, N⟩, eh, hx, hZ, hown, hby, hr⟩ := X
  obtain ⟨T2, h2, X2, e2, W2, st2⟩ := putF Y hx hZ hown (host := "") (Or.inl w) via eh F E (Or.inl L) wi hty hn hf (g := mkF (owm k) pc Ls (v :: .ref a :: st)) rfl rfl (Jvm.hb hby hd)
  exact (K T2 h2 ⟨⟨_, X2, Fr.snoc X2 N g0⟩, e2, hx, hZ, hown, hby, hr⟩ W2).of st2
theorem g_putFinN (X : Sd l Z n0 y B ml rt R k T h cc ss) {i kk : Nat} {O n d C : String} (w : (Jvm.Cond.fieldLink y.cls i O n d).before a0 Z = true) {a : Addr} {v old : Value} (v' : Value) (F : Fld Z h a O n d old) (E : Exa Z h a C) (L : (Jvm.Cond.laysFinal C O n d).before a0 Z = true) (ho : y.cls = O) (hi : y.name = "<init>") (wi : (Jvm.Cond.instantiable C kk).before a0 Z = true)
    (g0 : n0 ≤ a) (ty : FieldType) (hty : parseFieldDescriptor d = some ty) (hn : narrow ty v = v') (hf : fits ty v' = true) (hd : decode B pc = .ok (.putfield i, 3)) (pc' : Nat) (hp : pc + 3 = pc')
    (K : ∀ T' h', Sd l Z n0 y B ml rt R k T' h' cc ss → Wr h h' a (Jvm.RoadKit.slotOf Z O n d) v' → Go k n0 Q kc ks T' pc' Ls st) : Go k n0 Q kc ks T pc Ls (v :: .ref a :: st) := by
  subst hp; obtain ⟨⟨locs, Y, N⟩, eh, hx, hZ, hown, hby, hml, hnm, hr⟩ := X
  obtain ⟨T2, h2, X2, e2, W2, st2⟩ := putFN Y hx hZ hown w Via.refl eh F E (Or.inr ⟨L, ho, hnm.trans hi⟩) wi hty hn hf (g := mkF (owm k) pc Ls (v :: .ref a :: st)) rfl rfl (Jvm.hb hby hd)
  exact (K T2 h2 ⟨⟨_, X2, Fr.snoc X2 N g0⟩, e2, hx, hZ, hown, hby, hml, hnm, hr⟩ W2).of st2
theorem g_initO (X : Sd l Z n0 y B ml rt R k T h cc ss) {i : Nat} {a : Addr} (w1 : (Jvm.Cond.methodLink y.cls i Lib.objectInit).before a0 Z = true) (w2 : (Jvm.Cond.instanceMethod Lib.objectInit).before a0 Z = true) (w3 : (Jvm.Cond.code Lib.objectInit ⟨#[0xb1]⟩ 1 none).before a0 Z = true) (hsz : Ls.size = ml) (hf : 1 ≤ R.frames) (hl : (st.map fun v => v.category).sum + 12 ≤ R.locals) (hd : decode B pc = .ok (.invokespecial i, 3)) (pc' : Nat) (hp : pc + 3 = pc')
    (K : ∀ T', Sd l Z n0 y B ml rt R k T' h cc ss → Go k n0 Q kc ks T' pc' Ls st) : Go k n0 Q kc ks T pc Ls (.ref a :: st) := by
  subst hp; obtain ⟨⟨locs, Y, N⟩, eh, hx, hZ, hown, hby, hml, hr⟩ := X
  obtain ⟨T2, X2, e2, st2⟩ := initO Y hx hZ hown w1 w2 w3 eh (g := mkF (owm k) pc Ls (.ref a :: st)) rfl (hsz.trans hml.symm) rfl (Jvm.hb hby hd) hf (W := (st.map fun v => v.category).sum) (by show 2 * 0 + _ ≤ _; omega) hl
  exact (K T2 ⟨⟨locs, X2, N⟩, e2, hx, hZ, hown, hby, hml, hr⟩).of st2
/-! calls -/
theorem g_callS (X : Sd l Z n0 y B ml rt R k T h cc ss) {i : Nat} {z : MethodName} {Bz : ByteArray} {mz : Nat} {rz : Option FieldType} {rm : Room} {Qz : Option Value → Heap → Prop} (argsL rest : List Value) {ps : List FieldType} {pr : Option FieldType} (M : Met l Z n0 z Bz mz rz [] rm argsL.toArray h Qz rm.cells rm.slots)
    (w1 : (Jvm.Cond.methodLink y.cls i z).before a0 Z = true) (w2 : (Jvm.Cond.static z).before a0 Z = true) (w3 : (Jvm.Cond.initialized z.cls).before a0 Z = true) (w4 : (Jvm.Cond.code z Bz mz rz).before a0 Z = true) (hy : z.cls ≠ "java/lang/invoke/MethodHandle" ∧ z.cls ≠ "java/lang/invoke/VarHandle") (pd : parseMethodDescriptor z.desc = some ⟨ps, pr⟩) (hlen : argsL.length = ps.length)
    (hsz : Ls.size = ml) (hf : rm.frames + 1 ≤ R.frames) (hlo : (rest.map fun v => v.category).sum + (mz + 11) + rm.locals ≤ R.locals) (hc : cc + rm.cells ≤ R.cells) (hs : ss + rm.slots ≤ R.slots) (hd : decode B pc = .ok (.invokestatic i, 3)) (hst : st = argsL.reverse ++ rest) (pc' : Nat) (hp : pc + 3 = pc')
    (K : ∀ v T' h', Sd l Z n0 y B ml rt R k T' h' (cc + rm.cells) (ss + rm.slots) → Qz v h' → Go k n0 Q kc ks T' pc' Ls (v.toList ++ rest)) : Go k n0 Q kc ks T pc Ls st := by
  subst hp; obtain ⟨⟨locs, Y, N⟩, eh, hx, hZ, hown, hby, hml, hr⟩ := X
  obtain ⟨v, _, ⟨T', L', c', n'⟩, -, X', ⟨Lc, hQ, l1, y1, z1⟩, stp⟩ := Jvm.LawKit.callS Y hx (y := z) hown (mvT hZ w1) (mvT hZ w2) (mvT hZ w3) (mvT hZ w4) hy (backOf (W := (rest.map fun v => v.category).sum) (Q := fun v h L => Fr n0 L ∧ Qz v h) M hZ w4 w3 hf hlo) (g := mkF (owm k) pc Ls st) rfl (hsz.trans hml.symm) (argsL := argsL) (rest := rest) (lenOf pd hlen) hst (by show 2 * 0 + _ ≤ _; omega) (Jvm.hb hby hd) (fun _ _ => ⟨rfl, eh, hc, hs⟩)
  dsimp only [Pt.U, Pt.locs, Pt.cells, Pt.slots] at X' l1 y1 z1 stp hQ
  subst l1 y1 z1
  exact (K v T' _ ⟨⟨_, X', N.app hQ.1⟩, rfl, hx, hZ, hown, hby, hml, hr⟩ hQ.2).of stp
theorem g_callI (X : Sd l Z n0 y B ml rt R k T h cc ss) {i : Nat} {z : MethodName} {Bz : ByteArray} {mz : Nat} {rm : Room} {Qz : Option Value → Heap → Prop} (a : Addr) (argsL rest : List Value) {ps : List FieldType} {pr : Option FieldType} (M : Met l Z n0 z Bz mz none [] rm (Value.ref a :: argsL).toArray h Qz rm.cells rm.slots) (hi : z.name = "<init>")
    (w1 : (Jvm.Cond.methodLink y.cls i z).before a0 Z = true) (w2 : (Jvm.Cond.instanceMethod z).before a0 Z = true) (w3 : (Jvm.Cond.initialized z.cls).before a0 Z = true) (w4 : (Jvm.Cond.code z Bz mz none).before a0 Z = true) (hy : z.cls ≠ "java/lang/invoke/MethodHandle" ∧ z.cls ≠ "java/lang/invoke/VarHandle") (pd : parseMethodDescriptor z.desc = some ⟨ps, pr⟩) (hlen : argsL.length = ps.length)
    (hsz : Ls.size = ml) (hf : rm.frames + 1 ≤ R.frames) (hlo : (rest.map fun v => v.category).sum + (mz + 11) + rm.locals ≤ R.locals) (hc : cc + rm.cells ≤ R.cells) (hs : ss + rm.slots ≤ R.slots) (hd : decode B pc = .ok (.invokespecial i, 3)) (hst : st = argsL.reverse ++ .ref a :: rest) (pc' : Nat) (hp : pc + 3 = pc')
    (K : ∀ v T' h', Sd l Z n0 y B ml rt R k T' h' (cc + rm.cells) (ss + rm.slots) → Qz v h' → Go k n0 Q kc ks T' pc' Ls (v.toList ++ rest)) : Go k n0 Q kc ks T pc Ls st := by
  subst hp; obtain ⟨⟨locs, Y, N⟩, eh, hx, hZ, hown, hby, hml, hr⟩ := X
  obtain ⟨v, _, ⟨T', L', c', n'⟩, -, X', ⟨Lc, hQ, l1, y1, z1⟩, stp⟩ := Y.specialBack hx (y := z) hi hown (mvT hZ w1) (mvT hZ w2) (mvT hZ w4) hy (backOf (W := (rest.map fun v => v.category).sum) (Q := fun v h L => Fr n0 L ∧ Qz v h) M hZ w4 w3 hf hlo) (g := mkF (owm k) pc Ls st) rfl (hsz.trans hml.symm) (Steps.refl _) (a := a) (argsL := argsL) (rest := rest) (lenOf pd hlen) hst (by show 2 * 0 + _ ≤ _; omega) (Jvm.hb hby hd) (fun _ _ => ⟨rfl, eh, hc, hs⟩)
  dsimp only [Pt.U, Pt.locs, Pt.cells, Pt.slots] at X' l1 y1 z1 stp hQ
  subst l1 y1 z1
  exact (K v T' _ ⟨⟨_, X', N.app hQ.1⟩, rfl, hx, hZ, hown, hby, hml, hr⟩ hQ.2).of fun _ q => stp.trans q
/-- an instance method, found where it is named -/
theorem g_callV (X : Sd l Z n0 y B ml rt R k T h cc ss) {i : Nat} {z : MethodName} {C : String} {Bz : ByteArray} {mz : Nat} {rz : Option FieldType} {rm : Room} {Qz : Option Value → Heap → Prop} (a : Addr) (argsL rest : List Value) {ps : List FieldType} {pr : Option FieldType} (M : Met l Z n0 z Bz mz rz [] rm (Value.ref a :: argsL).toArray h Qz rm.cells rm.slots) (E : Exa Z h a C)
    (w1 : (Jvm.Cond.methodLink y.cls i z).before a0 Z = true) (w2 : (Jvm.Cond.declares z).before a0 Z = true) (w5 : (Jvm.Cond.selects C z z).before a0 Z = true) (w6 : (Jvm.Cond.instanceMethod z).before a0 Z = true) (w3 : (Jvm.Cond.initialized z.cls).before a0 Z = true) (w4 : (Jvm.Cond.code z Bz mz rz).before a0 Z = true) (hy : z.cls ≠ "java/lang/invoke/MethodHandle" ∧ z.cls ≠ "java/lang/invoke/VarHandle") (pd : parseMethodDescriptor z.desc = some ⟨ps, pr⟩) (hlen : argsL.length = ps.length)
    (hsz : Ls.size = ml) (hf : rm.frames + 1 ≤ R.frames) (hlo : (rest.map fun v => v.category).sum + (mz + 11) + rm.locals ≤ R.locals) (hc : cc + rm.cells ≤ R.cells) (hs : ss + rm.slots ≤ R.slots) (hd : decode B pc = .ok (.invokevirtual i, 3)) (hst : st = argsL.reverse ++ .ref a :: rest) (pc' : Nat) (hp : pc + 3 = pc')
    (K : ∀ v T' h', Sd l Z n0 y B ml rt R k T' h' (cc + rm.cells) (ss + rm.slots) → Qz v h' → Go k n0 Q kc ks T' pc' Ls (v.toList ++ rest)) : Go k n0 Q kc ks T pc Ls st := by
  subst hp; obtain ⟨⟨locs, Y, N⟩, eh, hx, hZ, hown, hby, hml, hr⟩ := X
  obtain ⟨cq, kq, qa, qb, qc⟩ := isOf hZ eh E
  obtain ⟨v, _, ⟨T', L', c', n'⟩, -, X', ⟨Lc, hQ, l1, y1, z1⟩, stp⟩ := Y.virtualBack hx (y := z) (z := z) hown (mvT hZ w1) (mvT hZ w2) (notFace_of_selects (args := #[]) (mvT hZ w5)) (mvT hZ w5) (mvT hZ w6) hy (backOf (W := (rest.map fun v => v.category).sum) (Q := fun v h L => Fr n0 L ∧ Qz v h) M hZ w4 w3 hf hlo) qa qc (g := mkF (owm k) pc Ls st) rfl (hsz.trans hml.symm) (Steps.refl _) (argsL := argsL) (rest := rest) (lenOf pd hlen) hst (by show 2 * 0 + _ ≤ _; omega) (Jvm.hb hby hd) (fun _ _ => ⟨rfl, eh, hc, hs⟩)
  dsimp only [Pt.U, Pt.locs, Pt.cells, Pt.slots] at X' l1 y1 z1 stp hQ
  subst l1 y1 z1
  exact (K v T' _ ⟨⟨_, X', N.app hQ.1⟩, rfl, hx, hZ, hown, hby, hml, hr⟩ hQ.2).of fun _ q => stp.trans q
/-- a private instance method by invokevirtual -/
theorem g_callP (X : Sd l Z n0 y B ml rt R k T h cc ss) {i : Nat} {z : MethodName} {C : String} {Bz : ByteArray} {mz : Nat} {rz : Option FieldType} {rm : Room} {Qz : Option Value → Heap → Prop} (a : Addr) (argsL rest : List Value) {ps : List FieldType} {pr : Option FieldType} (M : Met l Z n0 z Bz mz rz [] rm (Value.ref a :: argsL).toArray h Qz rm.cells rm.slots) (E : Exa Z h a C)
    (w1 : (Jvm.Cond.methodLink y.cls i z).before a0 Z = true) (w2 : (Jvm.Cond.privateMethod z).before a0 Z = true) (w5 : (Jvm.Cond.selects z.cls z z).before a0 Z = true) (w6 : (Jvm.Cond.instanceMethod z).before a0 Z = true) (w3 : (Jvm.Cond.initialized z.cls).before a0 Z = true) (w4 : (Jvm.Cond.code z Bz mz rz).before a0 Z = true) (hy : z.cls ≠ "java/lang/invoke/MethodHandle" ∧ z.cls ≠ "java/lang/invoke/VarHandle") (pd : parseMethodDescriptor z.desc = some ⟨ps, pr⟩) (hlen : argsL.length = ps.length)
    (hsz : Ls.size = ml) (hf : rm.frames + 1 ≤ R.frames) (hlo : (rest.map fun v => v.category).sum + (mz + 11) + rm.locals ≤ R.locals) (hc : cc + rm.cells ≤ R.cells) (hs : ss + rm.slots ≤ R.slots) (hd : decode B pc = .ok (.invokevirtual i, 3)) (hst : st = argsL.reverse ++ .ref a :: rest) (pc' : Nat) (hp : pc + 3 = pc')
    (K : ∀ v T' h', Sd l Z n0 y B ml rt R k T' h' (cc + rm.cells) (ss + rm.slots) → Qz v h' → Go k n0 Q kc ks T' pc' Ls (v.toList ++ rest)) : Go k n0 Q kc ks T pc Ls st := by
  subst hp; obtain ⟨⟨locs, Y, N⟩, eh, hx, hZ, hown, hby, hml, hr⟩ := X
  obtain ⟨cl, qa, qb⟩ := E.cell
  obtain ⟨v, _, ⟨T', L', c', n'⟩, -, X', ⟨Lc, hQ, l1, y1, z1⟩, stp⟩ := Y.privateBack hx (y := z) hown (mvT hZ w1) (mvT hZ w6) (mvT hZ w5) (Cond.privateMethod_at (mvP (args := #[]) hZ w2)) (mvT hZ w4) hy (backOf (W := (rest.map fun v => v.category).sum) (Q := fun v h L => Fr n0 L ∧ Qz v h) M hZ w4 w3 hf hlo) (g := mkF (owm k) pc Ls st) rfl (hsz.trans hml.symm) (Steps.refl _) (by rw [eh]; exact qa) qb (argsL := argsL) (rest := rest) (lenOf pd hlen) hst (by show 2 * 0 + _ ≤ _; omega) (Jvm.hb hby hd) (fun _ _ => ⟨rfl, eh, hc, hs⟩)
  dsimp only [Pt.U, Pt.locs, Pt.cells, Pt.slots] at X' l1 y1 z1 stp hQ
  subst l1 y1 z1
  exact (K v T' _ ⟨⟨_, X', N.app hQ.1⟩, rfl, hx, hZ, hown, hby, hml, hr⟩ hQ.2).of fun _ q => stp.trans q
/-! arrays: n places, f says what each holds -/
def AI (Z : State) (h : Heap) (a : Addr) (ty : FieldType) (n : Nat) (f : Nat → Value) : Prop := ∃ c : Cell, Arr Z h a c ty ∧ c.slots.size = n ∧ n < 2147483648 ∧ ∀ i, i < n → c.slots[i]? = some (f i)
theorem AI.lt {a : Addr} {ty : FieldType} {n : Nat} {f : Nat → Value} (A : AI Z h a ty n f) : a < h.size := by obtain ⟨c, A, -⟩ := A; exact A.lt
theorem AI.ext {h' : Heap} {a : Addr} {ty : FieldType} {n : Nat} {f : Nat → Value} (A : AI Z h a ty n f) (E : Ext h h') : AI Z h' a ty n f := by obtain ⟨c, A, r⟩ := A; exact ⟨c, A.ext E, r⟩
theorem AI.other {h' : Heap} {a b : Addr} {sl : Nat} {v : Value} {ty : FieldType} {n : Nat} {f : Nat → Value} (A : AI Z h a ty n f) (W : Wr h h' b sl v) (q : a ≠ b) : AI Z h' a ty n f := by obtain ⟨c, A, r⟩ := A; exact ⟨c, A.other W q, r⟩
theorem AI.keep {h' : Heap} {ws : List Addr} {a : Addr} {ty : FieldType} {n : Nat} {f : Nat → Value} (A : AI Z h a ty n f) (K : Keep h h' ws) (q : a ∉ ws) : AI Z h' a ty n f := by obtain ⟨c, A, r⟩ := A; exact ⟨c, ⟨K.2.1 a c A.1 q, A.2⟩, r⟩
theorem AI.to {a : Addr} {ty : FieldType} {n : Nat} {f g : Nat → Value} (A : AI Z h a ty n f) (e : ∀ i, i < n → f i = g i) : AI Z h a ty n g := by obtain ⟨c, A, r1, r2, r3⟩ := A; exact ⟨c, A, r1, r2, fun i hi => by rw [r3 i hi, e i hi]⟩
theorem AI.set {h' : Heap} {a : Addr} {ty : FieldType} {n i : Nat} {v : Value} {f : Nat → Value} (A : AI Z h a ty n f) (W : Wr h h' a i v) : AI Z h' a ty n (fun j => if j = i then v else f j) := by
  obtain ⟨c, A, r1, r2, r3⟩ := A
  refine ⟨_, A.same W, by rw [sz_set]; exact r1, r2, fun j hj => ?_⟩
  obtain ⟨c', q1, -, q3, -⟩ := W
  cases A.1.symm.trans q1
  by_cases e : j = i
  · subst e; simp [Cell.setSlot, r1, hj]
  · have e' : ¬ i = j := fun z => e z.symm
    simp [Cell.setSlot, Array.getElem?_setIfInBounds, e', e, r3 j hj]
theorem AI.new {a : Addr} {ty : FieldType} {cA : ClassId} {m : Int32} (A : Arr Z h a (newA cA ty m) ty) (q : ¬ m < 0) {n : Nat} (e : m.toInt = n) : AI Z h a ty n (fun _ => defaultValue ty) := by
  have e1 : m.toNatClampNeg = n := by simp [Int32.toNatClampNeg, e]
  have e2 : n < 2147483648 := by have := m.toInt_lt; omega
  refine ⟨_, A, by rw [sz_new]; exact e1, e2, fun i hi => ?_⟩
  simp [newA, e1, hi]
theorem ix_of {j : Int32} {i n : Nat} (hj : j.toInt = i) (hi : i < n) : ¬ (j < 0 ∨ n ≤ j.toNatClampNeg) ∧ j.toNatClampNeg = i := by
  have e1 : j.toNatClampNeg = i := by simp [Int32.toNatClampNeg, hj]
  refine ⟨fun q => ?_, e1⟩
  rcases q with q | q
  · rw [Int32.lt_iff_toInt_lt, hj] at q; simp at q; omega
  · omega
theorem g_iaload (X : Sd l Z n0 y B ml rt R k T h cc ss) {a : Addr} {n : Nat} {f : Nat → Value} (A : AI Z h a .int n f) {j : Int32} (i : Nat) (hj : j.toInt = i) (hi : i < n) (v : Value) (hv : f i = v) (hd : decode B pc = .ok (.iaload, 1)) (pc' : Nat) (hp : pc + 1 = pc') (K : Go k n0 Q kc ks T pc' Ls (v :: st)) : Go k n0 Q kc ks T pc Ls (.int j :: .ref a :: st) := by
  subst hp hv; obtain ⟨⟨locs, Y, N⟩, eh, hx, hZ, hown, hby, hr⟩ := X
  obtain ⟨c, A, r1, r2, r3⟩ := A; obtain ⟨q1, q2⟩ := ix_of hj hi
  exact K.of fun t q => Y.iaload hx (by rw [eh]; exact A.1) (State.isArrayOf_alike hZ.alike A.2.1) A.2.2 (by rw [r1]; exact q1) (by rw [q2]; exact r3 i hi) (g := mkF (owm k) pc Ls (.int j :: .ref a :: st)) rfl rfl (Jvm.hb hby hd) t q
theorem g_baload (X : Sd l Z n0 y B ml rt R k T h cc ss) {a : Addr} {n : Nat} {f : Nat → Value} (A : AI Z h a .byte n f) {j : Int32} (i : Nat) (hj : j.toInt = i) (hi : i < n) (v : Value) (hv : f i = v) (hd : decode B pc = .ok (.baload, 1)) (pc' : Nat) (hp : pc + 1 = pc') (K : Go k n0 Q kc ks T pc' Ls (v :: st)) : Go k n0 Q kc ks T pc Ls (.int j :: .ref a :: st) := by
  subst hp hv; obtain ⟨⟨locs, Y, N⟩, eh, hx, hZ, hown, hby, hr⟩ := X
  obtain ⟨c, A, r1, r2, r3⟩ := A; obtain ⟨q1, q2⟩ := ix_of hj hi
  exact K.of fun t q => Y.baloadBytes hx (by rw [eh]; exact A.1) (State.isArrayOf_alike hZ.alike A.2.1) A.2.2 (by rw [r1]; exact q1) (by rw [q2]; exact r3 i hi) (g := mkF (owm k) pc Ls (.int j :: .ref a :: st)) rfl rfl (Jvm.hb hby hd) t q
theorem g_laload (X : Sd l Z n0 y B ml rt R k T h cc ss) {a : Addr} {n : Nat} {f : Nat → Value} (A : AI Z h a .long n f) {j : Int32} (i : Nat) (hj : j.toInt = i) (hi : i < n) (v : Value) (hv : f i = v) (hd : decode B pc = .ok (.laload, 1)) (pc' : Nat) (hp : pc + 1 = pc') (K : Go k n0 Q kc ks T pc' Ls (v :: st)) : Go k n0 Q kc ks T pc Ls (.int j :: .ref a :: st) := by
  subst hp hv; obtain ⟨⟨locs, Y, N⟩, eh, hx, hZ, hown, hby, hr⟩ := X
  obtain ⟨c, A, r1, r2, r3⟩ := A; obtain ⟨q1, q2⟩ := ix_of hj hi
  exact K.of fun t q => Y.laload hx (by rw [eh]; exact A.1) (State.isArrayOf_alike hZ.alike A.2.1) A.2.2 (by rw [r1]; exact q1) (by rw [q2]; exact r3 i hi) (g := mkF (owm k) pc Ls (.int j :: .ref a :: st)) rfl rfl (Jvm.hb hby hd) t q
theorem g_aaload (X : Sd l Z n0 y B ml rt R k T h cc ss) {a : Addr} {ty : FieldType} {n : Nat} {f : Nat → Value} (A : AI Z h a ty n f) (hty : ty.isReference = true) {j : Int32} (i : Nat) (hj : j.toInt = i) (hi : i < n) (v : Value) (hv : f i = v) (hd : decode B pc = .ok (.aaload, 1)) (pc' : Nat) (hp : pc + 1 = pc') (K : Go k n0 Q kc ks T pc' Ls (v :: st)) : Go k n0 Q kc ks T pc Ls (.int j :: .ref a :: st) := by
  subst hp hv; obtain ⟨⟨locs, Y, N⟩, eh, hx, hZ, hown, hby, hr⟩ := X
  obtain ⟨c, A, r1, r2, r3⟩ := A; obtain ⟨q1, q2⟩ := ix_of hj hi
  exact K.of fun t q => Y.aaload hx (by rw [eh]; exact A.1) (State.isArrayOf_alike hZ.alike A.2.1) hty A.2.2 (by rw [r1]; exact q1) (by rw [q2]; exact r3 i hi) (g := mkF (owm k) pc Ls (.int j :: .ref a :: st)) rfl rfl (Jvm.hb hby hd) t q
theorem g_alen (X : Sd l Z n0 y B ml rt R k T h cc ss) {a : Addr} {ty : FieldType} {n : Nat} {f : Nat → Value} (A : AI Z h a ty n f) (v : Int32) (hv : v.toInt = n) (hd : decode B pc = .ok (.arraylength, 1)) (pc' : Nat) (hp : pc + 1 = pc') (K : Go k n0 Q kc ks T pc' Ls (.int v :: st)) : Go k n0 Q kc ks T pc Ls (.ref a :: st) := by
  subst hp; obtain ⟨⟨locs, Y, N⟩, eh, hx, hZ, hown, hby, hr⟩ := X
  obtain ⟨c, A, r1, r2, r3⟩ := A
  have ev : c.slots.size.toInt32 = v := by
    rw [r1]; apply Int32.toInt_inj.mp; rw [hv]
    show (Int32.ofNat n).toInt = _
    rw [Int32.toInt_ofNat_of_lt (by omega)]
  exact K.of fun t q => Y.arraylength hx (by rw [eh]; exact A.1) (State.isArrayOf_alike hZ.alike A.2.1) (g := mkF (owm k) pc Ls (.ref a :: st)) rfl rfl (Jvm.hb hby hd) t (by rw [ev]; exact q)
theorem g_newP (X : Sd l Z n0 y B ml rt R k T h cc ss) {aty : ArrayType} (w : (Jvm.Cond.arrayClass (newarray.typeOf aty)).before a0 Z = true) {m : Int32} (n cap : Nat) (hm : m.toInt = n) (hn : n ≤ cap) (hb : cap * 8 ≤ 536870912) (hd : decode B pc = .ok (.newarray aty, 2)) (hc : cc + 1 ≤ R.cells) (hl : ss + cap ≤ R.slots) (pc' : Nat) (hp : pc + 2 = pc')
    (K : ∀ T' h' a, Sd l Z n0 y B ml rt R k T' h' (cc + 1) (ss + cap) → a = h.size → Ext h h' → AI Z h' a (newarray.typeOf aty) n (fun _ => defaultValue (newarray.typeOf aty)) → Go k n0 Q kc ks T' pc' Ls (.ref a :: st)) : Go k n0 Q kc ks T pc Ls (.int m :: st) := by
  subst hp; obtain ⟨⟨locs, Y, N⟩, eh, hx, hZ, hown, hby, hr⟩ := X
  have q : ¬ m < 0 := by
    have e : (0 : Int32).toInt = 0 := by decide
    rw [Int32.lt_iff_toInt_lt, hm]; omega
  have e1 : m.toNatClampNeg = n := by simp [Int32.toNatClampNeg, hm]
  obtain ⟨T2, h2, cA, X2, e2, E2, A2, st2⟩ := newP Y hx hZ w eh (g := mkF (owm k) pc Ls (.int m :: st)) rfl (Jvm.hb hby hd) rfl q (cap := cap) (by omega) hb hc hl
  exact (K T2 h2 h.size ⟨⟨locs, X2, N⟩, e2, hx, hZ, hown, hby, hr⟩ rfl E2 (AI.new A2 q hm)).of st2
theorem g_iastore (X : Sd l Z n0 y B ml rt R k T h cc ss) {a : Addr} {n : Nat} {f : Nat → Value} (A : AI Z h a .int n f) {j x : Int32} (i : Nat) (hj : j.toInt = i) (hi : i < n) (g0 : n0 ≤ a) (hd : decode B pc = .ok (.iastore, 1)) (pc' : Nat) (hp : pc + 1 = pc')
    (K : ∀ T' h', Sd l Z n0 y B ml rt R k T' h' cc ss → Wr h h' a i (.int x) → Go k n0 Q kc ks T' pc' Ls st) : Go k n0 Q kc ks T pc Ls (.int x :: .int j :: .ref a :: st) := by
  subst hp; obtain ⟨⟨locs, Y, N⟩, eh, hx, hZ, hown, hby, hr⟩ := X
  obtain ⟨c, A, r1, r2, r3⟩ := A; obtain ⟨q1, q2⟩ := ix_of hj hi
  obtain ⟨T2, h2, X2, e2, W2, st2⟩ := stI Y hx hZ eh A (j := j) (x := x) (by rw [r1]; exact q1) (g := mkF (owm k) pc Ls (.int x :: .int j :: .ref a :: st)) rfl rfl (Jvm.hb hby hd)
  rw [q2] at X2 W2
  exact (K T2 h2 ⟨⟨_, X2, Fr.snoc X2 N g0⟩, e2, hx, hZ, hown, hby, hr⟩ W2).of st2
theorem g_lastore (X : Sd l Z n0 y B ml rt R k T h cc ss) {a : Addr} {n : Nat} {f : Nat → Value} (A : AI Z h a .long n f) {j : Int32} {x : Int64} (i : Nat) (hj : j.toInt = i) (hi : i < n) (g0 : n0 ≤ a) (hd : decode B pc = .ok (.lastore, 1)) (pc' : Nat) (hp : pc + 1 = pc')
    (K : ∀ T' h', Sd l Z n0 y B ml rt R k T' h' cc ss → Wr h h' a i (.long x) → Go k n0 Q kc ks T' pc' Ls st) : Go k n0 Q kc ks T pc Ls (.long x :: .int j :: .ref a :: st) := by
  subst hp; obtain ⟨⟨locs, Y, N⟩, eh, hx, hZ, hown, hby, hr⟩ := X
  obtain ⟨c, A, r1, r2, r3⟩ := A; obtain ⟨q1, q2⟩ := ix_of hj hi
  obtain ⟨T2, h2, X2, e2, W2, st2⟩ := stJ Y hx hZ eh A (j := j) (x := x) (by rw [r1]; exact q1) (g := mkF (owm k) pc Ls (.long x :: .int j :: .ref a :: st)) rfl rfl (Jvm.hb hby hd)
  rw [q2] at X2 W2
  exact (K T2 h2 ⟨⟨_, X2, Fr.snoc X2 N g0⟩, e2, hx, hZ, hown, hby, hr⟩ W2).of st2
theorem g_bastore (X : Sd l Z n0 y B ml rt R k T h cc ss) {a : Addr} {n : Nat} {f : Nat → Value} (A : AI Z h a .byte n f) {j x : Int32} (i : Nat) (hj : j.toInt = i) (hi : i < n) (g0 : n0 ≤ a) (hd : decode B pc = .ok (.bastore, 1)) (pc' : Nat) (hp : pc + 1 = pc')
    (K : ∀ T' h', Sd l Z n0 y B ml rt R k T' h' cc ss → Wr h h' a i (.int x.toInt8.toInt32) → Go k n0 Q kc ks T' pc' Ls st) : Go k n0 Q kc ks T pc Ls (.int x :: .int j :: .ref a :: st) := by
  subst hp; obtain ⟨⟨locs, Y, N⟩, eh, hx, hZ, hown, hby, hr⟩ := X
  obtain ⟨c, A, r1, r2, r3⟩ := A; obtain ⟨q1, q2⟩ := ix_of hj hi
  obtain ⟨T2, h2, X2, e2, W2, st2⟩ := stB Y hx hZ eh A (j := j) (x := x) (by rw [r1]; exact q1) (g := mkF (owm k) pc Ls (.int x :: .int j :: .ref a :: st)) rfl rfl (Jvm.hb hby hd)
  rw [q2] at X2 W2
  exact (K T2 h2 ⟨⟨_, X2, Fr.snoc X2 N g0⟩, e2, hx, hZ, hown, hby, hr⟩ W2).of st2
/-! arrays of references of the class C -/
def AR (Z : State) (h : Heap) (a : Addr) (C : String) (n : Nat) (f : Nat → Value) : Prop := ∃ c : Cell, Arr Z h a c (.object C) ∧ Ovr Z c.cls C ∧ c.slots.size = n ∧ n < 2147483648 ∧ ∀ i, i < n → c.slots[i]? = some (f i)
theorem AR.ai {a : Addr} {C : String} {n : Nat} {f : Nat → Value} (A : AR Z h a C n f) : AI Z h a (.object C) n f := by obtain ⟨c, A, -, r⟩ := A; exact ⟨c, A, r⟩
theorem AR.lt {a : Addr} {C : String} {n : Nat} {f : Nat → Value} (A : AR Z h a C n f) : a < h.size := A.ai.lt
theorem AR.ext {h' : Heap} {a : Addr} {C : String} {n : Nat} {f : Nat → Value} (A : AR Z h a C n f) (E : Ext h h') : AR Z h' a C n f := by obtain ⟨c, A, r⟩ := A; exact ⟨c, A.ext E, r⟩
theorem AR.other {h' : Heap} {a b : Addr} {sl : Nat} {v : Value} {C : String} {n : Nat} {f : Nat → Value} (A : AR Z h a C n f) (W : Wr h h' b sl v) (q : a ≠ b) : AR Z h' a C n f := by obtain ⟨c, A, r⟩ := A; exact ⟨c, A.other W q, r⟩
theorem AR.keep {h' : Heap} {ws : List Addr} {a : Addr} {C : String} {n : Nat} {f : Nat → Value} (A : AR Z h a C n f) (K : Keep h h' ws) (q : a ∉ ws) : AR Z h' a C n f := by obtain ⟨c, A, r⟩ := A; exact ⟨c, ⟨K.2.1 a c A.1 q, A.2⟩, r⟩
theorem AR.to {a : Addr} {C : String} {n : Nat} {f g : Nat → Value} (A : AR Z h a C n f) (e : ∀ i, i < n → f i = g i) : AR Z h a C n g := by obtain ⟨c, A, r0, r1, r2, r3⟩ := A; exact ⟨c, A, r0, r1, r2, fun i hi => by rw [r3 i hi, e i hi]⟩
theorem AR.set {h' : Heap} {a : Addr} {C : String} {n i : Nat} {v : Value} {f : Nat → Value} (A : AR Z h a C n f) (W : Wr h h' a i v) : AR Z h' a C n (fun j => if j = i then v else f j) := by
  obtain ⟨c, A, r0, r1, r2, r3⟩ := A
  refine ⟨_, A.same W, r0, by rw [sz_set]; exact r1, r2, fun j hj => ?_⟩
  obtain ⟨c', q1, -, q3, -⟩ := W
  cases A.1.symm.trans q1
  by_cases e : j = i
  · subst e; simp [Cell.setSlot, r1, hj]
  · have e' : ¬ i = j := fun z => e z.symm
    simp [Cell.setSlot, Array.getElem?_setIfInBounds, e', e, r3 j hj]
theorem g_newR (X : Sd l Z n0 y B ml rt R k T h cc ss) {i : Nat} {C : String} (w1 : (Jvm.Cond.classLink y.cls i C).before a0 Z = true) (w2 : (Jvm.Cond.arrayOver (.object C)).before a0 Z = true) {m : Int32} (n cap : Nat) (hm : m.toInt = n) (hn : n ≤ cap) (hb : cap * 8 ≤ 536870912) (hd : decode B pc = .ok (.anewarray i, 3)) (hc : cc + 1 ≤ R.cells) (hl : ss + cap ≤ R.slots) (pc' : Nat) (hp : pc + 3 = pc')
    (K : ∀ T' h' a, Sd l Z n0 y B ml rt R k T' h' (cc + 1) (ss + cap) → a = h.size → Ext h h' → AR Z h' a C n (fun _ => .null) → Go k n0 Q kc ks T' pc' Ls (.ref a :: st)) : Go k n0 Q kc ks T pc Ls (.int m :: st) := by
  subst hp; obtain ⟨⟨locs, Y, N⟩, eh, hx, hZ, hown, hby, hr⟩ := X
  have q : ¬ m < 0 := by
    have e : (0 : Int32).toInt = 0 := by decide
    rw [Int32.lt_iff_toInt_lt, hm]; omega
  have e1 : m.toNatClampNeg = n := by simp [Int32.toNatClampNeg, hm]
  obtain ⟨T2, h2, cA, X2, e2, E2, A2, O2, st2⟩ := newR Y hx hZ hown w1 w2 eh (g := mkF (owm k) pc Ls (.int m :: st)) rfl (Jvm.hb hby hd) rfl q (cap := cap) (by omega) hb hc hl
  obtain ⟨c, A3, r1, r2, r3⟩ := AI.new A2 q hm
  cases A2.1.symm.trans A3.1
  exact (K T2 h2 h.size ⟨⟨locs, X2, N⟩, e2, hx, hZ, hown, hby, hr⟩ rfl E2 ⟨_, A2, O2, r1, r2, r3⟩).of st2
theorem g_aastore (X : Sd l Z n0 y B ml rt R k T h cc ss) {a b : Addr} {C : String} {n : Nat} {f : Nat → Value} (A : AR Z h a C n f) {j : Int32} (i : Nat) (hj : j.toInt = i) (hi : i < n) (I : Ins Z h b C true) (g0 : n0 ≤ a) (hd : decode B pc = .ok (.aastore, 1)) (pc' : Nat) (hp : pc + 1 = pc')
    (K : ∀ T' h', Sd l Z n0 y B ml rt R k T' h' cc ss → Wr h h' a i (.ref b) → Go k n0 Q kc ks T' pc' Ls st) : Go k n0 Q kc ks T pc Ls (.ref b :: .int j :: .ref a :: st) := by
  subst hp; obtain ⟨⟨locs, Y, N⟩, eh, hx, hZ, hown, hby, hr⟩ := X
  obtain ⟨c, A, r0, r1, r2, r3⟩ := A; obtain ⟨q1, q2⟩ := ix_of hj hi
  obtain ⟨T2, h2, X2, e2, W2, st2⟩ := stR Y hx hZ eh A (j := j) (v := .ref b) (by rw [r1]; exact q1) rfl (Sto.of A r0 I) (g := mkF (owm k) pc Ls (.ref b :: .int j :: .ref a :: st)) rfl rfl (Jvm.hb hby hd)
  rw [q2] at X2 W2
  exact (K T2 h2 ⟨⟨_, X2, Fr.snoc X2 N g0⟩, e2, hx, hZ, hown, hby, hr⟩ W2).of st2
theorem g_inst1 (X : Sd l Z n0 y B ml rt R k T h cc ss) {i : Nat} {C : String} {a : Addr} (w : (Jvm.Cond.classLink y.cls i C).before a0 Z = true) (I : Ins Z h a C true) (hd : decode B pc = .ok (.instanceof i, 3)) (pc' : Nat) (hp : pc + 3 = pc')
    (K : ∀ T', Sd l Z n0 y B ml rt R k T' h cc ss → Go k n0 Q kc ks T' pc' Ls (.int 1 :: st)) : Go k n0 Q kc ks T pc Ls (.ref a :: st) := by
  subst hp; obtain ⟨⟨locs, Y, N⟩, eh, hx, hZ, hown, hby, hr⟩ := X
  obtain ⟨T2, X2, e2, st2⟩ := instY Y hx hZ hown w eh I (g := mkF (owm k) pc Ls (.ref a :: st)) rfl rfl (Jvm.hb hby hd)
  exact (K T2 ⟨⟨locs, X2, N⟩, e2, hx, hZ, hown, hby, hr⟩).of st2
theorem g_inst0 (X : Sd l Z n0 y B ml rt R k T h cc ss) {i : Nat} {C D : String} {a : Addr} (w : (Jvm.Cond.classLink y.cls i C).before a0 Z = true) (E : Exa Z h a D) (F : ∃ c t, Z.vm.findClass D = some c ∧ Z.vm.findClass C = some t ∧ Z.vm.assignable c t = false) (hd : decode B pc = .ok (.instanceof i, 3)) (pc' : Nat) (hp : pc + 3 = pc')
    (K : ∀ T', Sd l Z n0 y B ml rt R k T' h cc ss → Go k n0 Q kc ks T' pc' Ls (.int 0 :: st)) : Go k n0 Q kc ks T pc Ls (.ref a :: st) := by
  subst hp; obtain ⟨⟨locs, Y, N⟩, eh, hx, hZ, hown, hby, hr⟩ := X
  obtain ⟨T2, X2, e2, st2⟩ := instNo Y hx hZ hown w eh E F (g := mkF (owm k) pc Ls (.ref a :: st)) rfl rfl (Jvm.hb hby hd)
  exact (K T2 ⟨⟨locs, X2, N⟩, e2, hx, hZ, hown, hby, hr⟩).of st2
theorem g_instN (X : Sd l Z n0 y B ml rt R k T h cc ss) {i : Nat} (hd : decode B pc = .ok (.instanceof i, 3)) (pc' : Nat) (hp : pc + 3 = pc') (K : Go k n0 Q kc ks T pc' Ls (.int 0 :: st)) : Go k n0 Q kc ks T pc Ls (.null :: st) := by
  subst hp; obtain ⟨⟨locs, Y, N⟩, eh, hx, hZ, hown, hby, hr⟩ := X
  exact K.of fun t q => Y.instanceofNull hx (g := mkF (owm k) pc Ls (.null :: st)) rfl rfl (Jvm.hb hby hd) t q
theorem g_cast (X : Sd l Z n0 y B ml rt R k T h cc ss) {i : Nat} {C : String} {a : Addr} (w : (Jvm.Cond.classLink y.cls i C).before a0 Z = true) (I : Ins Z h a C true) (hd : decode B pc = .ok (.checkcast i, 3)) (pc' : Nat) (hp : pc + 3 = pc')
    (K : ∀ T', Sd l Z n0 y B ml rt R k T' h cc ss → Go k n0 Q kc ks T' pc' Ls (.ref a :: st)) : Go k n0 Q kc ks T pc Ls (.ref a :: st) := by
  subst hp; obtain ⟨⟨locs, Y, N⟩, eh, hx, hZ, hown, hby, hr⟩ := X
  obtain ⟨T2, X2, e2, st2⟩ := castY Y hx hZ hown w eh I (g := mkF (owm k) pc Ls (.ref a :: st)) rfl rfl (Jvm.hb hby hd)
  exact (K T2 ⟨⟨locs, X2, N⟩, e2, hx, hZ, hown, hby, hr⟩).of st2
end Ow
theorem own_i0 : (0 : Int32).toInt = 0 := by decide
theorem own_i1 : (1 : Int32).toInt = 1 := by decide
theorem own_z0 : (0 : Int32).toInt = ((0 : Nat) : Int) := by decide
theorem own_nn {o : Int32} (h : 0 ≤ o.toInt) : ¬ o < 0 := by rw [Int32.lt_iff_toInt_lt, own_i0]; omega
theorem own_b1 : ((1 : Int32) &&& 1) = 1 := by decide
theorem own_b0 : ((0 : Int32) &&& 1) = 0 := by decide
theorem own_one : (some (Value.int ((1 : Int32) &&& 1))) = some (.int 1) := congrArg (fun z => some (Value.int z)) own_b1
theorem w0 {Z : State} {a0 : Array Value} (hw : ∀ d ∈ tables_1, d.before a0 Z = true) : (Jvm.Cond.constant "com/example/test_collection_measures/testcollectionmeasures/QrelsCountAtLeastPinLaw" (7 : Nat) (2147483647 : Int32)).before a0 Z = true := hw _ (List.mem_of_getElem? (i := 0) rfl)
theorem w1 {Z : State} {a0 : Array Value} (hw : ∀ d ∈ tables_1, d.before a0 Z = true) : (Jvm.Cond.arrayClass Jvm.ClassFile.FieldType.int).before a0 Z = true := hw _ (List.mem_of_getElem? (i := 1) rfl)
theorem w2 {Z : State} {a0 : Array Value} (hw : ∀ d ∈ tables_1, d.before a0 Z = true) : (Jvm.Cond.methodLink "com/example/test_collection_measures/testcollectionmeasures/QrelsCountAtLeastPinLaw" (8 : Nat) ({ cls := "com/example/test_collection_measures/testcollectionmeasures/Qrels", name := "countAtLeast", desc := "([IJ)I" } : Jvm.MethodName)).before a0 Z = true := hw _ (List.mem_of_getElem? (i := 2) rfl)
theorem w3 {Z : State} {a0 : Array Value} (hw : ∀ d ∈ tables_1, d.before a0 Z = true) : (Jvm.Cond.static ({ cls := "com/example/test_collection_measures/testcollectionmeasures/Qrels", name := "countAtLeast", desc := "([IJ)I" } : Jvm.MethodName)).before a0 Z = true := hw _ (List.mem_of_getElem? (i := 3) rfl)
theorem w4 {Z : State} {a0 : Array Value} (hw : ∀ d ∈ tables_1, d.before a0 Z = true) : (Jvm.Cond.initialized "com/example/test_collection_measures/testcollectionmeasures/Qrels").before a0 Z = true := hw _ (List.mem_of_getElem? (i := 4) rfl)
theorem w5 {Z : State} {a0 : Array Value} (hw : ∀ d ∈ tables_1, d.before a0 Z = true) : (Jvm.Cond.code ({ cls := "com/example/test_collection_measures/testcollectionmeasures/Qrels", name := "countAtLeast", desc := "([IJ)I" } : Jvm.MethodName) prog_29_method_11_code (6 : Nat) (Option.some Jvm.ClassFile.FieldType.int)).before a0 Z = true := hw _ (List.mem_of_getElem? (i := 5) rfl)
theorem pd0 : parseMethodDescriptor "([IJ)I" = some ⟨[(.array .int), .long], some .int⟩ := by decide +kernel
theorem pn0 : Jvm.plainFor (⟨"com/example/test_collection_measures/testcollectionmeasures/Qrels", "countAtLeast", "([IJ)I"⟩ : MethodName) = true := by first | exact plainFor_of_name (by first | (simp [Jvm.plainName, overriddenIn]; done) | decide +kernel) | decide +kernel
theorem pn1 : Jvm.plainFor (⟨"com/example/test_collection_measures/testcollectionmeasures/QrelsCountAtLeastPinLaw", "law", "(IIIIIJ)Z"⟩ : MethodName) = true := by first | exact plainFor_of_name (by first | (simp [Jvm.plainName, overriddenIn]; done) | decide +kernel) | decide +kernel
theorem own_len {Z : State} {h : Heap} {a : Addr} {ty : FieldType} {N : Nat} {f : Nat → Value} (A : AI Z h a ty N f) : (Int32.ofNat N).toInt = N := by
  obtain ⟨_, _, _, h, _⟩ := A; exact Int32.toInt_ofNat_of_lt (by omega)
theorem own_bd {Z : State} {h : Heap} {a : Addr} {ty : FieldType} {N : Nat} {f : Nat → Value} (A : AI Z h a ty N f) : N < 2147483648 := by obtain ⟨_, _, _, h, _⟩ := A; exact h
theorem own_mid {lo hi : Int32} (h1 : 0 ≤ lo.toInt) (h2 : 0 ≤ hi.toInt) : (((lo + hi).toUInt32 >>> ((1 : Int32) &&& 31).toUInt32).toInt32).toInt = (lo.toInt + hi.toInt) / 2 := by
  rw [c_iushr (lo + hi) 1 1 (by decide) (by decide)]
  have := c_iadd lo hi; have r1 := rng32 lo; have r2 := rng32 hi; have r3 := rng32 (lo + hi)
  show (lo + hi).toInt % 4294967296 / ((2 : Nat) : Int) = _
  omega
theorem own_inc {v : Int32} {m : Nat} (h : v.toInt = m) (hb : m < 2147483647) : (v + 1).toInt = m + 1 := by
  have := c_iadd v 1; have r := rng32 (v + 1); have e : (1 : Int32).toInt = 1 := by decide
  omega
theorem own_ge {x : Int32} {g : Int64} (h : ¬ x.toInt64 < g) : g.toInt ≤ x.toInt := by rw [Int64.lt_iff_toInt_lt, c_i2l] at h; omega
theorem own_lt {x : Int32} {g : Int64} (h : x.toInt64 < g) : x.toInt < g.toInt := by rw [Int64.lt_iff_toInt_lt, c_i2l] at h; omega
/-- what stands in the sorted array -/
def own_f (a b c d : Int32) (i : Nat) : Int32 := if i = 0 then a else if i = 1 then b else if i = 2 then c else d
theorem own_sorted {a b c d : Int32} (h1 : b.toInt ≤ a.toInt) (h2 : c.toInt ≤ b.toInt) (h3 : d.toInt ≤ c.toInt) {N : Nat} : ∀ i j, i ≤ j → j < N → (own_f a b c d j).toInt ≤ (own_f a b c d i).toInt := by
  intro i j hij _; unfold own_f; (repeat' split) <;> omega
theorem own_sw {a b v w : Int32} (h1 : v = if a < b then b else a) (h2 : w = if a < b then a else b) : (v = a ∧ w = b ∧ b.toInt ≤ a.toInt) ∨ (v = b ∧ w = a ∧ a.toInt ≤ b.toInt) := by
  by_cases q : a < b
  · rw [if_pos q] at h1 h2; rw [Int32.lt_iff_toInt_lt] at q; exact Or.inr ⟨h1, h2, by omega⟩
  · rw [if_neg q] at h1 h2; rw [Int32.lt_iff_toInt_lt] at q; exact Or.inl ⟨h1, h2, by omega⟩
theorem own_net {a b c d a1 b1 c1 d1 a2 c2 b2 d2 b3 c3 : Int32} (x1 : (a1 = a ∧ b1 = b ∧ b.toInt ≤ a.toInt) ∨ (a1 = b ∧ b1 = a ∧ a.toInt ≤ b.toInt)) (x2 : (c1 = c ∧ d1 = d ∧ d.toInt ≤ c.toInt) ∨ (c1 = d ∧ d1 = c ∧ c.toInt ≤ d.toInt))
    (x3 : (a2 = a1 ∧ c2 = c1 ∧ c1.toInt ≤ a1.toInt) ∨ (a2 = c1 ∧ c2 = a1 ∧ a1.toInt ≤ c1.toInt)) (x4 : (b2 = b1 ∧ d2 = d1 ∧ d1.toInt ≤ b1.toInt) ∨ (b2 = d1 ∧ d2 = b1 ∧ b1.toInt ≤ d1.toInt))
    (x5 : (b3 = b2 ∧ c3 = c2 ∧ c2.toInt ≤ b2.toInt) ∨ (b3 = c2 ∧ c3 = b2 ∧ b2.toInt ≤ c2.toInt)) : b3.toInt ≤ a2.toInt ∧ c3.toInt ≤ b3.toInt ∧ d2.toInt ≤ c3.toInt := by
  simp only [← Int32.toInt_inj] at *
  omega
theorem own_n5 (m : Int32) : (m &&& 2147483647) % 5 = 0 ∨ (m &&& 2147483647) % 5 = 1 ∨ (m &&& 2147483647) % 5 = 2 ∨ (m &&& 2147483647) % 5 = 3 ∨ (m &&& 2147483647) % 5 = 4 := by
  have h := c_and m 2147483647 (by decide)
  have h2 := (c_irem (m &&& 2147483647) 5 5 (by decide)).1 h.1
  simp only [← Int32.toInt_inj, h2, show (0 : Int32).toInt = 0 by decide, show (1 : Int32).toInt = 1 by decide, show (2 : Int32).toInt = 2 by decide, show (3 : Int32).toInt = 3 by decide, show (4 : Int32).toInt = 4 by decide]
  omega
theorem own_cnt {x v p : Int32} {g : Int64} {m : Nat} (hp : p.toInt = m) (hm : m < 10) (h : v = if x.toInt64 < g then p else p + 1) : (x.toInt < g.toInt ∧ v.toInt = m) ∨ (g.toInt ≤ x.toInt ∧ v.toInt = ((m + 1 : Nat) : Int)) := by
  by_cases q : x.toInt64 < g
  · rw [if_pos q] at h; subst h; exact Or.inl ⟨own_lt q, hp⟩
  · rw [if_neg q] at h; subst h; exact Or.inr ⟨own_ge q, by rw [own_inc hp (by omega)]; omega⟩
theorem d1_0 : decode prog_29_method_11_code 0 = .ok (.iconst 0, 1) := by decide +kernel
theorem d1_1 : decode prog_29_method_11_code 1 = .ok (.istore_n 3, 1) := by decide +kernel
theorem d1_2 : decode prog_29_method_11_code 2 = .ok (.aload_n 0, 1) := by decide +kernel
theorem d1_3 : decode prog_29_method_11_code 3 = .ok (.arraylength, 1) := by decide +kernel
theorem d1_4 : decode prog_29_method_11_code 4 = .ok (.istore 4, 2) := by decide +kernel
theorem d1_6 : decode prog_29_method_11_code 6 = .ok (.iload_n 3, 1) := by decide +kernel
theorem d1_7 : decode prog_29_method_11_code 7 = .ok (.iload 4, 2) := by decide +kernel
theorem d1_9 : decode prog_29_method_11_code 9 = .ok (.if_icmp .ge 36, 3) := by decide +kernel
theorem d1_12 : decode prog_29_method_11_code 12 = .ok (.iload_n 3, 1) := by decide +kernel
theorem d1_13 : decode prog_29_method_11_code 13 = .ok (.iload 4, 2) := by decide +kernel
theorem d1_15 : decode prog_29_method_11_code 15 = .ok (.iadd, 1) := by decide +kernel
theorem d1_16 : decode prog_29_method_11_code 16 = .ok (.iconst 1, 1) := by decide +kernel
theorem d1_17 : decode prog_29_method_11_code 17 = .ok (.iushr, 1) := by decide +kernel
theorem d1_18 : decode prog_29_method_11_code 18 = .ok (.istore 5, 2) := by decide +kernel
theorem d1_20 : decode prog_29_method_11_code 20 = .ok (.aload_n 0, 1) := by decide +kernel
theorem d1_21 : decode prog_29_method_11_code 21 = .ok (.iload 5, 2) := by decide +kernel
theorem d1_23 : decode prog_29_method_11_code 23 = .ok (.iaload, 1) := by decide +kernel
theorem d1_24 : decode prog_29_method_11_code 24 = .ok (.i2l, 1) := by decide +kernel
theorem d1_25 : decode prog_29_method_11_code 25 = .ok (.lload_n 1, 1) := by decide +kernel
theorem d1_26 : decode prog_29_method_11_code 26 = .ok (.lcmp, 1) := by decide +kernel
theorem d1_27 : decode prog_29_method_11_code 27 = .ok (.ifCond .lt 11, 3) := by decide +kernel
theorem d1_30 : decode prog_29_method_11_code 30 = .ok (.iload 5, 2) := by decide +kernel
theorem d1_32 : decode prog_29_method_11_code 32 = .ok (.iconst 1, 1) := by decide +kernel
theorem d1_33 : decode prog_29_method_11_code 33 = .ok (.iadd, 1) := by decide +kernel
theorem d1_34 : decode prog_29_method_11_code 34 = .ok (.istore_n 3, 1) := by decide +kernel
theorem d1_35 : decode prog_29_method_11_code 35 = .ok (.goto 7, 3) := by decide +kernel
theorem d1_38 : decode prog_29_method_11_code 38 = .ok (.iload 5, 2) := by decide +kernel
theorem d1_40 : decode prog_29_method_11_code 40 = .ok (.istore 4, 2) := by decide +kernel
theorem d1_42 : decode prog_29_method_11_code 42 = .ok (.goto (-36), 3) := by decide +kernel
theorem d1_45 : decode prog_29_method_11_code 45 = .ok (.iload_n 3, 1) := by decide +kernel
theorem d1_46 : decode prog_29_method_11_code 46 = .ok (.ireturn, 1) := by decide +kernel
abbrev Q1 (a : Addr) (g : Int64) (N : Nat) (f : Nat → Int32) (h0 : Heap) : Option Value → Heap → Prop := fun v h => (∃ r : Int32, v = some (.int r) ∧ 0 ≤ r.toInt ∧ r.toInt ≤ N ∧ ∀ i, i < N → ((i : Int) < r.toInt ↔ g.toInt ≤ (f i).toInt)) ∧ h0 = h
set_option maxRecDepth 65536 in
set_option maxHeartbeats 40000000 in
theorem rm1 {l : Launch} {Z : State} {a0 : Array Value} (hw : ∀ d ∈ tables_1, d.before a0 Z = true) (n0 : Nat) (a : Addr) (g : Int64) (N : Nat) (f : Nat → Int32) (h0 : Heap) (A : AI Z h0 a .int N (fun i => .int (f i))) (hs : ∀ i j, i ≤ j → j < N → (f j).toInt ≤ (f i).toInt) :
    Met l Z n0 (⟨"com/example/test_collection_measures/testcollectionmeasures/Qrels", "countAtLeast", "([IJ)I"⟩ : MethodName) prog_29_method_11_code 6 (some .int) [] ({ frames := 0, cells := 0, slots := 0, locals := 0 } : Room) #[(.ref a), (.long g)] h0 (Q1 a g N f h0) 0 0 := by
  refine Met.of pn0 (Ls := #[.val (.ref a), .val (.long g), .second, .unset, .unset, .unset]) rfl (fun k T0 X0 => ?_)
  refine g_iconst X0 (0 : Int32) d1_0 rfl 1 rfl ?_
  refine g_istoreN X0 d1_1 #[.val (.ref a), .val (.long g), .second, .val (.int (0 : Int32)), .unset, .unset] rfl 2 rfl ?_
  refine g_aloadN X0 d1_2 rfl rfl 3 rfl ?_
  refine g_alen X0 A (Int32.ofNat N) (own_len A) d1_3 4 rfl ?_
  refine g_istore X0 d1_4 #[.val (.ref a), .val (.long g), .second, .val (.int (0 : Int32)), .val (.int (Int32.ofNat N)), .unset] rfl 6 rfl ?_
  have hN := own_bd A
  have loop6 : ∀ (NL : Nat) (TL : State) (XL : Sd l Z n0 (⟨"com/example/test_collection_measures/testcollectionmeasures/Qrels", "countAtLeast", "([IJ)I"⟩ : MethodName) prog_29_method_11_code 6 (some .int) ({ frames := 0, cells := 0, slots := 0, locals := 0 } : Room) k TL h0 0 0) (lo : Int32) (hi : Int32) (z5 : Slot), One z5 → (0 ≤ lo.toInt) → (lo.toInt ≤ hi.toInt) → (hi.toInt ≤ N) → (∀ i, i < N → (i : Int) < lo.toInt → g.toInt ≤ (f i).toInt) → (∀ i, i < N → hi.toInt ≤ i → ¬ g.toInt ≤ (f i).toInt) → ((hi.toInt - lo.toInt).toNat) < NL → Go k n0 (Q1 a g N f h0) 0 0 TL 6 #[.val (.ref a), .val (.long g), .second, .val (.int lo), .val (.int hi), z5] [] := by
    intro NL; induction NL with
    | zero => intro TL XL lo hi z5 hz5 i1 i2 i3 i4 i5 hmL; exact absurd hmL (Nat.not_lt_zero _)
    | succ NL ih =>
      intro TL XL lo hi z5 hz5 i1 i2 i3 i4 i5 hmL
      refine g_iloadN XL d1_6 rfl 7 rfl ?_
      refine g_iload XL d1_7 rfl 9 rfl ?_
      refine g_icmpN XL i_ge d1_9 45 (by decide) (by decide) 12 rfl (fun h1 => ?_) (fun h1 => ?_)
      · skip
        refine g_iloadN XL d1_12 rfl 13 rfl ?_
        refine g_iload XL d1_13 rfl 15 rfl ?_
        refine g_iadd XL d1_15 16 rfl ?_
        refine g_iconst XL (1 : Int32) d1_16 rfl 17 rfl ?_
        refine g_iushr XL d1_17 18 rfl ?_
        refine g_istore XL d1_18 #[.val (.ref a), .val (.long g), .second, .val (.int lo), .val (.int hi), .val (.int (((lo + hi).toUInt32 >>> ((1 : Int32) &&& 31).toUInt32).toInt32))] (XS.store1 rfl hz5 rfl) 20 rfl ?_
        generalize hv2 : (((lo + hi).toUInt32 >>> ((1 : Int32) &&& 31).toUInt32).toInt32) = v2
        have hlt := Int32.lt_iff_toInt_lt.mp h1
        have hm : v2.toInt = (lo.toInt + hi.toInt) / 2 := by rw [← hv2]; exact own_mid i1 (by omega)
        obtain ⟨mi, hmi⟩ : ∃ mi : Nat, v2.toInt = mi := ⟨v2.toInt.toNat, by omega⟩
        refine g_aloadN XL d1_20 rfl rfl 21 rfl ?_
        refine g_iload XL d1_21 rfl 23 rfl ?_
        refine g_iaload XL A mi hmi (by omega) (.int (f mi)) rfl d1_23 24 rfl ?_
        refine g_i2l XL d1_24 25 rfl ?_
        refine g_lloadN XL d1_25 rfl 26 rfl ?_
        refine g_lcmp XL d1_26 27 rfl ?_
        refine g_if XL l_lt d1_27 38 (by decide) (by decide) 30 rfl (fun h3 => ?_) (fun h3 => ?_)
        · skip
          refine g_iload XL d1_38 rfl 40 rfl ?_
          refine g_istore XL d1_40 #[.val (.ref a), .val (.long g), .second, .val (.int lo), .val (.int v2), .val (.int v2)] rfl 42 rfl ?_
          refine g_goto XL d1_42 6 (by decide) (by decide) ?_
          exact ih TL XL (lo) (v2) (.val (.int v2)) (One.val rfl) i1 (by omega) (by omega) i4 (fun i hi' q => by have q1 := hs mi i (by omega) (by omega); have q2 := own_lt h3; omega) (by omega)
        · skip
          refine g_iload XL d1_30 rfl 32 rfl ?_
          refine g_iconst XL (1 : Int32) d1_32 rfl 33 rfl ?_
          refine g_iadd XL d1_33 34 rfl ?_
          refine g_istoreN XL d1_34 #[.val (.ref a), .val (.long g), .second, .val (.int (v2 + (1 : Int32))), .val (.int hi), .val (.int v2)] rfl 35 rfl ?_
          refine g_goto XL d1_35 42 (by decide) (by decide) ?_
          refine g_goto XL d1_42 6 (by decide) (by decide) ?_
          exact ih TL XL ((v2 + (1 : Int32))) (hi) (.val (.int v2)) (One.val rfl) (by rw [own_inc hmi (by omega)]; omega) (by rw [own_inc hmi (by omega)]; omega) i3 (fun i hi' q => by rw [own_inc hmi (by omega)] at q; have q1 := hs i mi (by omega) (by omega); have q2 := own_ge h3; omega) i5 (by rw [own_inc hmi (by omega)]; omega)
      · skip
        refine g_iloadN XL d1_45 rfl 46 rfl ?_
        have hge : ¬ lo.toInt < hi.toInt := fun q => h1 (Int32.lt_iff_toInt_lt.mpr q)
        exact g_retI XL d1_46 (by decide) (by decide) ⟨⟨lo, rfl, i1, by omega, fun i hi' => ⟨fun q => i4 i hi' q, fun q => by have q1 := i5 i hi'; omega⟩⟩, rfl⟩
  exact loop6 _ T0 X0 ((0 : Int32)) ((Int32.ofNat N)) (.unset) One.u (by decide) (by rw [own_len A]; simp) (by rw [own_len A]; exact Int.le_refl _) (fun i _ q => by rw [own_i0] at q; omega) (fun i hi' q => by rw [own_len A] at q; omega) (Nat.lt_succ_self _)
abbrev Q0 (a : Int32) (b : Int32) (c : Int32) (d : Int32) (m : Int32) (gg : Int64)  (h0 : Heap) : Option Value → Heap → Prop := fun v h => v = some (.int 1)
set_option maxRecDepth 65536 in
set_option maxHeartbeats 40000000 in
theorem rm0 {l : Launch} {Z : State} {a0 : Array Value} (hw : ∀ d ∈ tables_1, d.before a0 Z = true) (n0 : Nat) (a : Int32) (b : Int32) (c : Int32) (d : Int32) (m : Int32) (gg : Int64)  (h0 : Heap) (Z0 : n0 ≤ h0.size)  :
    Met l Z n0 x code maxLocals ret tables_1 room_1 #[(.int a), (.int b), (.int c), (.int d), (.int m), (.long gg)] h0 (Q0 a b c d m gg h0) 16 128 := by
  refine Met.of pn1 (Ls := #[.val (.int a), .val (.int b), .val (.int c), .val (.int d), .val (.int m), .val (.long gg), .second, .unset, .unset, .unset, .unset, .unset, .unset, .unset, .unset]) rfl (fun k T0 X0 => ?_)
  refine g_iloadN X0 at_0 rfl 1 rfl ?_
  refine g_iloadN X0 at_1 rfl 2 rfl ?_
  have k13_1 : ∀ (v1 : Int32) (v2 : Int32) (u3 : Slot), One u3 → v1 = (if a < b then b else a) → v2 = (if a < b then a else b) → Go k n0 (Q0 a b c d m gg h0) 16 128 T0 13 #[.val (.int v1), .val (.int v2), .val (.int c), .val (.int d), .val (.int m), .val (.long gg), .second, u3, .unset, .unset, .unset, .unset, .unset, .unset, .unset] [] := by
    intro v1 v2 u3 hu3 hv1 hv2
    refine g_iloadN X0 at_13 rfl 14 rfl ?_
    refine g_iloadN X0 at_14 rfl 15 rfl ?_
    have k26_2 : ∀ (v4 : Int32) (v5 : Int32) (u6 : Slot), One u6 → v4 = (if c < d then d else c) → v5 = (if c < d then c else d) → Go k n0 (Q0 a b c d m gg h0) 16 128 T0 26 #[.val (.int v1), .val (.int v2), .val (.int v4), .val (.int v5), .val (.int m), .val (.long gg), .second, u6, .unset, .unset, .unset, .unset, .unset, .unset, .unset] [] := by
      intro v4 v5 u6 hu6 hv4 hv5
      refine g_iloadN X0 at_26 rfl 27 rfl ?_
      refine g_iloadN X0 at_27 rfl 28 rfl ?_
      have k39_3 : ∀ (v7 : Int32) (v8 : Int32) (u9 : Slot), One u9 → v7 = (if v1 < v4 then v4 else v1) → v8 = (if v1 < v4 then v1 else v4) → Go k n0 (Q0 a b c d m gg h0) 16 128 T0 39 #[.val (.int v7), .val (.int v2), .val (.int v8), .val (.int v5), .val (.int m), .val (.long gg), .second, u9, .unset, .unset, .unset, .unset, .unset, .unset, .unset] [] := by
        intro v7 v8 u9 hu9 hv7 hv8
        refine g_iloadN X0 at_39 rfl 40 rfl ?_
        refine g_iloadN X0 at_40 rfl 41 rfl ?_
        have k52_4 : ∀ (v10 : Int32) (v11 : Int32) (u12 : Slot), One u12 → v10 = (if v2 < v5 then v5 else v2) → v11 = (if v2 < v5 then v2 else v5) → Go k n0 (Q0 a b c d m gg h0) 16 128 T0 52 #[.val (.int v7), .val (.int v10), .val (.int v8), .val (.int v11), .val (.int m), .val (.long gg), .second, u12, .unset, .unset, .unset, .unset, .unset, .unset, .unset] [] := by
          intro v10 v11 u12 hu12 hv10 hv11
          refine g_iloadN X0 at_52 rfl 53 rfl ?_
          refine g_iloadN X0 at_53 rfl 54 rfl ?_
          have k65_5 : ∀ (v13 : Int32) (v14 : Int32) (u15 : Slot), One u15 → v13 = (if v10 < v8 then v8 else v10) → v14 = (if v10 < v8 then v10 else v8) → Go k n0 (Q0 a b c d m gg h0) 16 128 T0 65 #[.val (.int v7), .val (.int v13), .val (.int v14), .val (.int v11), .val (.int m), .val (.long gg), .second, u15, .unset, .unset, .unset, .unset, .unset, .unset, .unset] [] := by
            intro v13 v14 u15 hu15 hv13 hv14
            refine g_iload X0 at_65 rfl 67 rfl ?_
            refine g_ldcI X0 (w0 hw) at_67 69 rfl ?_
            refine g_iand X0 at_69 70 rfl ?_
            refine g_iconst X0 (5 : Int32) at_70 rfl 71 rfl ?_
            refine g_irem X0 at_71 (by decide) 72 rfl ?_
            refine g_istore X0 at_72 #[.val (.int v7), .val (.int v13), .val (.int v14), .val (.int v11), .val (.int m), .val (.long gg), .second, u15, .val (.int ((m &&& (2147483647 : Int32)) % (5 : Int32))), .unset, .unset, .unset, .unset, .unset, .unset] rfl 74 rfl ?_
            have hnet := own_net (own_sw hv1 hv2) (own_sw hv4 hv5) (own_sw hv7 hv8) (own_sw hv10 hv11) (own_sw hv13 hv14)
            rcases own_n5 m with hn | hn | hn | hn | hn <;> rw [hn]
            · skip
              refine g_iload X0 at_74 rfl 76 rfl ?_
              refine g_bipush X0 (8 : Int32) at_76 rfl 78 rfl ?_
              refine g_iushr X0 at_78 79 rfl ?_
              refine g_bipush X0 (15 : Int32) at_79 rfl 81 rfl ?_
              refine g_iand X0 at_81 82 rfl ?_
              refine g_istore X0 at_82 #[.val (.int v7), .val (.int v13), .val (.int v14), .val (.int v11), .val (.int m), .val (.long gg), .second, u15, .val (.int (0 : Int32)), .val (.int (((m.toUInt32 >>> ((8 : Int32) &&& 31).toUInt32).toInt32) &&& (15 : Int32))), .unset, .unset, .unset, .unset, .unset] rfl 84 rfl ?_
              generalize hv16 : (((m.toUInt32 >>> ((8 : Int32) &&& 31).toUInt32).toInt32) &&& (15 : Int32)) = v16
              refine g_iload X0 at_84 rfl 86 rfl ?_
              refine g_bipush X0 (12 : Int32) at_86 rfl 88 rfl ?_
              refine g_icmpN X0 i_ge at_88 146 (by decide) (by decide) 91 rfl (fun h19 => ?_) (fun h19 => ?_)
              · skip
                refine g_iload X0 at_91 rfl 93 rfl ?_
                refine g_iconst X0 (3 : Int32) at_93 rfl 94 rfl ?_
                refine g_iand X0 at_94 95 rfl ?_
                refine g_istore X0 at_95 #[.val (.int v7), .val (.int v13), .val (.int v14), .val (.int v11), .val (.int m), .val (.long gg), .second, u15, .val (.int (0 : Int32)), .val (.int v16), .unset, .unset, .val (.int (v16 &&& (3 : Int32))), .unset, .unset] rfl 97 rfl ?_
                refine g_iload X0 at_97 rfl 99 rfl ?_
                have k129_6 : ∀ (v20 : Int64), v20 = (if (v16 &&& (3 : Int32)) = 0 then v7.toInt64 else (if (v16 &&& (3 : Int32)) = (1 : Int32) then v13.toInt64 else (if (v16 &&& (3 : Int32)) = (2 : Int32) then v14.toInt64 else v11.toInt64))) → Go k n0 (Q0 a b c d m gg h0) 16 128 T0 129 #[.val (.int v7), .val (.int v13), .val (.int v14), .val (.int v11), .val (.int m), .val (.long gg), .second, u15, .val (.int (0 : Int32)), .val (.int v16), .unset, .unset, .val (.int (v16 &&& (3 : Int32))), .unset, .unset] [(.long v20)] := by
                  intro v20 hv20
                  refine g_lstore X0 at_129 #[.val (.int v7), .val (.int v13), .val (.int v14), .val (.int v11), .val (.int m), .val (.long gg), .second, u15, .val (.int (0 : Int32)), .val (.int v16), .unset, .unset, .val (.int (v16 &&& (3 : Int32))), .val (.long v20), .second] rfl 131 rfl ?_
                  refine g_lload X0 at_131 rfl 133 rfl ?_
                  refine g_iload X0 at_133 rfl 135 rfl ?_
                  refine g_iconst X0 (2 : Int32) at_135 rfl 136 rfl ?_
                  refine g_iushr X0 at_136 137 rfl ?_
                  refine g_i2l X0 at_137 138 rfl ?_
                  refine g_ladd X0 at_138 139 rfl ?_
                  refine g_lconst X0 (1 : Int64) at_139 rfl 140 rfl ?_
                  refine g_lsub X0 at_140 141 rfl ?_
                  refine g_lstore X0 at_141 #[.val (.int v7), .val (.int v13), .val (.int v14), .val (.int v11), .val (.int m), .val (.long gg), .second, u15, .val (.int (0 : Int32)), .val (.int v16), .val (.long ((v20 + ((v16.toUInt32 >>> ((2 : Int32) &&& 31).toUInt32).toInt32).toInt64) - (1 : Int64))), .second, .val (.int (v16 &&& (3 : Int32))), .val (.long v20), .second] rfl 143 rfl ?_
                  generalize hv21 : ((v20 + ((v16.toUInt32 >>> ((2 : Int32) &&& 31).toUInt32).toInt32).toInt64) - (1 : Int64)) = v21
                  refine g_goto X0 at_143 150 (by decide) (by decide) ?_
                  refine g_iload X0 at_150 rfl 152 rfl ?_
                  refine g_newP (aty := .int) X0 (w1 hw) 0 0 (by decide) (by decide) (by decide) at_152 (by decide) (by decide) 154 rfl (fun T22 h22 b22 X22 g22 E22 A22 => ?_)
                  have g_b22 : n0 ≤ b22 := Nat.le_trans Z0 (Nat.le_of_eq g22.symm)
                  have z23 : n0 ≤ h22.size := Nat.le_trans Z0 E22.1
                  refine g_astore X22 at_154 rfl #[.val (.int v7), .val (.int v13), .val (.int v14), .val (.int v11), .val (.int m), .val (.long gg), .second, u15, .val (.int (0 : Int32)), .val (.int v16), .val (.long v21), .second, .val (.ref b22), .val (.long v20), .second] rfl 156 rfl ?_
                  refine g_iload X22 at_156 rfl 158 rfl ?_
                  refine g_ifN X22 z_le at_158 166 (by decide) (by decide) 161 rfl (fun h24 => ?_) (fun h24 => ?_)
                  · exact absurd h24 (by decide)
                  · skip
                    refine g_iload X22 at_166 rfl 168 rfl ?_
                    refine g_iconst X22 (1 : Int32) at_168 rfl 169 rfl ?_
                    refine g_icmpN X22 i_le at_169 177 (by decide) (by decide) 172 rfl (fun h25 => ?_) (fun h25 => ?_)
                    · exact absurd h25 (by decide)
                    · skip
                      refine g_iload X22 at_177 rfl 179 rfl ?_
                      refine g_iconst X22 (2 : Int32) at_179 rfl 180 rfl ?_
                      refine g_icmpN X22 i_le at_180 188 (by decide) (by decide) 183 rfl (fun h26 => ?_) (fun h26 => ?_)
                      · exact absurd h26 (by decide)
                      · skip
                        refine g_iload X22 at_188 rfl 190 rfl ?_
                        refine g_iconst X22 (3 : Int32) at_190 rfl 191 rfl ?_
                        refine g_icmpN X22 i_le at_191 199 (by decide) (by decide) 194 rfl (fun h27 => ?_) (fun h27 => ?_)
                        · exact absurd h27 (by decide)
                        · skip
                          refine g_iconst X22 (0 : Int32) at_199 rfl 200 rfl ?_
                          refine g_istore X22 at_200 #[.val (.int v7), .val (.int v13), .val (.int v14), .val (.int v11), .val (.int m), .val (.long gg), .second, u15, .val (.int (0 : Int32)), .val (.int v16), .val (.long v21), .second, .val (.ref b22), .val (.int (0 : Int32)), .unset] rfl 202 rfl ?_
                          refine g_iload X22 at_202 rfl 204 rfl ?_
                          refine g_ifN X22 z_le at_204 218 (by decide) (by decide) 207 rfl (fun h28 => ?_) (fun h28 => ?_)
                          · exact absurd h28 (by decide)
                          · skip
                            refine g_iload X22 at_218 rfl 220 rfl ?_
                            refine g_iconst X22 (1 : Int32) at_220 rfl 221 rfl ?_
                            refine g_icmpN X22 i_le at_221 235 (by decide) (by decide) 224 rfl (fun h29 => ?_) (fun h29 => ?_)
                            · exact absurd h29 (by decide)
                            · skip
                              refine g_iload X22 at_235 rfl 237 rfl ?_
                              refine g_iconst X22 (2 : Int32) at_237 rfl 238 rfl ?_
                              refine g_icmpN X22 i_le at_238 252 (by decide) (by decide) 241 rfl (fun h30 => ?_) (fun h30 => ?_)
                              · exact absurd h30 (by decide)
                              · skip
                                refine g_iload X22 at_252 rfl 254 rfl ?_
                                refine g_iconst X22 (3 : Int32) at_254 rfl 255 rfl ?_
                                refine g_icmpN X22 i_le at_255 269 (by decide) (by decide) 258 rfl (fun h31 => ?_) (fun h31 => ?_)
                                · exact absurd h31 (by decide)
                                · skip
                                  refine g_aload X22 at_269 rfl rfl 271 rfl ?_
                                  refine g_lload X22 at_271 rfl 273 rfl ?_
                                  have AA : AI Z h22 b22 .int 0 (fun i => .int ((own_f v7 v13 v14 v11) i)) := AI.to A22 (fun i hi => by (have q : False := by omega); exact q.elim)
                                  refine g_callS X22 [(.ref b22), (.long v21)] [] (rm1 hw n0 b22 v21 0 (own_f v7 v13 v14 v11) h22 AA (own_sorted hnet.1 hnet.2.1 hnet.2.2)) (w2 hw) (w3 hw) (w4 hw) (w5 hw) (by decide) pd0 rfl rfl (by decide) (Nat.le_of_ble_eq_true rfl) (by decide) (by decide) at_273 rfl 276 rfl (fun v32 T32 h32 X32 q32 => ?_)
                                  obtain ⟨⟨r, rfl, r1, r2, r3⟩, rfl⟩ := q32
                                  show Go k n0 (Q0 a b c d m gg h0) 16 128 T32 276 #[.val (.int v7), .val (.int v13), .val (.int v14), .val (.int v11), .val (.int m), .val (.long gg), .second, u15, .val (.int (0 : Int32)), .val (.int v16), .val (.long v21), .second, .val (.ref b22), .val (.int (0 : Int32)), .unset] [(.int r)]
                                  refine g_istore X32 at_276 #[.val (.int v7), .val (.int v13), .val (.int v14), .val (.int v11), .val (.int m), .val (.long gg), .second, u15, .val (.int (0 : Int32)), .val (.int v16), .val (.long v21), .second, .val (.ref b22), .val (.int (0 : Int32)), .val (.int r)] rfl 278 rfl ?_
                                  refine g_iload X32 at_278 rfl 280 rfl ?_
                                  refine g_iload X32 at_280 rfl 282 rfl ?_
                                  refine g_icmpN X32 i_ne at_282 289 (by decide) (by decide) 285 rfl (fun h33 => ?_) (fun h33 => ?_)
                                  · skip
                                    refine g_iconst X32 (1 : Int32) at_285 rfl 286 rfl ?_
                                    refine g_goto X32 at_286 290 (by decide) (by decide) ?_
                                    exact g_retZ X32 at_290 (by decide) (by decide) own_one
                                  · skip
                                    refine g_iconst X32 (0 : Int32) at_289 rfl 290 rfl ?_
                                    exfalso
                                    refine h33 (Int32.toInt_inj.mp ?_)
                                    have e0 := own_z0; omega
                refine g_ifN X0 z_ne at_99 107 (by decide) (by decide) 102 rfl (fun h34 => ?_) (fun h34 => ?_)
                · skip
                  refine g_iloadN X0 at_102 rfl 103 rfl ?_
                  refine g_i2l X0 at_103 104 rfl ?_
                  refine g_goto X0 at_104 129 (by decide) (by decide) ?_
                  exact k129_6 (v7.toInt64) (by first | (simp only [if_pos h19, if_pos h34]; done) | (simp only [if_pos h19, if_pos h34]; done) | (simp only [apply_ite Int32.toInt64, if_pos h19, if_pos h34]; done) | (simp only [h19, h34, if_true, if_false, true_or, or_true, true_and, and_true, not_true_eq_false, not_false_eq_true, false_or, or_false, false_and, and_false]; done) | (simp only [h19, h34, hv1, hv2, hv4, hv5, hv7, hv8, hv10, hv11, hv13, hv14, hv16, if_true, if_false, true_or, or_true, true_and, and_true, not_true_eq_false, not_false_eq_true, false_or, or_false, false_and, and_false]; done))
                · skip
                  refine g_iload X0 at_107 rfl 109 rfl ?_
                  refine g_iconst X0 (1 : Int32) at_109 rfl 110 rfl ?_
                  have k128_7 : ∀ (v35 : Int32), v35 = (if (v16 &&& (3 : Int32)) = (1 : Int32) then v13 else (if (v16 &&& (3 : Int32)) = (2 : Int32) then v14 else v11)) → Go k n0 (Q0 a b c d m gg h0) 16 128 T0 128 #[.val (.int v7), .val (.int v13), .val (.int v14), .val (.int v11), .val (.int m), .val (.long gg), .second, u15, .val (.int (0 : Int32)), .val (.int v16), .unset, .unset, .val (.int (v16 &&& (3 : Int32))), .unset, .unset] [(.int v35)] := by
                    intro v35 hv35
                    refine g_i2l X0 at_128 129 rfl ?_
                    exact k129_6 (v35.toInt64) (by first | (simp only [if_pos h19, if_neg h34]; done) | (simp only [hv35, if_pos h19, if_neg h34]; done) | (simp only [hv35, apply_ite Int32.toInt64, if_pos h19, if_neg h34]; done) | (simp only [h19, h34, if_true, if_false, true_or, or_true, true_and, and_true, not_true_eq_false, not_false_eq_true, false_or, or_false, false_and, and_false]; done) | (simp only [h19, h34, hv1, hv2, hv4, hv5, hv7, hv8, hv10, hv11, hv13, hv14, hv16, hv35, if_true, if_false, true_or, or_true, true_and, and_true, not_true_eq_false, not_false_eq_true, false_or, or_false, false_and, and_false]; done))
                  refine g_icmpN X0 i_ne at_110 117 (by decide) (by decide) 113 rfl (fun h36 => ?_) (fun h36 => ?_)
                  · skip
                    refine g_iloadN X0 at_113 rfl 114 rfl ?_
                    refine g_goto X0 at_114 128 (by decide) (by decide) ?_
                    exact k128_7 (v13) (by first | (simp only [if_pos h19, if_neg h34, if_pos h36]; done) | (simp only [if_pos h19, if_neg h34, if_pos h36]; done) | (simp only [apply_ite Int32.toInt64, if_pos h19, if_neg h34, if_pos h36]; done) | (simp only [h19, h34, h36, if_true, if_false, true_or, or_true, true_and, and_true, not_true_eq_false, not_false_eq_true, false_or, or_false, false_and, and_false]; done) | (simp only [h19, h34, h36, hv1, hv2, hv4, hv5, hv7, hv8, hv10, hv11, hv13, hv14, hv16, if_true, if_false, true_or, or_true, true_and, and_true, not_true_eq_false, not_false_eq_true, false_or, or_false, false_and, and_false]; done))
                  · skip
                    refine g_iload X0 at_117 rfl 119 rfl ?_
                    refine g_iconst X0 (2 : Int32) at_119 rfl 120 rfl ?_
                    refine g_icmpN X0 i_ne at_120 127 (by decide) (by decide) 123 rfl (fun h37 => ?_) (fun h37 => ?_)
                    · skip
                      refine g_iloadN X0 at_123 rfl 124 rfl ?_
                      refine g_goto X0 at_124 128 (by decide) (by decide) ?_
                      exact k128_7 (v14) (by first | (simp only [if_pos h19, if_neg h34, if_neg h36, if_pos h37]; done) | (simp only [if_pos h19, if_neg h34, if_neg h36, if_pos h37]; done) | (simp only [apply_ite Int32.toInt64, if_pos h19, if_neg h34, if_neg h36, if_pos h37]; done) | (simp only [h19, h34, h36, h37, if_true, if_false, true_or, or_true, true_and, and_true, not_true_eq_false, not_false_eq_true, false_or, or_false, false_and, and_false]; done) | (simp only [h19, h34, h36, h37, hv1, hv2, hv4, hv5, hv7, hv8, hv10, hv11, hv13, hv14, hv16, if_true, if_false, true_or, or_true, true_and, and_true, not_true_eq_false, not_false_eq_true, false_or, or_false, false_and, and_false]; done))
                    · skip
                      refine g_iloadN X0 at_127 rfl 128 rfl ?_
                      exact k128_7 (v11) (by first | (simp only [if_pos h19, if_neg h34, if_neg h36, if_neg h37]; done) | (simp only [if_pos h19, if_neg h34, if_neg h36, if_neg h37]; done) | (simp only [apply_ite Int32.toInt64, if_pos h19, if_neg h34, if_neg h36, if_neg h37]; done) | (simp only [h19, h34, h36, h37, if_true, if_false, true_or, or_true, true_and, and_true, not_true_eq_false, not_false_eq_true, false_or, or_false, false_and, and_false]; done) | (simp only [h19, h34, h36, h37, hv1, hv2, hv4, hv5, hv7, hv8, hv10, hv11, hv13, hv14, hv16, if_true, if_false, true_or, or_true, true_and, and_true, not_true_eq_false, not_false_eq_true, false_or, or_false, false_and, and_false]; done))
              · skip
                refine g_lload X0 at_146 rfl 148 rfl ?_
                refine g_lstore X0 at_148 #[.val (.int v7), .val (.int v13), .val (.int v14), .val (.int v11), .val (.int m), .val (.long gg), .second, u15, .val (.int (0 : Int32)), .val (.int v16), .val (.long gg), .second, .unset, .unset, .unset] rfl 150 rfl ?_
                refine g_iload X0 at_150 rfl 152 rfl ?_
                refine g_newP (aty := .int) X0 (w1 hw) 0 0 (by decide) (by decide) (by decide) at_152 (by decide) (by decide) 154 rfl (fun T38 h38 b38 X38 g38 E38 A38 => ?_)
                have g_b38 : n0 ≤ b38 := Nat.le_trans Z0 (Nat.le_of_eq g38.symm)
                have z39 : n0 ≤ h38.size := Nat.le_trans Z0 E38.1
                refine g_astore X38 at_154 rfl #[.val (.int v7), .val (.int v13), .val (.int v14), .val (.int v11), .val (.int m), .val (.long gg), .second, u15, .val (.int (0 : Int32)), .val (.int v16), .val (.long gg), .second, .val (.ref b38), .unset, .unset] rfl 156 rfl ?_
                refine g_iload X38 at_156 rfl 158 rfl ?_
                refine g_ifN X38 z_le at_158 166 (by decide) (by decide) 161 rfl (fun h40 => ?_) (fun h40 => ?_)
                · exact absurd h40 (by decide)
                · skip
                  refine g_iload X38 at_166 rfl 168 rfl ?_
                  refine g_iconst X38 (1 : Int32) at_168 rfl 169 rfl ?_
                  refine g_icmpN X38 i_le at_169 177 (by decide) (by decide) 172 rfl (fun h41 => ?_) (fun h41 => ?_)
                  · exact absurd h41 (by decide)
                  · skip
                    refine g_iload X38 at_177 rfl 179 rfl ?_
                    refine g_iconst X38 (2 : Int32) at_179 rfl 180 rfl ?_
                    refine g_icmpN X38 i_le at_180 188 (by decide) (by decide) 183 rfl (fun h42 => ?_) (fun h42 => ?_)
                    · exact absurd h42 (by decide)
                    · skip
                      refine g_iload X38 at_188 rfl 190 rfl ?_
                      refine g_iconst X38 (3 : Int32) at_190 rfl 191 rfl ?_
                      refine g_icmpN X38 i_le at_191 199 (by decide) (by decide) 194 rfl (fun h43 => ?_) (fun h43 => ?_)
                      · exact absurd h43 (by decide)
                      · skip
                        refine g_iconst X38 (0 : Int32) at_199 rfl 200 rfl ?_
                        refine g_istore X38 at_200 #[.val (.int v7), .val (.int v13), .val (.int v14), .val (.int v11), .val (.int m), .val (.long gg), .second, u15, .val (.int (0 : Int32)), .val (.int v16), .val (.long gg), .second, .val (.ref b38), .val (.int (0 : Int32)), .unset] rfl 202 rfl ?_
                        refine g_iload X38 at_202 rfl 204 rfl ?_
                        refine g_ifN X38 z_le at_204 218 (by decide) (by decide) 207 rfl (fun h44 => ?_) (fun h44 => ?_)
                        · exact absurd h44 (by decide)
                        · skip
                          refine g_iload X38 at_218 rfl 220 rfl ?_
                          refine g_iconst X38 (1 : Int32) at_220 rfl 221 rfl ?_
                          refine g_icmpN X38 i_le at_221 235 (by decide) (by decide) 224 rfl (fun h45 => ?_) (fun h45 => ?_)
                          · exact absurd h45 (by decide)
                          · skip
                            refine g_iload X38 at_235 rfl 237 rfl ?_
                            refine g_iconst X38 (2 : Int32) at_237 rfl 238 rfl ?_
                            refine g_icmpN X38 i_le at_238 252 (by decide) (by decide) 241 rfl (fun h46 => ?_) (fun h46 => ?_)
                            · exact absurd h46 (by decide)
                            · skip
                              refine g_iload X38 at_252 rfl 254 rfl ?_
                              refine g_iconst X38 (3 : Int32) at_254 rfl 255 rfl ?_
                              refine g_icmpN X38 i_le at_255 269 (by decide) (by decide) 258 rfl (fun h47 => ?_) (fun h47 => ?_)
                              · exact absurd h47 (by decide)
                              · skip
                                refine g_aload X38 at_269 rfl rfl 271 rfl ?_
                                refine g_lload X38 at_271 rfl 273 rfl ?_
                                have AA : AI Z h38 b38 .int 0 (fun i => .int ((own_f v7 v13 v14 v11) i)) := AI.to A38 (fun i hi => by (have q : False := by omega); exact q.elim)
                                refine g_callS X38 [(.ref b38), (.long gg)] [] (rm1 hw n0 b38 gg 0 (own_f v7 v13 v14 v11) h38 AA (own_sorted hnet.1 hnet.2.1 hnet.2.2)) (w2 hw) (w3 hw) (w4 hw) (w5 hw) (by decide) pd0 rfl rfl (by decide) (Nat.le_of_ble_eq_true rfl) (by decide) (by decide) at_273 rfl 276 rfl (fun v48 T48 h48 X48 q48 => ?_)
                                obtain ⟨⟨r, rfl, r1, r2, r3⟩, rfl⟩ := q48
                                show Go k n0 (Q0 a b c d m gg h0) 16 128 T48 276 #[.val (.int v7), .val (.int v13), .val (.int v14), .val (.int v11), .val (.int m), .val (.long gg), .second, u15, .val (.int (0 : Int32)), .val (.int v16), .val (.long gg), .second, .val (.ref b38), .val (.int (0 : Int32)), .unset] [(.int r)]
                                refine g_istore X48 at_276 #[.val (.int v7), .val (.int v13), .val (.int v14), .val (.int v11), .val (.int m), .val (.long gg), .second, u15, .val (.int (0 : Int32)), .val (.int v16), .val (.long gg), .second, .val (.ref b38), .val (.int (0 : Int32)), .val (.int r)] rfl 278 rfl ?_
                                refine g_iload X48 at_278 rfl 280 rfl ?_
                                refine g_iload X48 at_280 rfl 282 rfl ?_
                                refine g_icmpN X48 i_ne at_282 289 (by decide) (by decide) 285 rfl (fun h49 => ?_) (fun h49 => ?_)
                                · skip
                                  refine g_iconst X48 (1 : Int32) at_285 rfl 286 rfl ?_
                                  refine g_goto X48 at_286 290 (by decide) (by decide) ?_
                                  exact g_retZ X48 at_290 (by decide) (by decide) own_one
                                · skip
                                  refine g_iconst X48 (0 : Int32) at_289 rfl 290 rfl ?_
                                  exfalso
                                  refine h49 (Int32.toInt_inj.mp ?_)
                                  have e0 := own_z0; omega
            · skip
              refine g_iload X0 at_74 rfl 76 rfl ?_
              refine g_bipush X0 (8 : Int32) at_76 rfl 78 rfl ?_
              refine g_iushr X0 at_78 79 rfl ?_
              refine g_bipush X0 (15 : Int32) at_79 rfl 81 rfl ?_
              refine g_iand X0 at_81 82 rfl ?_
              refine g_istore X0 at_82 #[.val (.int v7), .val (.int v13), .val (.int v14), .val (.int v11), .val (.int m), .val (.long gg), .second, u15, .val (.int (1 : Int32)), .val (.int (((m.toUInt32 >>> ((8 : Int32) &&& 31).toUInt32).toInt32) &&& (15 : Int32))), .unset, .unset, .unset, .unset, .unset] rfl 84 rfl ?_
              generalize hv50 : (((m.toUInt32 >>> ((8 : Int32) &&& 31).toUInt32).toInt32) &&& (15 : Int32)) = v50
              refine g_iload X0 at_84 rfl 86 rfl ?_
              refine g_bipush X0 (12 : Int32) at_86 rfl 88 rfl ?_
              refine g_icmpN X0 i_ge at_88 146 (by decide) (by decide) 91 rfl (fun h53 => ?_) (fun h53 => ?_)
              · skip
                refine g_iload X0 at_91 rfl 93 rfl ?_
                refine g_iconst X0 (3 : Int32) at_93 rfl 94 rfl ?_
                refine g_iand X0 at_94 95 rfl ?_
                refine g_istore X0 at_95 #[.val (.int v7), .val (.int v13), .val (.int v14), .val (.int v11), .val (.int m), .val (.long gg), .second, u15, .val (.int (1 : Int32)), .val (.int v50), .unset, .unset, .val (.int (v50 &&& (3 : Int32))), .unset, .unset] rfl 97 rfl ?_
                refine g_iload X0 at_97 rfl 99 rfl ?_
                have k129_8 : ∀ (v54 : Int64), v54 = (if (v50 &&& (3 : Int32)) = 0 then v7.toInt64 else (if (v50 &&& (3 : Int32)) = (1 : Int32) then v13.toInt64 else (if (v50 &&& (3 : Int32)) = (2 : Int32) then v14.toInt64 else v11.toInt64))) → Go k n0 (Q0 a b c d m gg h0) 16 128 T0 129 #[.val (.int v7), .val (.int v13), .val (.int v14), .val (.int v11), .val (.int m), .val (.long gg), .second, u15, .val (.int (1 : Int32)), .val (.int v50), .unset, .unset, .val (.int (v50 &&& (3 : Int32))), .unset, .unset] [(.long v54)] := by
                  intro v54 hv54
                  refine g_lstore X0 at_129 #[.val (.int v7), .val (.int v13), .val (.int v14), .val (.int v11), .val (.int m), .val (.long gg), .second, u15, .val (.int (1 : Int32)), .val (.int v50), .unset, .unset, .val (.int (v50 &&& (3 : Int32))), .val (.long v54), .second] rfl 131 rfl ?_
                  refine g_lload X0 at_131 rfl 133 rfl ?_
                  refine g_iload X0 at_133 rfl 135 rfl ?_
                  refine g_iconst X0 (2 : Int32) at_135 rfl 136 rfl ?_
                  refine g_iushr X0 at_136 137 rfl ?_
                  refine g_i2l X0 at_137 138 rfl ?_
                  refine g_ladd X0 at_138 139 rfl ?_
                  refine g_lconst X0 (1 : Int64) at_139 rfl 140 rfl ?_
                  refine g_lsub X0 at_140 141 rfl ?_
                  refine g_lstore X0 at_141 #[.val (.int v7), .val (.int v13), .val (.int v14), .val (.int v11), .val (.int m), .val (.long gg), .second, u15, .val (.int (1 : Int32)), .val (.int v50), .val (.long ((v54 + ((v50.toUInt32 >>> ((2 : Int32) &&& 31).toUInt32).toInt32).toInt64) - (1 : Int64))), .second, .val (.int (v50 &&& (3 : Int32))), .val (.long v54), .second] rfl 143 rfl ?_
                  generalize hv55 : ((v54 + ((v50.toUInt32 >>> ((2 : Int32) &&& 31).toUInt32).toInt32).toInt64) - (1 : Int64)) = v55
                  refine g_goto X0 at_143 150 (by decide) (by decide) ?_
                  refine g_iload X0 at_150 rfl 152 rfl ?_
                  refine g_newP (aty := .int) X0 (w1 hw) 1 1 (by decide) (by decide) (by decide) at_152 (by decide) (by decide) 154 rfl (fun T56 h56 b56 X56 g56 E56 A56 => ?_)
                  have g_b56 : n0 ≤ b56 := Nat.le_trans Z0 (Nat.le_of_eq g56.symm)
                  have z57 : n0 ≤ h56.size := Nat.le_trans Z0 E56.1
                  refine g_astore X56 at_154 rfl #[.val (.int v7), .val (.int v13), .val (.int v14), .val (.int v11), .val (.int m), .val (.long gg), .second, u15, .val (.int (1 : Int32)), .val (.int v50), .val (.long v55), .second, .val (.ref b56), .val (.long v54), .second] rfl 156 rfl ?_
                  refine g_iload X56 at_156 rfl 158 rfl ?_
                  refine g_ifN X56 z_le at_158 166 (by decide) (by decide) 161 rfl (fun h58 => ?_) (fun h58 => ?_)
                  · skip
                    refine g_aload X56 at_161 rfl rfl 163 rfl ?_
                    refine g_iconst X56 (0 : Int32) at_163 rfl 164 rfl ?_
                    refine g_iloadN X56 at_164 rfl 165 rfl ?_
                    refine g_iastore X56 A56 0 (by decide) (by decide) g_b56 at_165 166 rfl (fun T59 h59 X59 W59 => ?_)
                    have z60 : n0 ≤ h59.size := Nat.le_trans z57 (Nat.le_of_eq W59.size.symm)
                    have A59 := AI.set A56 W59
                    refine g_iload X59 at_166 rfl 168 rfl ?_
                    refine g_iconst X59 (1 : Int32) at_168 rfl 169 rfl ?_
                    refine g_icmpN X59 i_le at_169 177 (by decide) (by decide) 172 rfl (fun h61 => ?_) (fun h61 => ?_)
                    · exact absurd h61 (by decide)
                    · skip
                      refine g_iload X59 at_177 rfl 179 rfl ?_
                      refine g_iconst X59 (2 : Int32) at_179 rfl 180 rfl ?_
                      refine g_icmpN X59 i_le at_180 188 (by decide) (by decide) 183 rfl (fun h62 => ?_) (fun h62 => ?_)
                      · exact absurd h62 (by decide)
                      · skip
                        refine g_iload X59 at_188 rfl 190 rfl ?_
                        refine g_iconst X59 (3 : Int32) at_190 rfl 191 rfl ?_
                        refine g_icmpN X59 i_le at_191 199 (by decide) (by decide) 194 rfl (fun h63 => ?_) (fun h63 => ?_)
                        · exact absurd h63 (by decide)
                        · skip
                          refine g_iconst X59 (0 : Int32) at_199 rfl 200 rfl ?_
                          refine g_istore X59 at_200 #[.val (.int v7), .val (.int v13), .val (.int v14), .val (.int v11), .val (.int m), .val (.long gg), .second, u15, .val (.int (1 : Int32)), .val (.int v50), .val (.long v55), .second, .val (.ref b56), .val (.int (0 : Int32)), .unset] rfl 202 rfl ?_
                          refine g_iload X59 at_202 rfl 204 rfl ?_
                          have k218_9 : ∀ (v64 : Int32), v64 = (if v7.toInt64 < v55 then (0 : Int32) else (1 : Int32)) → Go k n0 (Q0 a b c d m gg h0) 16 128 T59 218 #[.val (.int v7), .val (.int v13), .val (.int v14), .val (.int v11), .val (.int m), .val (.long gg), .second, u15, .val (.int (1 : Int32)), .val (.int v50), .val (.long v55), .second, .val (.ref b56), .val (.int v64), .unset] [] := by
                            intro v64 hv64
                            refine g_iload X59 at_218 rfl 220 rfl ?_
                            refine g_iconst X59 (1 : Int32) at_220 rfl 221 rfl ?_
                            refine g_icmpN X59 i_le at_221 235 (by decide) (by decide) 224 rfl (fun h65 => ?_) (fun h65 => ?_)
                            · exact absurd h65 (by decide)
                            · skip
                              refine g_iload X59 at_235 rfl 237 rfl ?_
                              refine g_iconst X59 (2 : Int32) at_237 rfl 238 rfl ?_
                              refine g_icmpN X59 i_le at_238 252 (by decide) (by decide) 241 rfl (fun h66 => ?_) (fun h66 => ?_)
                              · exact absurd h66 (by decide)
                              · skip
                                refine g_iload X59 at_252 rfl 254 rfl ?_
                                refine g_iconst X59 (3 : Int32) at_254 rfl 255 rfl ?_
                                refine g_icmpN X59 i_le at_255 269 (by decide) (by decide) 258 rfl (fun h67 => ?_) (fun h67 => ?_)
                                · exact absurd h67 (by decide)
                                · skip
                                  refine g_aload X59 at_269 rfl rfl 271 rfl ?_
                                  refine g_lload X59 at_271 rfl 273 rfl ?_
                                  have AA : AI Z h59 b56 .int 1 (fun i => .int ((own_f v7 v13 v14 v11) i)) := AI.to A59 (fun i hi => by (have q : i = 0 := by omega); rcases q with rfl <;> rfl)
                                  refine g_callS X59 [(.ref b56), (.long v55)] [] (rm1 hw n0 b56 v55 1 (own_f v7 v13 v14 v11) h59 AA (own_sorted hnet.1 hnet.2.1 hnet.2.2)) (w2 hw) (w3 hw) (w4 hw) (w5 hw) (by decide) pd0 rfl rfl (by decide) (Nat.le_of_ble_eq_true rfl) (by decide) (by decide) at_273 rfl 276 rfl (fun v68 T68 h68 X68 q68 => ?_)
                                  obtain ⟨⟨r, rfl, r1, r2, r3⟩, rfl⟩ := q68
                                  show Go k n0 (Q0 a b c d m gg h0) 16 128 T68 276 #[.val (.int v7), .val (.int v13), .val (.int v14), .val (.int v11), .val (.int m), .val (.long gg), .second, u15, .val (.int (1 : Int32)), .val (.int v50), .val (.long v55), .second, .val (.ref b56), .val (.int v64), .unset] [(.int r)]
                                  refine g_istore X68 at_276 #[.val (.int v7), .val (.int v13), .val (.int v14), .val (.int v11), .val (.int m), .val (.long gg), .second, u15, .val (.int (1 : Int32)), .val (.int v50), .val (.long v55), .second, .val (.ref b56), .val (.int v64), .val (.int r)] rfl 278 rfl ?_
                                  refine g_iload X68 at_278 rfl 280 rfl ?_
                                  refine g_iload X68 at_280 rfl 282 rfl ?_
                                  refine g_icmpN X68 i_ne at_282 289 (by decide) (by decide) 285 rfl (fun h69 => ?_) (fun h69 => ?_)
                                  · skip
                                    refine g_iconst X68 (1 : Int32) at_285 rfl 286 rfl ?_
                                    refine g_goto X68 at_286 290 (by decide) (by decide) ?_
                                    exact g_retZ X68 at_290 (by decide) (by decide) own_one
                                  · skip
                                    refine g_iconst X68 (0 : Int32) at_289 rfl 290 rfl ?_
                                    exfalso
                                    refine h69 (Int32.toInt_inj.mp ?_)
                                    have y0 : ((0 : Nat) : Int) < r.toInt ↔ v55.toInt ≤ v7.toInt := r3 0 (by decide)
                                    rcases own_cnt own_z0 (by decide) hv64 with ⟨u0, t0⟩ | ⟨u0, t0⟩
                                    · skip
                                      have e0 := t0; omega
                                    · skip
                                      have e0 := t0; omega
                          refine g_ifN X59 z_le at_204 218 (by decide) (by decide) 207 rfl (fun h70 => ?_) (fun h70 => ?_)
                          · skip
                            refine g_iloadN X59 at_207 rfl 208 rfl ?_
                            refine g_i2l X59 at_208 209 rfl ?_
                            refine g_lload X59 at_209 rfl 211 rfl ?_
                            refine g_lcmp X59 at_211 212 rfl ?_
                            refine g_if X59 l_lt at_212 218 (by decide) (by decide) 215 rfl (fun h71 => ?_) (fun h71 => ?_)
                            · skip
                              exact k218_9 ((0 : Int32)) (by first | (simp only [if_pos h53, if_pos h71]; done) | (simp only [if_pos h53, if_pos h71]; done) | (simp only [apply_ite Int32.toInt64, if_pos h53, if_pos h71]; done) | (simp only [h53, h71, if_true, if_false, true_or, or_true, true_and, and_true, not_true_eq_false, not_false_eq_true, false_or, or_false, false_and, and_false]; done) | (simp only [h53, h71, hv1, hv2, hv4, hv5, hv7, hv8, hv10, hv11, hv13, hv14, hv50, hv54, hv55, if_true, if_false, true_or, or_true, true_and, and_true, not_true_eq_false, not_false_eq_true, false_or, or_false, false_and, and_false]; done))
                            · skip
                              refine g_iinc X59 (1 : Int32) at_215 rfl rfl #[.val (.int v7), .val (.int v13), .val (.int v14), .val (.int v11), .val (.int m), .val (.long gg), .second, u15, .val (.int (1 : Int32)), .val (.int v50), .val (.long v55), .second, .val (.ref b56), .val (.int ((0 : Int32) + (1 : Int32))), .unset] rfl 218 rfl ?_
                              rw [(by decide : (0 : Int32) + (1 : Int32) = (1 : Int32))]
                              exact k218_9 ((1 : Int32)) (by first | (simp only [if_pos h53, if_neg h71]; done) | (simp only [if_pos h53, if_neg h71]; done) | (simp only [apply_ite Int32.toInt64, if_pos h53, if_neg h71]; done) | (simp only [h53, h71, if_true, if_false, true_or, or_true, true_and, and_true, not_true_eq_false, not_false_eq_true, false_or, or_false, false_and, and_false]; done) | (simp only [h53, h71, hv1, hv2, hv4, hv5, hv7, hv8, hv10, hv11, hv13, hv14, hv50, hv54, hv55, if_true, if_false, true_or, or_true, true_and, and_true, not_true_eq_false, not_false_eq_true, false_or, or_false, false_and, and_false]; done))
                          · exact absurd (by decide) h70
                  · exact absurd (by decide) h58
                refine g_ifN X0 z_ne at_99 107 (by decide) (by decide) 102 rfl (fun h72 => ?_) (fun h72 => ?_)
                · skip
                  refine g_iloadN X0 at_102 rfl 103 rfl ?_
                  refine g_i2l X0 at_103 104 rfl ?_
                  refine g_goto X0 at_104 129 (by decide) (by decide) ?_
                  exact k129_8 (v7.toInt64) (by first | (simp only [if_pos h53, if_pos h72]; done) | (simp only [if_pos h53, if_pos h72]; done) | (simp only [apply_ite Int32.toInt64, if_pos h53, if_pos h72]; done) | (simp only [h53, h72, if_true, if_false, true_or, or_true, true_and, and_true, not_true_eq_false, not_false_eq_true, false_or, or_false, false_and, and_false]; done) | (simp only [h53, h72, hv1, hv2, hv4, hv5, hv7, hv8, hv10, hv11, hv13, hv14, hv50, if_true, if_false, true_or, or_true, true_and, and_true, not_true_eq_false, not_false_eq_true, false_or, or_false, false_and, and_false]; done))
                · skip
                  refine g_iload X0 at_107 rfl 109 rfl ?_
                  refine g_iconst X0 (1 : Int32) at_109 rfl 110 rfl ?_
                  have k128_10 : ∀ (v73 : Int32), v73 = (if (v50 &&& (3 : Int32)) = (1 : Int32) then v13 else (if (v50 &&& (3 : Int32)) = (2 : Int32) then v14 else v11)) → Go k n0 (Q0 a b c d m gg h0) 16 128 T0 128 #[.val (.int v7), .val (.int v13), .val (.int v14), .val (.int v11), .val (.int m), .val (.long gg), .second, u15, .val (.int (1 : Int32)), .val (.int v50), .unset, .unset, .val (.int (v50 &&& (3 : Int32))), .unset, .unset] [(.int v73)] := by
                    intro v73 hv73
                    refine g_i2l X0 at_128 129 rfl ?_
                    exact k129_8 (v73.toInt64) (by first | (simp only [if_pos h53, if_neg h72]; done) | (simp only [hv73, if_pos h53, if_neg h72]; done) | (simp only [hv73, apply_ite Int32.toInt64, if_pos h53, if_neg h72]; done) | (simp only [h53, h72, if_true, if_false, true_or, or_true, true_and, and_true, not_true_eq_false, not_false_eq_true, false_or, or_false, false_and, and_false]; done) | (simp only [h53, h72, hv1, hv2, hv4, hv5, hv7, hv8, hv10, hv11, hv13, hv14, hv50, hv73, if_true, if_false, true_or, or_true, true_and, and_true, not_true_eq_false, not_false_eq_true, false_or, or_false, false_and, and_false]; done))
                  refine g_icmpN X0 i_ne at_110 117 (by decide) (by decide) 113 rfl (fun h74 => ?_) (fun h74 => ?_)
                  · skip
                    refine g_iloadN X0 at_113 rfl 114 rfl ?_
                    refine g_goto X0 at_114 128 (by decide) (by decide) ?_
                    exact k128_10 (v13) (by first | (simp only [if_pos h53, if_neg h72, if_pos h74]; done) | (simp only [if_pos h53, if_neg h72, if_pos h74]; done) | (simp only [apply_ite Int32.toInt64, if_pos h53, if_neg h72, if_pos h74]; done) | (simp only [h53, h72, h74, if_true, if_false, true_or, or_true, true_and, and_true, not_true_eq_false, not_false_eq_true, false_or, or_false, false_and, and_false]; done) | (simp only [h53, h72, h74, hv1, hv2, hv4, hv5, hv7, hv8, hv10, hv11, hv13, hv14, hv50, if_true, if_false, true_or, or_true, true_and, and_true, not_true_eq_false, not_false_eq_true, false_or, or_false, false_and, and_false]; done))
                  · skip
                    refine g_iload X0 at_117 rfl 119 rfl ?_
                    refine g_iconst X0 (2 : Int32) at_119 rfl 120 rfl ?_
                    refine g_icmpN X0 i_ne at_120 127 (by decide) (by decide) 123 rfl (fun h75 => ?_) (fun h75 => ?_)
                    · skip
                      refine g_iloadN X0 at_123 rfl 124 rfl ?_
                      refine g_goto X0 at_124 128 (by decide) (by decide) ?_
                      exact k128_10 (v14) (by first | (simp only [if_pos h53, if_neg h72, if_neg h74, if_pos h75]; done) | (simp only [if_pos h53, if_neg h72, if_neg h74, if_pos h75]; done) | (simp only [apply_ite Int32.toInt64, if_pos h53, if_neg h72, if_neg h74, if_pos h75]; done) | (simp only [h53, h72, h74, h75, if_true, if_false, true_or, or_true, true_and, and_true, not_true_eq_false, not_false_eq_true, false_or, or_false, false_and, and_false]; done) | (simp only [h53, h72, h74, h75, hv1, hv2, hv4, hv5, hv7, hv8, hv10, hv11, hv13, hv14, hv50, if_true, if_false, true_or, or_true, true_and, and_true, not_true_eq_false, not_false_eq_true, false_or, or_false, false_and, and_false]; done))
                    · skip
                      refine g_iloadN X0 at_127 rfl 128 rfl ?_
                      exact k128_10 (v11) (by first | (simp only [if_pos h53, if_neg h72, if_neg h74, if_neg h75]; done) | (simp only [if_pos h53, if_neg h72, if_neg h74, if_neg h75]; done) | (simp only [apply_ite Int32.toInt64, if_pos h53, if_neg h72, if_neg h74, if_neg h75]; done) | (simp only [h53, h72, h74, h75, if_true, if_false, true_or, or_true, true_and, and_true, not_true_eq_false, not_false_eq_true, false_or, or_false, false_and, and_false]; done) | (simp only [h53, h72, h74, h75, hv1, hv2, hv4, hv5, hv7, hv8, hv10, hv11, hv13, hv14, hv50, if_true, if_false, true_or, or_true, true_and, and_true, not_true_eq_false, not_false_eq_true, false_or, or_false, false_and, and_false]; done))
              · skip
                refine g_lload X0 at_146 rfl 148 rfl ?_
                refine g_lstore X0 at_148 #[.val (.int v7), .val (.int v13), .val (.int v14), .val (.int v11), .val (.int m), .val (.long gg), .second, u15, .val (.int (1 : Int32)), .val (.int v50), .val (.long gg), .second, .unset, .unset, .unset] rfl 150 rfl ?_
                refine g_iload X0 at_150 rfl 152 rfl ?_
                refine g_newP (aty := .int) X0 (w1 hw) 1 1 (by decide) (by decide) (by decide) at_152 (by decide) (by decide) 154 rfl (fun T76 h76 b76 X76 g76 E76 A76 => ?_)
                have g_b76 : n0 ≤ b76 := Nat.le_trans Z0 (Nat.le_of_eq g76.symm)
                have z77 : n0 ≤ h76.size := Nat.le_trans Z0 E76.1
                refine g_astore X76 at_154 rfl #[.val (.int v7), .val (.int v13), .val (.int v14), .val (.int v11), .val (.int m), .val (.long gg), .second, u15, .val (.int (1 : Int32)), .val (.int v50), .val (.long gg), .second, .val (.ref b76), .unset, .unset] rfl 156 rfl ?_
                refine g_iload X76 at_156 rfl 158 rfl ?_
                refine g_ifN X76 z_le at_158 166 (by decide) (by decide) 161 rfl (fun h78 => ?_) (fun h78 => ?_)
                · skip
                  refine g_aload X76 at_161 rfl rfl 163 rfl ?_
                  refine g_iconst X76 (0 : Int32) at_163 rfl 164 rfl ?_
                  refine g_iloadN X76 at_164 rfl 165 rfl ?_
                  refine g_iastore X76 A76 0 (by decide) (by decide) g_b76 at_165 166 rfl (fun T79 h79 X79 W79 => ?_)
                  have z80 : n0 ≤ h79.size := Nat.le_trans z77 (Nat.le_of_eq W79.size.symm)
                  have A79 := AI.set A76 W79
                  refine g_iload X79 at_166 rfl 168 rfl ?_
                  refine g_iconst X79 (1 : Int32) at_168 rfl 169 rfl ?_
                  refine g_icmpN X79 i_le at_169 177 (by decide) (by decide) 172 rfl (fun h81 => ?_) (fun h81 => ?_)
                  · exact absurd h81 (by decide)
                  · skip
                    refine g_iload X79 at_177 rfl 179 rfl ?_
                    refine g_iconst X79 (2 : Int32) at_179 rfl 180 rfl ?_
                    refine g_icmpN X79 i_le at_180 188 (by decide) (by decide) 183 rfl (fun h82 => ?_) (fun h82 => ?_)
                    · exact absurd h82 (by decide)
                    · skip
                      refine g_iload X79 at_188 rfl 190 rfl ?_
                      refine g_iconst X79 (3 : Int32) at_190 rfl 191 rfl ?_
                      refine g_icmpN X79 i_le at_191 199 (by decide) (by decide) 194 rfl (fun h83 => ?_) (fun h83 => ?_)
                      · exact absurd h83 (by decide)
                      · skip
                        refine g_iconst X79 (0 : Int32) at_199 rfl 200 rfl ?_
                        refine g_istore X79 at_200 #[.val (.int v7), .val (.int v13), .val (.int v14), .val (.int v11), .val (.int m), .val (.long gg), .second, u15, .val (.int (1 : Int32)), .val (.int v50), .val (.long gg), .second, .val (.ref b76), .val (.int (0 : Int32)), .unset] rfl 202 rfl ?_
                        refine g_iload X79 at_202 rfl 204 rfl ?_
                        have k218_11 : ∀ (v84 : Int32), v84 = (if v7.toInt64 < gg then (0 : Int32) else (1 : Int32)) → Go k n0 (Q0 a b c d m gg h0) 16 128 T79 218 #[.val (.int v7), .val (.int v13), .val (.int v14), .val (.int v11), .val (.int m), .val (.long gg), .second, u15, .val (.int (1 : Int32)), .val (.int v50), .val (.long gg), .second, .val (.ref b76), .val (.int v84), .unset] [] := by
                          intro v84 hv84
                          refine g_iload X79 at_218 rfl 220 rfl ?_
                          refine g_iconst X79 (1 : Int32) at_220 rfl 221 rfl ?_
                          refine g_icmpN X79 i_le at_221 235 (by decide) (by decide) 224 rfl (fun h85 => ?_) (fun h85 => ?_)
                          · exact absurd h85 (by decide)
                          · skip
                            refine g_iload X79 at_235 rfl 237 rfl ?_
                            refine g_iconst X79 (2 : Int32) at_237 rfl 238 rfl ?_
                            refine g_icmpN X79 i_le at_238 252 (by decide) (by decide) 241 rfl (fun h86 => ?_) (fun h86 => ?_)
                            · exact absurd h86 (by decide)
                            · skip
                              refine g_iload X79 at_252 rfl 254 rfl ?_
                              refine g_iconst X79 (3 : Int32) at_254 rfl 255 rfl ?_
                              refine g_icmpN X79 i_le at_255 269 (by decide) (by decide) 258 rfl (fun h87 => ?_) (fun h87 => ?_)
                              · exact absurd h87 (by decide)
                              · skip
                                refine g_aload X79 at_269 rfl rfl 271 rfl ?_
                                refine g_lload X79 at_271 rfl 273 rfl ?_
                                have AA : AI Z h79 b76 .int 1 (fun i => .int ((own_f v7 v13 v14 v11) i)) := AI.to A79 (fun i hi => by (have q : i = 0 := by omega); rcases q with rfl <;> rfl)
                                refine g_callS X79 [(.ref b76), (.long gg)] [] (rm1 hw n0 b76 gg 1 (own_f v7 v13 v14 v11) h79 AA (own_sorted hnet.1 hnet.2.1 hnet.2.2)) (w2 hw) (w3 hw) (w4 hw) (w5 hw) (by decide) pd0 rfl rfl (by decide) (Nat.le_of_ble_eq_true rfl) (by decide) (by decide) at_273 rfl 276 rfl (fun v88 T88 h88 X88 q88 => ?_)
                                obtain ⟨⟨r, rfl, r1, r2, r3⟩, rfl⟩ := q88
                                show Go k n0 (Q0 a b c d m gg h0) 16 128 T88 276 #[.val (.int v7), .val (.int v13), .val (.int v14), .val (.int v11), .val (.int m), .val (.long gg), .second, u15, .val (.int (1 : Int32)), .val (.int v50), .val (.long gg), .second, .val (.ref b76), .val (.int v84), .unset] [(.int r)]
                                refine g_istore X88 at_276 #[.val (.int v7), .val (.int v13), .val (.int v14), .val (.int v11), .val (.int m), .val (.long gg), .second, u15, .val (.int (1 : Int32)), .val (.int v50), .val (.long gg), .second, .val (.ref b76), .val (.int v84), .val (.int r)] rfl 278 rfl ?_
                                refine g_iload X88 at_278 rfl 280 rfl ?_
                                refine g_iload X88 at_280 rfl 282 rfl ?_
                                refine g_icmpN X88 i_ne at_282 289 (by decide) (by decide) 285 rfl (fun h89 => ?_) (fun h89 => ?_)
                                · skip
                                  refine g_iconst X88 (1 : Int32) at_285 rfl 286 rfl ?_
                                  refine g_goto X88 at_286 290 (by decide) (by decide) ?_
                                  exact g_retZ X88 at_290 (by decide) (by decide) own_one
                                · skip
                                  refine g_iconst X88 (0 : Int32) at_289 rfl 290 rfl ?_
                                  exfalso
                                  refine h89 (Int32.toInt_inj.mp ?_)
                                  have y0 : ((0 : Nat) : Int) < r.toInt ↔ gg.toInt ≤ v7.toInt := r3 0 (by decide)
                                  rcases own_cnt own_z0 (by decide) hv84 with ⟨u0, t0⟩ | ⟨u0, t0⟩
                                  · skip
                                    have e0 := t0; omega
                                  · skip
                                    have e0 := t0; omega
                        refine g_ifN X79 z_le at_204 218 (by decide) (by decide) 207 rfl (fun h90 => ?_) (fun h90 => ?_)
                        · skip
                          refine g_iloadN X79 at_207 rfl 208 rfl ?_
                          refine g_i2l X79 at_208 209 rfl ?_
                          refine g_lload X79 at_209 rfl 211 rfl ?_
                          refine g_lcmp X79 at_211 212 rfl ?_
                          refine g_if X79 l_lt at_212 218 (by decide) (by decide) 215 rfl (fun h91 => ?_) (fun h91 => ?_)
                          · skip
                            exact k218_11 ((0 : Int32)) (by first | (simp only [if_neg h53, if_pos h91]; done) | (simp only [if_neg h53, if_pos h91]; done) | (simp only [apply_ite Int32.toInt64, if_neg h53, if_pos h91]; done) | (simp only [h53, h91, if_true, if_false, true_or, or_true, true_and, and_true, not_true_eq_false, not_false_eq_true, false_or, or_false, false_and, and_false]; done) | (simp only [h53, h91, hv1, hv2, hv4, hv5, hv7, hv8, hv10, hv11, hv13, hv14, hv50, if_true, if_false, true_or, or_true, true_and, and_true, not_true_eq_false, not_false_eq_true, false_or, or_false, false_and, and_false]; done))
                          · skip
                            refine g_iinc X79 (1 : Int32) at_215 rfl rfl #[.val (.int v7), .val (.int v13), .val (.int v14), .val (.int v11), .val (.int m), .val (.long gg), .second, u15, .val (.int (1 : Int32)), .val (.int v50), .val (.long gg), .second, .val (.ref b76), .val (.int ((0 : Int32) + (1 : Int32))), .unset] rfl 218 rfl ?_
                            rw [(by decide : (0 : Int32) + (1 : Int32) = (1 : Int32))]
                            exact k218_11 ((1 : Int32)) (by first | (simp only [if_neg h53, if_neg h91]; done) | (simp only [if_neg h53, if_neg h91]; done) | (simp only [apply_ite Int32.toInt64, if_neg h53, if_neg h91]; done) | (simp only [h53, h91, if_true, if_false, true_or, or_true, true_and, and_true, not_true_eq_false, not_false_eq_true, false_or, or_false, false_and, and_false]; done) | (simp only [h53, h91, hv1, hv2, hv4, hv5, hv7, hv8, hv10, hv11, hv13, hv14, hv50, if_true, if_false, true_or, or_true, true_and, and_true, not_true_eq_false, not_false_eq_true, false_or, or_false, false_and, and_false]; done))
                        · exact absurd (by decide) h90
                · exact absurd (by decide) h78
            · skip
              refine g_iload X0 at_74 rfl 76 rfl ?_
              refine g_bipush X0 (8 : Int32) at_76 rfl 78 rfl ?_
              refine g_iushr X0 at_78 79 rfl ?_
              refine g_bipush X0 (15 : Int32) at_79 rfl 81 rfl ?_
              refine g_iand X0 at_81 82 rfl ?_
              refine g_istore X0 at_82 #[.val (.int v7), .val (.int v13), .val (.int v14), .val (.int v11), .val (.int m), .val (.long gg), .second, u15, .val (.int (2 : Int32)), .val (.int (((m.toUInt32 >>> ((8 : Int32) &&& 31).toUInt32).toInt32) &&& (15 : Int32))), .unset, .unset, .unset, .unset, .unset] rfl 84 rfl ?_
              generalize hv92 : (((m.toUInt32 >>> ((8 : Int32) &&& 31).toUInt32).toInt32) &&& (15 : Int32)) = v92
              refine g_iload X0 at_84 rfl 86 rfl ?_
              refine g_bipush X0 (12 : Int32) at_86 rfl 88 rfl ?_
              refine g_icmpN X0 i_ge at_88 146 (by decide) (by decide) 91 rfl (fun h95 => ?_) (fun h95 => ?_)
              · skip
                refine g_iload X0 at_91 rfl 93 rfl ?_
                refine g_iconst X0 (3 : Int32) at_93 rfl 94 rfl ?_
                refine g_iand X0 at_94 95 rfl ?_
                refine g_istore X0 at_95 #[.val (.int v7), .val (.int v13), .val (.int v14), .val (.int v11), .val (.int m), .val (.long gg), .second, u15, .val (.int (2 : Int32)), .val (.int v92), .unset, .unset, .val (.int (v92 &&& (3 : Int32))), .unset, .unset] rfl 97 rfl ?_
                refine g_iload X0 at_97 rfl 99 rfl ?_
                have k129_12 : ∀ (v96 : Int64), v96 = (if (v92 &&& (3 : Int32)) = 0 then v7.toInt64 else (if (v92 &&& (3 : Int32)) = (1 : Int32) then v13.toInt64 else (if (v92 &&& (3 : Int32)) = (2 : Int32) then v14.toInt64 else v11.toInt64))) → Go k n0 (Q0 a b c d m gg h0) 16 128 T0 129 #[.val (.int v7), .val (.int v13), .val (.int v14), .val (.int v11), .val (.int m), .val (.long gg), .second, u15, .val (.int (2 : Int32)), .val (.int v92), .unset, .unset, .val (.int (v92 &&& (3 : Int32))), .unset, .unset] [(.long v96)] := by
                  intro v96 hv96
                  refine g_lstore X0 at_129 #[.val (.int v7), .val (.int v13), .val (.int v14), .val (.int v11), .val (.int m), .val (.long gg), .second, u15, .val (.int (2 : Int32)), .val (.int v92), .unset, .unset, .val (.int (v92 &&& (3 : Int32))), .val (.long v96), .second] rfl 131 rfl ?_
                  refine g_lload X0 at_131 rfl 133 rfl ?_
                  refine g_iload X0 at_133 rfl 135 rfl ?_
                  refine g_iconst X0 (2 : Int32) at_135 rfl 136 rfl ?_
                  refine g_iushr X0 at_136 137 rfl ?_
                  refine g_i2l X0 at_137 138 rfl ?_
                  refine g_ladd X0 at_138 139 rfl ?_
                  refine g_lconst X0 (1 : Int64) at_139 rfl 140 rfl ?_
                  refine g_lsub X0 at_140 141 rfl ?_
                  refine g_lstore X0 at_141 #[.val (.int v7), .val (.int v13), .val (.int v14), .val (.int v11), .val (.int m), .val (.long gg), .second, u15, .val (.int (2 : Int32)), .val (.int v92), .val (.long ((v96 + ((v92.toUInt32 >>> ((2 : Int32) &&& 31).toUInt32).toInt32).toInt64) - (1 : Int64))), .second, .val (.int (v92 &&& (3 : Int32))), .val (.long v96), .second] rfl 143 rfl ?_
                  generalize hv97 : ((v96 + ((v92.toUInt32 >>> ((2 : Int32) &&& 31).toUInt32).toInt32).toInt64) - (1 : Int64)) = v97
                  refine g_goto X0 at_143 150 (by decide) (by decide) ?_
                  refine g_iload X0 at_150 rfl 152 rfl ?_
                  refine g_newP (aty := .int) X0 (w1 hw) 2 2 (by decide) (by decide) (by decide) at_152 (by decide) (by decide) 154 rfl (fun T98 h98 b98 X98 g98 E98 A98 => ?_)
                  have g_b98 : n0 ≤ b98 := Nat.le_trans Z0 (Nat.le_of_eq g98.symm)
                  have z99 : n0 ≤ h98.size := Nat.le_trans Z0 E98.1
                  refine g_astore X98 at_154 rfl #[.val (.int v7), .val (.int v13), .val (.int v14), .val (.int v11), .val (.int m), .val (.long gg), .second, u15, .val (.int (2 : Int32)), .val (.int v92), .val (.long v97), .second, .val (.ref b98), .val (.long v96), .second] rfl 156 rfl ?_
                  refine g_iload X98 at_156 rfl 158 rfl ?_
                  refine g_ifN X98 z_le at_158 166 (by decide) (by decide) 161 rfl (fun h100 => ?_) (fun h100 => ?_)
                  · skip
                    refine g_aload X98 at_161 rfl rfl 163 rfl ?_
                    refine g_iconst X98 (0 : Int32) at_163 rfl 164 rfl ?_
                    refine g_iloadN X98 at_164 rfl 165 rfl ?_
                    refine g_iastore X98 A98 0 (by decide) (by decide) g_b98 at_165 166 rfl (fun T101 h101 X101 W101 => ?_)
                    have z102 : n0 ≤ h101.size := Nat.le_trans z99 (Nat.le_of_eq W101.size.symm)
                    have A101 := AI.set A98 W101
                    refine g_iload X101 at_166 rfl 168 rfl ?_
                    refine g_iconst X101 (1 : Int32) at_168 rfl 169 rfl ?_
                    refine g_icmpN X101 i_le at_169 177 (by decide) (by decide) 172 rfl (fun h103 => ?_) (fun h103 => ?_)
                    · skip
                      refine g_aload X101 at_172 rfl rfl 174 rfl ?_
                      refine g_iconst X101 (1 : Int32) at_174 rfl 175 rfl ?_
                      refine g_iloadN X101 at_175 rfl 176 rfl ?_
                      refine g_iastore X101 A101 1 (by decide) (by decide) g_b98 at_176 177 rfl (fun T104 h104 X104 W104 => ?_)
                      have z105 : n0 ≤ h104.size := Nat.le_trans z102 (Nat.le_of_eq W104.size.symm)
                      have A104 := AI.set A101 W104
                      refine g_iload X104 at_177 rfl 179 rfl ?_
                      refine g_iconst X104 (2 : Int32) at_179 rfl 180 rfl ?_
                      refine g_icmpN X104 i_le at_180 188 (by decide) (by decide) 183 rfl (fun h106 => ?_) (fun h106 => ?_)
                      · exact absurd h106 (by decide)
                      · skip
                        refine g_iload X104 at_188 rfl 190 rfl ?_
                        refine g_iconst X104 (3 : Int32) at_190 rfl 191 rfl ?_
                        refine g_icmpN X104 i_le at_191 199 (by decide) (by decide) 194 rfl (fun h107 => ?_) (fun h107 => ?_)
                        · exact absurd h107 (by decide)
                        · skip
                          refine g_iconst X104 (0 : Int32) at_199 rfl 200 rfl ?_
                          refine g_istore X104 at_200 #[.val (.int v7), .val (.int v13), .val (.int v14), .val (.int v11), .val (.int m), .val (.long gg), .second, u15, .val (.int (2 : Int32)), .val (.int v92), .val (.long v97), .second, .val (.ref b98), .val (.int (0 : Int32)), .unset] rfl 202 rfl ?_
                          refine g_iload X104 at_202 rfl 204 rfl ?_
                          have k218_13 : ∀ (v108 : Int32), v108 = (if v7.toInt64 < v97 then (0 : Int32) else (1 : Int32)) → Go k n0 (Q0 a b c d m gg h0) 16 128 T104 218 #[.val (.int v7), .val (.int v13), .val (.int v14), .val (.int v11), .val (.int m), .val (.long gg), .second, u15, .val (.int (2 : Int32)), .val (.int v92), .val (.long v97), .second, .val (.ref b98), .val (.int v108), .unset] [] := by
                            intro v108 hv108
                            refine g_iload X104 at_218 rfl 220 rfl ?_
                            refine g_iconst X104 (1 : Int32) at_220 rfl 221 rfl ?_
                            have k235_14 : ∀ (v109 : Int32), v109 = (if v13.toInt64 < v97 then v108 else (v108 + (1 : Int32))) → Go k n0 (Q0 a b c d m gg h0) 16 128 T104 235 #[.val (.int v7), .val (.int v13), .val (.int v14), .val (.int v11), .val (.int m), .val (.long gg), .second, u15, .val (.int (2 : Int32)), .val (.int v92), .val (.long v97), .second, .val (.ref b98), .val (.int v109), .unset] [] := by
                              intro v109 hv109
                              refine g_iload X104 at_235 rfl 237 rfl ?_
                              refine g_iconst X104 (2 : Int32) at_237 rfl 238 rfl ?_
                              refine g_icmpN X104 i_le at_238 252 (by decide) (by decide) 241 rfl (fun h110 => ?_) (fun h110 => ?_)
                              · exact absurd h110 (by decide)
                              · skip
                                refine g_iload X104 at_252 rfl 254 rfl ?_
                                refine g_iconst X104 (3 : Int32) at_254 rfl 255 rfl ?_
                                refine g_icmpN X104 i_le at_255 269 (by decide) (by decide) 258 rfl (fun h111 => ?_) (fun h111 => ?_)
                                · exact absurd h111 (by decide)
                                · skip
                                  refine g_aload X104 at_269 rfl rfl 271 rfl ?_
                                  refine g_lload X104 at_271 rfl 273 rfl ?_
                                  have AA : AI Z h104 b98 .int 2 (fun i => .int ((own_f v7 v13 v14 v11) i)) := AI.to A104 (fun i hi => by (have q : i = 0 ∨ i = 1 := by omega); rcases q with rfl | rfl <;> rfl)
                                  refine g_callS X104 [(.ref b98), (.long v97)] [] (rm1 hw n0 b98 v97 2 (own_f v7 v13 v14 v11) h104 AA (own_sorted hnet.1 hnet.2.1 hnet.2.2)) (w2 hw) (w3 hw) (w4 hw) (w5 hw) (by decide) pd0 rfl rfl (by decide) (Nat.le_of_ble_eq_true rfl) (by decide) (by decide) at_273 rfl 276 rfl (fun v112 T112 h112 X112 q112 => ?_)
                                  obtain ⟨⟨r, rfl, r1, r2, r3⟩, rfl⟩ := q112
                                  show Go k n0 (Q0 a b c d m gg h0) 16 128 T112 276 #[.val (.int v7), .val (.int v13), .val (.int v14), .val (.int v11), .val (.int m), .val (.long gg), .second, u15, .val (.int (2 : Int32)), .val (.int v92), .val (.long v97), .second, .val (.ref b98), .val (.int v109), .unset] [(.int r)]
                                  refine g_istore X112 at_276 #[.val (.int v7), .val (.int v13), .val (.int v14), .val (.int v11), .val (.int m), .val (.long gg), .second, u15, .val (.int (2 : Int32)), .val (.int v92), .val (.long v97), .second, .val (.ref b98), .val (.int v109), .val (.int r)] rfl 278 rfl ?_
                                  refine g_iload X112 at_278 rfl 280 rfl ?_
                                  refine g_iload X112 at_280 rfl 282 rfl ?_
                                  refine g_icmpN X112 i_ne at_282 289 (by decide) (by decide) 285 rfl (fun h113 => ?_) (fun h113 => ?_)
                                  · skip
                                    refine g_iconst X112 (1 : Int32) at_285 rfl 286 rfl ?_
                                    refine g_goto X112 at_286 290 (by decide) (by decide) ?_
                                    exact g_retZ X112 at_290 (by decide) (by decide) own_one
                                  · skip
                                    refine g_iconst X112 (0 : Int32) at_289 rfl 290 rfl ?_
                                    exfalso
                                    refine h113 (Int32.toInt_inj.mp ?_)
                                    have y0 : ((0 : Nat) : Int) < r.toInt ↔ v97.toInt ≤ v7.toInt := r3 0 (by decide)
                                    have y1 : ((1 : Nat) : Int) < r.toInt ↔ v97.toInt ≤ v13.toInt := r3 1 (by decide)
                                    rcases own_cnt own_z0 (by decide) hv108 with ⟨u0, t0⟩ | ⟨u0, t0⟩
                                    · skip
                                      rcases own_cnt t0 (by decide) hv109 with ⟨u1, t1⟩ | ⟨u1, t1⟩
                                      · skip
                                        have e0 := t1; omega
                                      · skip
                                        have e0 := t1; omega
                                    · skip
                                      rcases own_cnt t0 (by decide) hv109 with ⟨u1, t1⟩ | ⟨u1, t1⟩
                                      · skip
                                        have e0 := t1; omega
                                      · skip
                                        have e0 := t1; omega
                            refine g_icmpN X104 i_le at_221 235 (by decide) (by decide) 224 rfl (fun h114 => ?_) (fun h114 => ?_)
                            · skip
                              refine g_iloadN X104 at_224 rfl 225 rfl ?_
                              refine g_i2l X104 at_225 226 rfl ?_
                              refine g_lload X104 at_226 rfl 228 rfl ?_
                              refine g_lcmp X104 at_228 229 rfl ?_
                              refine g_if X104 l_lt at_229 235 (by decide) (by decide) 232 rfl (fun h115 => ?_) (fun h115 => ?_)
                              · skip
                                exact k235_14 (v108) (by first | (simp only [if_pos h95, if_pos h115]; done) | (simp only [if_pos h95, if_pos h115]; done) | (simp only [apply_ite Int32.toInt64, if_pos h95, if_pos h115]; done) | (simp only [h95, h115, if_true, if_false, true_or, or_true, true_and, and_true, not_true_eq_false, not_false_eq_true, false_or, or_false, false_and, and_false]; done) | (simp only [h95, h115, hv1, hv2, hv4, hv5, hv7, hv8, hv10, hv11, hv13, hv14, hv92, hv96, hv97, hv108, if_true, if_false, true_or, or_true, true_and, and_true, not_true_eq_false, not_false_eq_true, false_or, or_false, false_and, and_false]; done))
                              · skip
                                refine g_iinc X104 (1 : Int32) at_232 rfl rfl #[.val (.int v7), .val (.int v13), .val (.int v14), .val (.int v11), .val (.int m), .val (.long gg), .second, u15, .val (.int (2 : Int32)), .val (.int v92), .val (.long v97), .second, .val (.ref b98), .val (.int (v108 + (1 : Int32))), .unset] rfl 235 rfl ?_
                                exact k235_14 ((v108 + (1 : Int32))) (by first | (simp only [if_pos h95, if_neg h115]; done) | (simp only [if_pos h95, if_neg h115]; done) | (simp only [apply_ite Int32.toInt64, if_pos h95, if_neg h115]; done) | (simp only [h95, h115, if_true, if_false, true_or, or_true, true_and, and_true, not_true_eq_false, not_false_eq_true, false_or, or_false, false_and, and_false]; done) | (simp only [h95, h115, hv1, hv2, hv4, hv5, hv7, hv8, hv10, hv11, hv13, hv14, hv92, hv96, hv97, hv108, if_true, if_false, true_or, or_true, true_and, and_true, not_true_eq_false, not_false_eq_true, false_or, or_false, false_and, and_false]; done))
                            · exact absurd (by decide) h114
                          refine g_ifN X104 z_le at_204 218 (by decide) (by decide) 207 rfl (fun h116 => ?_) (fun h116 => ?_)
                          · skip
                            refine g_iloadN X104 at_207 rfl 208 rfl ?_
                            refine g_i2l X104 at_208 209 rfl ?_
                            refine g_lload X104 at_209 rfl 211 rfl ?_
                            refine g_lcmp X104 at_211 212 rfl ?_
                            refine g_if X104 l_lt at_212 218 (by decide) (by decide) 215 rfl (fun h117 => ?_) (fun h117 => ?_)
                            · skip
                              exact k218_13 ((0 : Int32)) (by first | (simp only [if_pos h95, if_pos h117]; done) | (simp only [if_pos h95, if_pos h117]; done) | (simp only [apply_ite Int32.toInt64, if_pos h95, if_pos h117]; done) | (simp only [h95, h117, if_true, if_false, true_or, or_true, true_and, and_true, not_true_eq_false, not_false_eq_true, false_or, or_false, false_and, and_false]; done) | (simp only [h95, h117, hv1, hv2, hv4, hv5, hv7, hv8, hv10, hv11, hv13, hv14, hv92, hv96, hv97, if_true, if_false, true_or, or_true, true_and, and_true, not_true_eq_false, not_false_eq_true, false_or, or_false, false_and, and_false]; done))
                            · skip
                              refine g_iinc X104 (1 : Int32) at_215 rfl rfl #[.val (.int v7), .val (.int v13), .val (.int v14), .val (.int v11), .val (.int m), .val (.long gg), .second, u15, .val (.int (2 : Int32)), .val (.int v92), .val (.long v97), .second, .val (.ref b98), .val (.int ((0 : Int32) + (1 : Int32))), .unset] rfl 218 rfl ?_
                              rw [(by decide : (0 : Int32) + (1 : Int32) = (1 : Int32))]
                              exact k218_13 ((1 : Int32)) (by first | (simp only [if_pos h95, if_neg h117]; done) | (simp only [if_pos h95, if_neg h117]; done) | (simp only [apply_ite Int32.toInt64, if_pos h95, if_neg h117]; done) | (simp only [h95, h117, if_true, if_false, true_or, or_true, true_and, and_true, not_true_eq_false, not_false_eq_true, false_or, or_false, false_and, and_false]; done) | (simp only [h95, h117, hv1, hv2, hv4, hv5, hv7, hv8, hv10, hv11, hv13, hv14, hv92, hv96, hv97, if_true, if_false, true_or, or_true, true_and, and_true, not_true_eq_false, not_false_eq_true, false_or, or_false, false_and, and_false]; done))
                          · exact absurd (by decide) h116
                    · exact absurd (by decide) h103
                  · exact absurd (by decide) h100
                refine g_ifN X0 z_ne at_99 107 (by decide) (by decide) 102 rfl (fun h118 => ?_) (fun h118 => ?_)
                · skip
                  refine g_iloadN X0 at_102 rfl 103 rfl ?_
                  refine g_i2l X0 at_103 104 rfl ?_
                  refine g_goto X0 at_104 129 (by decide) (by decide) ?_
                  exact k129_12 (v7.toInt64) (by first | (simp only [if_pos h95, if_pos h118]; done) | (simp only [if_pos h95, if_pos h118]; done) | (simp only [apply_ite Int32.toInt64, if_pos h95, if_pos h118]; done) | (simp only [h95, h118, if_true, if_false, true_or, or_true, true_and, and_true, not_true_eq_false, not_false_eq_true, false_or, or_false, false_and, and_false]; done) | (simp only [h95, h118, hv1, hv2, hv4, hv5, hv7, hv8, hv10, hv11, hv13, hv14, hv92, if_true, if_false, true_or, or_true, true_and, and_true, not_true_eq_false, not_false_eq_true, false_or, or_false, false_and, and_false]; done))
                · skip
                  refine g_iload X0 at_107 rfl 109 rfl ?_
                  refine g_iconst X0 (1 : Int32) at_109 rfl 110 rfl ?_
                  have k128_15 : ∀ (v119 : Int32), v119 = (if (v92 &&& (3 : Int32)) = (1 : Int32) then v13 else (if (v92 &&& (3 : Int32)) = (2 : Int32) then v14 else v11)) → Go k n0 (Q0 a b c d m gg h0) 16 128 T0 128 #[.val (.int v7), .val (.int v13), .val (.int v14), .val (.int v11), .val (.int m), .val (.long gg), .second, u15, .val (.int (2 : Int32)), .val (.int v92), .unset, .unset, .val (.int (v92 &&& (3 : Int32))), .unset, .unset] [(.int v119)] := by
                    intro v119 hv119
                    refine g_i2l X0 at_128 129 rfl ?_
                    exact k129_12 (v119.toInt64) (by first | (simp only [if_pos h95, if_neg h118]; done) | (simp only [hv119, if_pos h95, if_neg h118]; done) | (simp only [hv119, apply_ite Int32.toInt64, if_pos h95, if_neg h118]; done) | (simp only [h95, h118, if_true, if_false, true_or, or_true, true_and, and_true, not_true_eq_false, not_false_eq_true, false_or, or_false, false_and, and_false]; done) | (simp only [h95, h118, hv1, hv2, hv4, hv5, hv7, hv8, hv10, hv11, hv13, hv14, hv92, hv119, if_true, if_false, true_or, or_true, true_and, and_true, not_true_eq_false, not_false_eq_true, false_or, or_false, false_and, and_false]; done))
                  refine g_icmpN X0 i_ne at_110 117 (by decide) (by decide) 113 rfl (fun h120 => ?_) (fun h120 => ?_)
                  · skip
                    refine g_iloadN X0 at_113 rfl 114 rfl ?_
                    refine g_goto X0 at_114 128 (by decide) (by decide) ?_
                    exact k128_15 (v13) (by first | (simp only [if_pos h95, if_neg h118, if_pos h120]; done) | (simp only [if_pos h95, if_neg h118, if_pos h120]; done) | (simp only [apply_ite Int32.toInt64, if_pos h95, if_neg h118, if_pos h120]; done) | (simp only [h95, h118, h120, if_true, if_false, true_or, or_true, true_and, and_true, not_true_eq_false, not_false_eq_true, false_or, or_false, false_and, and_false]; done) | (simp only [h95, h118, h120, hv1, hv2, hv4, hv5, hv7, hv8, hv10, hv11, hv13, hv14, hv92, if_true, if_false, true_or, or_true, true_and, and_true, not_true_eq_false, not_false_eq_true, false_or, or_false, false_and, and_false]; done))
                  · skip
                    refine g_iload X0 at_117 rfl 119 rfl ?_
                    refine g_iconst X0 (2 : Int32) at_119 rfl 120 rfl ?_
                    refine g_icmpN X0 i_ne at_120 127 (by decide) (by decide) 123 rfl (fun h121 => ?_) (fun h121 => ?_)
                    · skip
                      refine g_iloadN X0 at_123 rfl 124 rfl ?_
                      refine g_goto X0 at_124 128 (by decide) (by decide) ?_
                      exact k128_15 (v14) (by first | (simp only [if_pos h95, if_neg h118, if_neg h120, if_pos h121]; done) | (simp only [if_pos h95, if_neg h118, if_neg h120, if_pos h121]; done) | (simp only [apply_ite Int32.toInt64, if_pos h95, if_neg h118, if_neg h120, if_pos h121]; done) | (simp only [h95, h118, h120, h121, if_true, if_false, true_or, or_true, true_and, and_true, not_true_eq_false, not_false_eq_true, false_or, or_false, false_and, and_false]; done) | (simp only [h95, h118, h120, h121, hv1, hv2, hv4, hv5, hv7, hv8, hv10, hv11, hv13, hv14, hv92, if_true, if_false, true_or, or_true, true_and, and_true, not_true_eq_false, not_false_eq_true, false_or, or_false, false_and, and_false]; done))
                    · skip
                      refine g_iloadN X0 at_127 rfl 128 rfl ?_
                      exact k128_15 (v11) (by first | (simp only [if_pos h95, if_neg h118, if_neg h120, if_neg h121]; done) | (simp only [if_pos h95, if_neg h118, if_neg h120, if_neg h121]; done) | (simp only [apply_ite Int32.toInt64, if_pos h95, if_neg h118, if_neg h120, if_neg h121]; done) | (simp only [h95, h118, h120, h121, if_true, if_false, true_or, or_true, true_and, and_true, not_true_eq_false, not_false_eq_true, false_or, or_false, false_and, and_false]; done) | (simp only [h95, h118, h120, h121, hv1, hv2, hv4, hv5, hv7, hv8, hv10, hv11, hv13, hv14, hv92, if_true, if_false, true_or, or_true, true_and, and_true, not_true_eq_false, not_false_eq_true, false_or, or_false, false_and, and_false]; done))
              · skip
                refine g_lload X0 at_146 rfl 148 rfl ?_
                refine g_lstore X0 at_148 #[.val (.int v7), .val (.int v13), .val (.int v14), .val (.int v11), .val (.int m), .val (.long gg), .second, u15, .val (.int (2 : Int32)), .val (.int v92), .val (.long gg), .second, .unset, .unset, .unset] rfl 150 rfl ?_
                refine g_iload X0 at_150 rfl 152 rfl ?_
                refine g_newP (aty := .int) X0 (w1 hw) 2 2 (by decide) (by decide) (by decide) at_152 (by decide) (by decide) 154 rfl (fun T122 h122 b122 X122 g122 E122 A122 => ?_)
                have g_b122 : n0 ≤ b122 := Nat.le_trans Z0 (Nat.le_of_eq g122.symm)
                have z123 : n0 ≤ h122.size := Nat.le_trans Z0 E122.1
                refine g_astore X122 at_154 rfl #[.val (.int v7), .val (.int v13), .val (.int v14), .val (.int v11), .val (.int m), .val (.long gg), .second, u15, .val (.int (2 : Int32)), .val (.int v92), .val (.long gg), .second, .val (.ref b122), .unset, .unset] rfl 156 rfl ?_
                refine g_iload X122 at_156 rfl 158 rfl ?_
                refine g_ifN X122 z_le at_158 166 (by decide) (by decide) 161 rfl (fun h124 => ?_) (fun h124 => ?_)
                · skip
                  refine g_aload X122 at_161 rfl rfl 163 rfl ?_
                  refine g_iconst X122 (0 : Int32) at_163 rfl 164 rfl ?_
                  refine g_iloadN X122 at_164 rfl 165 rfl ?_
                  refine g_iastore X122 A122 0 (by decide) (by decide) g_b122 at_165 166 rfl (fun T125 h125 X125 W125 => ?_)
                  have z126 : n0 ≤ h125.size := Nat.le_trans z123 (Nat.le_of_eq W125.size.symm)
                  have A125 := AI.set A122 W125
                  refine g_iload X125 at_166 rfl 168 rfl ?_
                  refine g_iconst X125 (1 : Int32) at_168 rfl 169 rfl ?_
                  refine g_icmpN X125 i_le at_169 177 (by decide) (by decide) 172 rfl (fun h127 => ?_) (fun h127 => ?_)
                  · skip
                    refine g_aload X125 at_172 rfl rfl 174 rfl ?_
                    refine g_iconst X125 (1 : Int32) at_174 rfl 175 rfl ?_
                    refine g_iloadN X125 at_175 rfl 176 rfl ?_
                    refine g_iastore X125 A125 1 (by decide) (by decide) g_b122 at_176 177 rfl (fun T128 h128 X128 W128 => ?_)
                    have z129 : n0 ≤ h128.size := Nat.le_trans z126 (Nat.le_of_eq W128.size.symm)
                    have A128 := AI.set A125 W128
                    refine g_iload X128 at_177 rfl 179 rfl ?_
                    refine g_iconst X128 (2 : Int32) at_179 rfl 180 rfl ?_
                    refine g_icmpN X128 i_le at_180 188 (by decide) (by decide) 183 rfl (fun h130 => ?_) (fun h130 => ?_)
                    · exact absurd h130 (by decide)
                    · skip
                      refine g_iload X128 at_188 rfl 190 rfl ?_
                      refine g_iconst X128 (3 : Int32) at_190 rfl 191 rfl ?_
                      refine g_icmpN X128 i_le at_191 199 (by decide) (by decide) 194 rfl (fun h131 => ?_) (fun h131 => ?_)
                      · exact absurd h131 (by decide)
                      · skip
                        refine g_iconst X128 (0 : Int32) at_199 rfl 200 rfl ?_
                        refine g_istore X128 at_200 #[.val (.int v7), .val (.int v13), .val (.int v14), .val (.int v11), .val (.int m), .val (.long gg), .second, u15, .val (.int (2 : Int32)), .val (.int v92), .val (.long gg), .second, .val (.ref b122), .val (.int (0 : Int32)), .unset] rfl 202 rfl ?_
                        refine g_iload X128 at_202 rfl 204 rfl ?_
                        have k218_16 : ∀ (v132 : Int32), v132 = (if v7.toInt64 < gg then (0 : Int32) else (1 : Int32)) → Go k n0 (Q0 a b c d m gg h0) 16 128 T128 218 #[.val (.int v7), .val (.int v13), .val (.int v14), .val (.int v11), .val (.int m), .val (.long gg), .second, u15, .val (.int (2 : Int32)), .val (.int v92), .val (.long gg), .second, .val (.ref b122), .val (.int v132), .unset] [] := by
                          intro v132 hv132
                          refine g_iload X128 at_218 rfl 220 rfl ?_
                          refine g_iconst X128 (1 : Int32) at_220 rfl 221 rfl ?_
                          have k235_17 : ∀ (v133 : Int32), v133 = (if v13.toInt64 < gg then v132 else (v132 + (1 : Int32))) → Go k n0 (Q0 a b c d m gg h0) 16 128 T128 235 #[.val (.int v7), .val (.int v13), .val (.int v14), .val (.int v11), .val (.int m), .val (.long gg), .second, u15, .val (.int (2 : Int32)), .val (.int v92), .val (.long gg), .second, .val (.ref b122), .val (.int v133), .unset] [] := by
                            intro v133 hv133
                            refine g_iload X128 at_235 rfl 237 rfl ?_
                            refine g_iconst X128 (2 : Int32) at_237 rfl 238 rfl ?_
                            refine g_icmpN X128 i_le at_238 252 (by decide) (by decide) 241 rfl (fun h134 => ?_) (fun h134 => ?_)
                            · exact absurd h134 (by decide)
                            · skip
                              refine g_iload X128 at_252 rfl 254 rfl ?_
                              refine g_iconst X128 (3 : Int32) at_254 rfl 255 rfl ?_
                              refine g_icmpN X128 i_le at_255 269 (by decide) (by decide) 258 rfl (fun h135 => ?_) (fun h135 => ?_)
                              · exact absurd h135 (by decide)
                              · skip
                                refine g_aload X128 at_269 rfl rfl 271 rfl ?_
                                refine g_lload X128 at_271 rfl 273 rfl ?_
                                have AA : AI Z h128 b122 .int 2 (fun i => .int ((own_f v7 v13 v14 v11) i)) := AI.to A128 (fun i hi => by (have q : i = 0 ∨ i = 1 := by omega); rcases q with rfl | rfl <;> rfl)
                                refine g_callS X128 [(.ref b122), (.long gg)] [] (rm1 hw n0 b122 gg 2 (own_f v7 v13 v14 v11) h128 AA (own_sorted hnet.1 hnet.2.1 hnet.2.2)) (w2 hw) (w3 hw) (w4 hw) (w5 hw) (by decide) pd0 rfl rfl (by decide) (Nat.le_of_ble_eq_true rfl) (by decide) (by decide) at_273 rfl 276 rfl (fun v136 T136 h136 X136 q136 => ?_)
                                obtain ⟨⟨r, rfl, r1, r2, r3⟩, rfl⟩ := q136
                                show Go k n0 (Q0 a b c d m gg h0) 16 128 T136 276 #[.val (.int v7), .val (.int v13), .val (.int v14), .val (.int v11), .val (.int m), .val (.long gg), .second, u15, .val (.int (2 : Int32)), .val (.int v92), .val (.long gg), .second, .val (.ref b122), .val (.int v133), .unset] [(.int r)]
                                refine g_istore X136 at_276 #[.val (.int v7), .val (.int v13), .val (.int v14), .val (.int v11), .val (.int m), .val (.long gg), .second, u15, .val (.int (2 : Int32)), .val (.int v92), .val (.long gg), .second, .val (.ref b122), .val (.int v133), .val (.int r)] rfl 278 rfl ?_
                                refine g_iload X136 at_278 rfl 280 rfl ?_
                                refine g_iload X136 at_280 rfl 282 rfl ?_
                                refine g_icmpN X136 i_ne at_282 289 (by decide) (by decide) 285 rfl (fun h137 => ?_) (fun h137 => ?_)
                                · skip
                                  refine g_iconst X136 (1 : Int32) at_285 rfl 286 rfl ?_
                                  refine g_goto X136 at_286 290 (by decide) (by decide) ?_
                                  exact g_retZ X136 at_290 (by decide) (by decide) own_one
                                · skip
                                  refine g_iconst X136 (0 : Int32) at_289 rfl 290 rfl ?_
                                  exfalso
                                  refine h137 (Int32.toInt_inj.mp ?_)
                                  have y0 : ((0 : Nat) : Int) < r.toInt ↔ gg.toInt ≤ v7.toInt := r3 0 (by decide)
                                  have y1 : ((1 : Nat) : Int) < r.toInt ↔ gg.toInt ≤ v13.toInt := r3 1 (by decide)
                                  rcases own_cnt own_z0 (by decide) hv132 with ⟨u0, t0⟩ | ⟨u0, t0⟩
                                  · skip
                                    rcases own_cnt t0 (by decide) hv133 with ⟨u1, t1⟩ | ⟨u1, t1⟩
                                    · skip
                                      have e0 := t1; omega
                                    · skip
                                      have e0 := t1; omega
                                  · skip
                                    rcases own_cnt t0 (by decide) hv133 with ⟨u1, t1⟩ | ⟨u1, t1⟩
                                    · skip
                                      have e0 := t1; omega
                                    · skip
                                      have e0 := t1; omega
                          refine g_icmpN X128 i_le at_221 235 (by decide) (by decide) 224 rfl (fun h138 => ?_) (fun h138 => ?_)
                          · skip
                            refine g_iloadN X128 at_224 rfl 225 rfl ?_
                            refine g_i2l X128 at_225 226 rfl ?_
                            refine g_lload X128 at_226 rfl 228 rfl ?_
                            refine g_lcmp X128 at_228 229 rfl ?_
                            refine g_if X128 l_lt at_229 235 (by decide) (by decide) 232 rfl (fun h139 => ?_) (fun h139 => ?_)
                            · skip
                              exact k235_17 (v132) (by first | (simp only [if_neg h95, if_pos h139]; done) | (simp only [if_neg h95, if_pos h139]; done) | (simp only [apply_ite Int32.toInt64, if_neg h95, if_pos h139]; done) | (simp only [h95, h139, if_true, if_false, true_or, or_true, true_and, and_true, not_true_eq_false, not_false_eq_true, false_or, or_false, false_and, and_false]; done) | (simp only [h95, h139, hv1, hv2, hv4, hv5, hv7, hv8, hv10, hv11, hv13, hv14, hv92, hv132, if_true, if_false, true_or, or_true, true_and, and_true, not_true_eq_false, not_false_eq_true, false_or, or_false, false_and, and_false]; done))
                            · skip
                              refine g_iinc X128 (1 : Int32) at_232 rfl rfl #[.val (.int v7), .val (.int v13), .val (.int v14), .val (.int v11), .val (.int m), .val (.long gg), .second, u15, .val (.int (2 : Int32)), .val (.int v92), .val (.long gg), .second, .val (.ref b122), .val (.int (v132 + (1 : Int32))), .unset] rfl 235 rfl ?_
                              exact k235_17 ((v132 + (1 : Int32))) (by first | (simp only [if_neg h95, if_neg h139]; done) | (simp only [if_neg h95, if_neg h139]; done) | (simp only [apply_ite Int32.toInt64, if_neg h95, if_neg h139]; done) | (simp only [h95, h139, if_true, if_false, true_or, or_true, true_and, and_true, not_true_eq_false, not_false_eq_true, false_or, or_false, false_and, and_false]; done) | (simp only [h95, h139, hv1, hv2, hv4, hv5, hv7, hv8, hv10, hv11, hv13, hv14, hv92, hv132, if_true, if_false, true_or, or_true, true_and, and_true, not_true_eq_false, not_false_eq_true, false_or, or_false, false_and, and_false]; done))
                          · exact absurd (by decide) h138
                        refine g_ifN X128 z_le at_204 218 (by decide) (by decide) 207 rfl (fun h140 => ?_) (fun h140 => ?_)
                        · skip
                          refine g_iloadN X128 at_207 rfl 208 rfl ?_
                          refine g_i2l X128 at_208 209 rfl ?_
                          refine g_lload X128 at_209 rfl 211 rfl ?_
                          refine g_lcmp X128 at_211 212 rfl ?_
                          refine g_if X128 l_lt at_212 218 (by decide) (by decide) 215 rfl (fun h141 => ?_) (fun h141 => ?_)
                          · skip
                            exact k218_16 ((0 : Int32)) (by first | (simp only [if_neg h95, if_pos h141]; done) | (simp only [if_neg h95, if_pos h141]; done) | (simp only [apply_ite Int32.toInt64, if_neg h95, if_pos h141]; done) | (simp only [h95, h141, if_true, if_false, true_or, or_true, true_and, and_true, not_true_eq_false, not_false_eq_true, false_or, or_false, false_and, and_false]; done) | (simp only [h95, h141, hv1, hv2, hv4, hv5, hv7, hv8, hv10, hv11, hv13, hv14, hv92, if_true, if_false, true_or, or_true, true_and, and_true, not_true_eq_false, not_false_eq_true, false_or, or_false, false_and, and_false]; done))
                          · skip
                            refine g_iinc X128 (1 : Int32) at_215 rfl rfl #[.val (.int v7), .val (.int v13), .val (.int v14), .val (.int v11), .val (.int m), .val (.long gg), .second, u15, .val (.int (2 : Int32)), .val (.int v92), .val (.long gg), .second, .val (.ref b122), .val (.int ((0 : Int32) + (1 : Int32))), .unset] rfl 218 rfl ?_
                            rw [(by decide : (0 : Int32) + (1 : Int32) = (1 : Int32))]
                            exact k218_16 ((1 : Int32)) (by first | (simp only [if_neg h95, if_neg h141]; done) | (simp only [if_neg h95, if_neg h141]; done) | (simp only [apply_ite Int32.toInt64, if_neg h95, if_neg h141]; done) | (simp only [h95, h141, if_true, if_false, true_or, or_true, true_and, and_true, not_true_eq_false, not_false_eq_true, false_or, or_false, false_and, and_false]; done) | (simp only [h95, h141, hv1, hv2, hv4, hv5, hv7, hv8, hv10, hv11, hv13, hv14, hv92, if_true, if_false, true_or, or_true, true_and, and_true, not_true_eq_false, not_false_eq_true, false_or, or_false, false_and, and_false]; done))
                        · exact absurd (by decide) h140
                  · exact absurd (by decide) h127
                · exact absurd (by decide) h124
            · skip
              refine g_iload X0 at_74 rfl 76 rfl ?_
              refine g_bipush X0 (8 : Int32) at_76 rfl 78 rfl ?_
              refine g_iushr X0 at_78 79 rfl ?_
              refine g_bipush X0 (15 : Int32) at_79 rfl 81 rfl ?_
              refine g_iand X0 at_81 82 rfl ?_
              refine g_istore X0 at_82 #[.val (.int v7), .val (.int v13), .val (.int v14), .val (.int v11), .val (.int m), .val (.long gg), .second, u15, .val (.int (3 : Int32)), .val (.int (((m.toUInt32 >>> ((8 : Int32) &&& 31).toUInt32).toInt32) &&& (15 : Int32))), .unset, .unset, .unset, .unset, .unset] rfl 84 rfl ?_
              generalize hv142 : (((m.toUInt32 >>> ((8 : Int32) &&& 31).toUInt32).toInt32) &&& (15 : Int32)) = v142
              refine g_iload X0 at_84 rfl 86 rfl ?_
              refine g_bipush X0 (12 : Int32) at_86 rfl 88 rfl ?_
              refine g_icmpN X0 i_ge at_88 146 (by decide) (by decide) 91 rfl (fun h145 => ?_) (fun h145 => ?_)
              · skip
                refine g_iload X0 at_91 rfl 93 rfl ?_
                refine g_iconst X0 (3 : Int32) at_93 rfl 94 rfl ?_
                refine g_iand X0 at_94 95 rfl ?_
                refine g_istore X0 at_95 #[.val (.int v7), .val (.int v13), .val (.int v14), .val (.int v11), .val (.int m), .val (.long gg), .second, u15, .val (.int (3 : Int32)), .val (.int v142), .unset, .unset, .val (.int (v142 &&& (3 : Int32))), .unset, .unset] rfl 97 rfl ?_
                refine g_iload X0 at_97 rfl 99 rfl ?_
                have k129_18 : ∀ (v146 : Int64), v146 = (if (v142 &&& (3 : Int32)) = 0 then v7.toInt64 else (if (v142 &&& (3 : Int32)) = (1 : Int32) then v13.toInt64 else (if (v142 &&& (3 : Int32)) = (2 : Int32) then v14.toInt64 else v11.toInt64))) → Go k n0 (Q0 a b c d m gg h0) 16 128 T0 129 #[.val (.int v7), .val (.int v13), .val (.int v14), .val (.int v11), .val (.int m), .val (.long gg), .second, u15, .val (.int (3 : Int32)), .val (.int v142), .unset, .unset, .val (.int (v142 &&& (3 : Int32))), .unset, .unset] [(.long v146)] := by
                  intro v146 hv146
                  refine g_lstore X0 at_129 #[.val (.int v7), .val (.int v13), .val (.int v14), .val (.int v11), .val (.int m), .val (.long gg), .second, u15, .val (.int (3 : Int32)), .val (.int v142), .unset, .unset, .val (.int (v142 &&& (3 : Int32))), .val (.long v146), .second] rfl 131 rfl ?_
                  refine g_lload X0 at_131 rfl 133 rfl ?_
                  refine g_iload X0 at_133 rfl 135 rfl ?_
                  refine g_iconst X0 (2 : Int32) at_135 rfl 136 rfl ?_
                  refine g_iushr X0 at_136 137 rfl ?_
                  refine g_i2l X0 at_137 138 rfl ?_
                  refine g_ladd X0 at_138 139 rfl ?_
                  refine g_lconst X0 (1 : Int64) at_139 rfl 140 rfl ?_
                  refine g_lsub X0 at_140 141 rfl ?_
                  refine g_lstore X0 at_141 #[.val (.int v7), .val (.int v13), .val (.int v14), .val (.int v11), .val (.int m), .val (.long gg), .second, u15, .val (.int (3 : Int32)), .val (.int v142), .val (.long ((v146 + ((v142.toUInt32 >>> ((2 : Int32) &&& 31).toUInt32).toInt32).toInt64) - (1 : Int64))), .second, .val (.int (v142 &&& (3 : Int32))), .val (.long v146), .second] rfl 143 rfl ?_
                  generalize hv147 : ((v146 + ((v142.toUInt32 >>> ((2 : Int32) &&& 31).toUInt32).toInt32).toInt64) - (1 : Int64)) = v147
                  refine g_goto X0 at_143 150 (by decide) (by decide) ?_
                  refine g_iload X0 at_150 rfl 152 rfl ?_
                  refine g_newP (aty := .int) X0 (w1 hw) 3 3 (by decide) (by decide) (by decide) at_152 (by decide) (by decide) 154 rfl (fun T148 h148 b148 X148 g148 E148 A148 => ?_)
                  have g_b148 : n0 ≤ b148 := Nat.le_trans Z0 (Nat.le_of_eq g148.symm)
                  have z149 : n0 ≤ h148.size := Nat.le_trans Z0 E148.1
                  refine g_astore X148 at_154 rfl #[.val (.int v7), .val (.int v13), .val (.int v14), .val (.int v11), .val (.int m), .val (.long gg), .second, u15, .val (.int (3 : Int32)), .val (.int v142), .val (.long v147), .second, .val (.ref b148), .val (.long v146), .second] rfl 156 rfl ?_
                  refine g_iload X148 at_156 rfl 158 rfl ?_
                  refine g_ifN X148 z_le at_158 166 (by decide) (by decide) 161 rfl (fun h150 => ?_) (fun h150 => ?_)
                  · skip
                    refine g_aload X148 at_161 rfl rfl 163 rfl ?_
                    refine g_iconst X148 (0 : Int32) at_163 rfl 164 rfl ?_
                    refine g_iloadN X148 at_164 rfl 165 rfl ?_
                    refine g_iastore X148 A148 0 (by decide) (by decide) g_b148 at_165 166 rfl (fun T151 h151 X151 W151 => ?_)
                    have z152 : n0 ≤ h151.size := Nat.le_trans z149 (Nat.le_of_eq W151.size.symm)
                    have A151 := AI.set A148 W151
                    refine g_iload X151 at_166 rfl 168 rfl ?_
                    refine g_iconst X151 (1 : Int32) at_168 rfl 169 rfl ?_
                    refine g_icmpN X151 i_le at_169 177 (by decide) (by decide) 172 rfl (fun h153 => ?_) (fun h153 => ?_)
                    · skip
                      refine g_aload X151 at_172 rfl rfl 174 rfl ?_
                      refine g_iconst X151 (1 : Int32) at_174 rfl 175 rfl ?_
                      refine g_iloadN X151 at_175 rfl 176 rfl ?_
                      refine g_iastore X151 A151 1 (by decide) (by decide) g_b148 at_176 177 rfl (fun T154 h154 X154 W154 => ?_)
                      have z155 : n0 ≤ h154.size := Nat.le_trans z152 (Nat.le_of_eq W154.size.symm)
                      have A154 := AI.set A151 W154
                      refine g_iload X154 at_177 rfl 179 rfl ?_
                      refine g_iconst X154 (2 : Int32) at_179 rfl 180 rfl ?_
                      refine g_icmpN X154 i_le at_180 188 (by decide) (by decide) 183 rfl (fun h156 => ?_) (fun h156 => ?_)
                      · skip
                        refine g_aload X154 at_183 rfl rfl 185 rfl ?_
                        refine g_iconst X154 (2 : Int32) at_185 rfl 186 rfl ?_
                        refine g_iloadN X154 at_186 rfl 187 rfl ?_
                        refine g_iastore X154 A154 2 (by decide) (by decide) g_b148 at_187 188 rfl (fun T157 h157 X157 W157 => ?_)
                        have z158 : n0 ≤ h157.size := Nat.le_trans z155 (Nat.le_of_eq W157.size.symm)
                        have A157 := AI.set A154 W157
                        refine g_iload X157 at_188 rfl 190 rfl ?_
                        refine g_iconst X157 (3 : Int32) at_190 rfl 191 rfl ?_
                        refine g_icmpN X157 i_le at_191 199 (by decide) (by decide) 194 rfl (fun h159 => ?_) (fun h159 => ?_)
                        · exact absurd h159 (by decide)
                        · skip
                          refine g_iconst X157 (0 : Int32) at_199 rfl 200 rfl ?_
                          refine g_istore X157 at_200 #[.val (.int v7), .val (.int v13), .val (.int v14), .val (.int v11), .val (.int m), .val (.long gg), .second, u15, .val (.int (3 : Int32)), .val (.int v142), .val (.long v147), .second, .val (.ref b148), .val (.int (0 : Int32)), .unset] rfl 202 rfl ?_
                          refine g_iload X157 at_202 rfl 204 rfl ?_
                          have k218_19 : ∀ (v160 : Int32), v160 = (if v7.toInt64 < v147 then (0 : Int32) else (1 : Int32)) → Go k n0 (Q0 a b c d m gg h0) 16 128 T157 218 #[.val (.int v7), .val (.int v13), .val (.int v14), .val (.int v11), .val (.int m), .val (.long gg), .second, u15, .val (.int (3 : Int32)), .val (.int v142), .val (.long v147), .second, .val (.ref b148), .val (.int v160), .unset] [] := by
                            intro v160 hv160
                            refine g_iload X157 at_218 rfl 220 rfl ?_
                            refine g_iconst X157 (1 : Int32) at_220 rfl 221 rfl ?_
                            have k235_20 : ∀ (v161 : Int32), v161 = (if v13.toInt64 < v147 then v160 else (v160 + (1 : Int32))) → Go k n0 (Q0 a b c d m gg h0) 16 128 T157 235 #[.val (.int v7), .val (.int v13), .val (.int v14), .val (.int v11), .val (.int m), .val (.long gg), .second, u15, .val (.int (3 : Int32)), .val (.int v142), .val (.long v147), .second, .val (.ref b148), .val (.int v161), .unset] [] := by
                              intro v161 hv161
                              refine g_iload X157 at_235 rfl 237 rfl ?_
                              refine g_iconst X157 (2 : Int32) at_237 rfl 238 rfl ?_
                              have k252_21 : ∀ (v162 : Int32), v162 = (if v14.toInt64 < v147 then v161 else (v161 + (1 : Int32))) → Go k n0 (Q0 a b c d m gg h0) 16 128 T157 252 #[.val (.int v7), .val (.int v13), .val (.int v14), .val (.int v11), .val (.int m), .val (.long gg), .second, u15, .val (.int (3 : Int32)), .val (.int v142), .val (.long v147), .second, .val (.ref b148), .val (.int v162), .unset] [] := by
                                intro v162 hv162
                                refine g_iload X157 at_252 rfl 254 rfl ?_
                                refine g_iconst X157 (3 : Int32) at_254 rfl 255 rfl ?_
                                refine g_icmpN X157 i_le at_255 269 (by decide) (by decide) 258 rfl (fun h163 => ?_) (fun h163 => ?_)
                                · exact absurd h163 (by decide)
                                · skip
                                  refine g_aload X157 at_269 rfl rfl 271 rfl ?_
                                  refine g_lload X157 at_271 rfl 273 rfl ?_
                                  have AA : AI Z h157 b148 .int 3 (fun i => .int ((own_f v7 v13 v14 v11) i)) := AI.to A157 (fun i hi => by (have q : i = 0 ∨ i = 1 ∨ i = 2 := by omega); rcases q with rfl | rfl | rfl <;> rfl)
                                  refine g_callS X157 [(.ref b148), (.long v147)] [] (rm1 hw n0 b148 v147 3 (own_f v7 v13 v14 v11) h157 AA (own_sorted hnet.1 hnet.2.1 hnet.2.2)) (w2 hw) (w3 hw) (w4 hw) (w5 hw) (by decide) pd0 rfl rfl (by decide) (Nat.le_of_ble_eq_true rfl) (by decide) (by decide) at_273 rfl 276 rfl (fun v164 T164 h164 X164 q164 => ?_)
                                  obtain ⟨⟨r, rfl, r1, r2, r3⟩, rfl⟩ := q164
                                  show Go k n0 (Q0 a b c d m gg h0) 16 128 T164 276 #[.val (.int v7), .val (.int v13), .val (.int v14), .val (.int v11), .val (.int m), .val (.long gg), .second, u15, .val (.int (3 : Int32)), .val (.int v142), .val (.long v147), .second, .val (.ref b148), .val (.int v162), .unset] [(.int r)]
                                  refine g_istore X164 at_276 #[.val (.int v7), .val (.int v13), .val (.int v14), .val (.int v11), .val (.int m), .val (.long gg), .second, u15, .val (.int (3 : Int32)), .val (.int v142), .val (.long v147), .second, .val (.ref b148), .val (.int v162), .val (.int r)] rfl 278 rfl ?_
                                  refine g_iload X164 at_278 rfl 280 rfl ?_
                                  refine g_iload X164 at_280 rfl 282 rfl ?_
                                  refine g_icmpN X164 i_ne at_282 289 (by decide) (by decide) 285 rfl (fun h165 => ?_) (fun h165 => ?_)
                                  · skip
                                    refine g_iconst X164 (1 : Int32) at_285 rfl 286 rfl ?_
                                    refine g_goto X164 at_286 290 (by decide) (by decide) ?_
                                    exact g_retZ X164 at_290 (by decide) (by decide) own_one
                                  · skip
                                    refine g_iconst X164 (0 : Int32) at_289 rfl 290 rfl ?_
                                    exfalso
                                    refine h165 (Int32.toInt_inj.mp ?_)
                                    have y0 : ((0 : Nat) : Int) < r.toInt ↔ v147.toInt ≤ v7.toInt := r3 0 (by decide)
                                    have y1 : ((1 : Nat) : Int) < r.toInt ↔ v147.toInt ≤ v13.toInt := r3 1 (by decide)
                                    have y2 : ((2 : Nat) : Int) < r.toInt ↔ v147.toInt ≤ v14.toInt := r3 2 (by decide)
                                    rcases own_cnt own_z0 (by decide) hv160 with ⟨u0, t0⟩ | ⟨u0, t0⟩
                                    · skip
                                      rcases own_cnt t0 (by decide) hv161 with ⟨u1, t1⟩ | ⟨u1, t1⟩
                                      · skip
                                        rcases own_cnt t1 (by decide) hv162 with ⟨u2, t2⟩ | ⟨u2, t2⟩
                                        · skip
                                          have e0 := t2; omega
                                        · skip
                                          have e0 := t2; omega
                                      · skip
                                        rcases own_cnt t1 (by decide) hv162 with ⟨u2, t2⟩ | ⟨u2, t2⟩
                                        · skip
                                          have e0 := t2; omega
                                        · skip
                                          have e0 := t2; omega
                                    · skip
                                      rcases own_cnt t0 (by decide) hv161 with ⟨u1, t1⟩ | ⟨u1, t1⟩
                                      · skip
                                        rcases own_cnt t1 (by decide) hv162 with ⟨u2, t2⟩ | ⟨u2, t2⟩
                                        · skip
                                          have e0 := t2; omega
                                        · skip
                                          have e0 := t2; omega
                                      · skip
                                        rcases own_cnt t1 (by decide) hv162 with ⟨u2, t2⟩ | ⟨u2, t2⟩
                                        · skip
                                          have e0 := t2; omega
                                        · skip
                                          have e0 := t2; omega
                              refine g_icmpN X157 i_le at_238 252 (by decide) (by decide) 241 rfl (fun h166 => ?_) (fun h166 => ?_)
                              · skip
                                refine g_iloadN X157 at_241 rfl 242 rfl ?_
                                refine g_i2l X157 at_242 243 rfl ?_
                                refine g_lload X157 at_243 rfl 245 rfl ?_
                                refine g_lcmp X157 at_245 246 rfl ?_
                                refine g_if X157 l_lt at_246 252 (by decide) (by decide) 249 rfl (fun h167 => ?_) (fun h167 => ?_)
                                · skip
                                  exact k252_21 (v161) (by first | (simp only [if_pos h145, if_pos h167]; done) | (simp only [if_pos h145, if_pos h167]; done) | (simp only [apply_ite Int32.toInt64, if_pos h145, if_pos h167]; done) | (simp only [h145, h167, if_true, if_false, true_or, or_true, true_and, and_true, not_true_eq_false, not_false_eq_true, false_or, or_false, false_and, and_false]; done) | (simp only [h145, h167, hv1, hv2, hv4, hv5, hv7, hv8, hv10, hv11, hv13, hv14, hv142, hv146, hv147, hv160, hv161, if_true, if_false, true_or, or_true, true_and, and_true, not_true_eq_false, not_false_eq_true, false_or, or_false, false_and, and_false]; done))
                                · skip
                                  refine g_iinc X157 (1 : Int32) at_249 rfl rfl #[.val (.int v7), .val (.int v13), .val (.int v14), .val (.int v11), .val (.int m), .val (.long gg), .second, u15, .val (.int (3 : Int32)), .val (.int v142), .val (.long v147), .second, .val (.ref b148), .val (.int (v161 + (1 : Int32))), .unset] rfl 252 rfl ?_
                                  exact k252_21 ((v161 + (1 : Int32))) (by first | (simp only [if_pos h145, if_neg h167]; done) | (simp only [if_pos h145, if_neg h167]; done) | (simp only [apply_ite Int32.toInt64, if_pos h145, if_neg h167]; done) | (simp only [h145, h167, if_true, if_false, true_or, or_true, true_and, and_true, not_true_eq_false, not_false_eq_true, false_or, or_false, false_and, and_false]; done) | (simp only [h145, h167, hv1, hv2, hv4, hv5, hv7, hv8, hv10, hv11, hv13, hv14, hv142, hv146, hv147, hv160, hv161, if_true, if_false, true_or, or_true, true_and, and_true, not_true_eq_false, not_false_eq_true, false_or, or_false, false_and, and_false]; done))
                              · exact absurd (by decide) h166
                            refine g_icmpN X157 i_le at_221 235 (by decide) (by decide) 224 rfl (fun h168 => ?_) (fun h168 => ?_)
                            · skip
                              refine g_iloadN X157 at_224 rfl 225 rfl ?_
                              refine g_i2l X157 at_225 226 rfl ?_
                              refine g_lload X157 at_226 rfl 228 rfl ?_
                              refine g_lcmp X157 at_228 229 rfl ?_
                              refine g_if X157 l_lt at_229 235 (by decide) (by decide) 232 rfl (fun h169 => ?_) (fun h169 => ?_)
                              · skip
                                exact k235_20 (v160) (by first | (simp only [if_pos h145, if_pos h169]; done) | (simp only [if_pos h145, if_pos h169]; done) | (simp only [apply_ite Int32.toInt64, if_pos h145, if_pos h169]; done) | (simp only [h145, h169, if_true, if_false, true_or, or_true, true_and, and_true, not_true_eq_false, not_false_eq_true, false_or, or_false, false_and, and_false]; done) | (simp only [h145, h169, hv1, hv2, hv4, hv5, hv7, hv8, hv10, hv11, hv13, hv14, hv142, hv146, hv147, hv160, if_true, if_false, true_or, or_true, true_and, and_true, not_true_eq_false, not_false_eq_true, false_or, or_false, false_and, and_false]; done))
                              · skip
                                refine g_iinc X157 (1 : Int32) at_232 rfl rfl #[.val (.int v7), .val (.int v13), .val (.int v14), .val (.int v11), .val (.int m), .val (.long gg), .second, u15, .val (.int (3 : Int32)), .val (.int v142), .val (.long v147), .second, .val (.ref b148), .val (.int (v160 + (1 : Int32))), .unset] rfl 235 rfl ?_
                                exact k235_20 ((v160 + (1 : Int32))) (by first | (simp only [if_pos h145, if_neg h169]; done) | (simp only [if_pos h145, if_neg h169]; done) | (simp only [apply_ite Int32.toInt64, if_pos h145, if_neg h169]; done) | (simp only [h145, h169, if_true, if_false, true_or, or_true, true_and, and_true, not_true_eq_false, not_false_eq_true, false_or, or_false, false_and, and_false]; done) | (simp only [h145, h169, hv1, hv2, hv4, hv5, hv7, hv8, hv10, hv11, hv13, hv14, hv142, hv146, hv147, hv160, if_true, if_false, true_or, or_true, true_and, and_true, not_true_eq_false, not_false_eq_true, false_or, or_false, false_and, and_false]; done))
                            · exact absurd (by decide) h168
                          refine g_ifN X157 z_le at_204 218 (by decide) (by decide) 207 rfl (fun h170 => ?_) (fun h170 => ?_)
                          · skip
                            refine g_iloadN X157 at_207 rfl 208 rfl ?_
                            refine g_i2l X157 at_208 209 rfl ?_
                            refine g_lload X157 at_209 rfl 211 rfl ?_
                            refine g_lcmp X157 at_211 212 rfl ?_
                            refine g_if X157 l_lt at_212 218 (by decide) (by decide) 215 rfl (fun h171 => ?_) (fun h171 => ?_)
                            · skip
                              exact k218_19 ((0 : Int32)) (by first | (simp only [if_pos h145, if_pos h171]; done) | (simp only [if_pos h145, if_pos h171]; done) | (simp only [apply_ite Int32.toInt64, if_pos h145, if_pos h171]; done) | (simp only [h145, h171, if_true, if_false, true_or, or_true, true_and, and_true, not_true_eq_false, not_false_eq_true, false_or, or_false, false_and, and_false]; done) | (simp only [h145, h171, hv1, hv2, hv4, hv5, hv7, hv8, hv10, hv11, hv13, hv14, hv142, hv146, hv147, if_true, if_false, true_or, or_true, true_and, and_true, not_true_eq_false, not_false_eq_true, false_or, or_false, false_and, and_false]; done))
                            · skip
                              refine g_iinc X157 (1 : Int32) at_215 rfl rfl #[.val (.int v7), .val (.int v13), .val (.int v14), .val (.int v11), .val (.int m), .val (.long gg), .second, u15, .val (.int (3 : Int32)), .val (.int v142), .val (.long v147), .second, .val (.ref b148), .val (.int ((0 : Int32) + (1 : Int32))), .unset] rfl 218 rfl ?_
                              rw [(by decide : (0 : Int32) + (1 : Int32) = (1 : Int32))]
                              exact k218_19 ((1 : Int32)) (by first | (simp only [if_pos h145, if_neg h171]; done) | (simp only [if_pos h145, if_neg h171]; done) | (simp only [apply_ite Int32.toInt64, if_pos h145, if_neg h171]; done) | (simp only [h145, h171, if_true, if_false, true_or, or_true, true_and, and_true, not_true_eq_false, not_false_eq_true, false_or, or_false, false_and, and_false]; done) | (simp only [h145, h171, hv1, hv2, hv4, hv5, hv7, hv8, hv10, hv11, hv13, hv14, hv142, hv146, hv147, if_true, if_false, true_or, or_true, true_and, and_true, not_true_eq_false, not_false_eq_true, false_or, or_false, false_and, and_false]; done))
                          · exact absurd (by decide) h170
                      · exact absurd (by decide) h156
                    · exact absurd (by decide) h153
                  · exact absurd (by decide) h150
                refine g_ifN X0 z_ne at_99 107 (by decide) (by decide) 102 rfl (fun h172 => ?_) (fun h172 => ?_)
                · skip
                  refine g_iloadN X0 at_102 rfl 103 rfl ?_
                  refine g_i2l X0 at_103 104 rfl ?_
                  refine g_goto X0 at_104 129 (by decide) (by decide) ?_
                  exact k129_18 (v7.toInt64) (by first | (simp only [if_pos h145, if_pos h172]; done) | (simp only [if_pos h145, if_pos h172]; done) | (simp only [apply_ite Int32.toInt64, if_pos h145, if_pos h172]; done) | (simp only [h145, h172, if_true, if_false, true_or, or_true, true_and, and_true, not_true_eq_false, not_false_eq_true, false_or, or_false, false_and, and_false]; done) | (simp only [h145, h172, hv1, hv2, hv4, hv5, hv7, hv8, hv10, hv11, hv13, hv14, hv142, if_true, if_false, true_or, or_true, true_and, and_true, not_true_eq_false, not_false_eq_true, false_or, or_false, false_and, and_false]; done))
                · skip
                  refine g_iload X0 at_107 rfl 109 rfl ?_
                  refine g_iconst X0 (1 : Int32) at_109 rfl 110 rfl ?_
                  have k128_22 : ∀ (v173 : Int32), v173 = (if (v142 &&& (3 : Int32)) = (1 : Int32) then v13 else (if (v142 &&& (3 : Int32)) = (2 : Int32) then v14 else v11)) → Go k n0 (Q0 a b c d m gg h0) 16 128 T0 128 #[.val (.int v7), .val (.int v13), .val (.int v14), .val (.int v11), .val (.int m), .val (.long gg), .second, u15, .val (.int (3 : Int32)), .val (.int v142), .unset, .unset, .val (.int (v142 &&& (3 : Int32))), .unset, .unset] [(.int v173)] := by
                    intro v173 hv173
                    refine g_i2l X0 at_128 129 rfl ?_
                    exact k129_18 (v173.toInt64) (by first | (simp only [if_pos h145, if_neg h172]; done) | (simp only [hv173, if_pos h145, if_neg h172]; done) | (simp only [hv173, apply_ite Int32.toInt64, if_pos h145, if_neg h172]; done) | (simp only [h145, h172, if_true, if_false, true_or, or_true, true_and, and_true, not_true_eq_false, not_false_eq_true, false_or, or_false, false_and, and_false]; done) | (simp only [h145, h172, hv1, hv2, hv4, hv5, hv7, hv8, hv10, hv11, hv13, hv14, hv142, hv173, if_true, if_false, true_or, or_true, true_and, and_true, not_true_eq_false, not_false_eq_true, false_or, or_false, false_and, and_false]; done))
                  refine g_icmpN X0 i_ne at_110 117 (by decide) (by decide) 113 rfl (fun h174 => ?_) (fun h174 => ?_)
                  · skip
                    refine g_iloadN X0 at_113 rfl 114 rfl ?_
                    refine g_goto X0 at_114 128 (by decide) (by decide) ?_
                    exact k128_22 (v13) (by first | (simp only [if_pos h145, if_neg h172, if_pos h174]; done) | (simp only [if_pos h145, if_neg h172, if_pos h174]; done) | (simp only [apply_ite Int32.toInt64, if_pos h145, if_neg h172, if_pos h174]; done) | (simp only [h145, h172, h174, if_true, if_false, true_or, or_true, true_and, and_true, not_true_eq_false, not_false_eq_true, false_or, or_false, false_and, and_false]; done) | (simp only [h145, h172, h174, hv1, hv2, hv4, hv5, hv7, hv8, hv10, hv11, hv13, hv14, hv142, if_true, if_false, true_or, or_true, true_and, and_true, not_true_eq_false, not_false_eq_true, false_or, or_false, false_and, and_false]; done))
                  · skip
                    refine g_iload X0 at_117 rfl 119 rfl ?_
                    refine g_iconst X0 (2 : Int32) at_119 rfl 120 rfl ?_
                    refine g_icmpN X0 i_ne at_120 127 (by decide) (by decide) 123 rfl (fun h175 => ?_) (fun h175 => ?_)
                    · skip
                      refine g_iloadN X0 at_123 rfl 124 rfl ?_
                      refine g_goto X0 at_124 128 (by decide) (by decide) ?_
                      exact k128_22 (v14) (by first | (simp only [if_pos h145, if_neg h172, if_neg h174, if_pos h175]; done) | (simp only [if_pos h145, if_neg h172, if_neg h174, if_pos h175]; done) | (simp only [apply_ite Int32.toInt64, if_pos h145, if_neg h172, if_neg h174, if_pos h175]; done) | (simp only [h145, h172, h174, h175, if_true, if_false, true_or, or_true, true_and, and_true, not_true_eq_false, not_false_eq_true, false_or, or_false, false_and, and_false]; done) | (simp only [h145, h172, h174, h175, hv1, hv2, hv4, hv5, hv7, hv8, hv10, hv11, hv13, hv14, hv142, if_true, if_false, true_or, or_true, true_and, and_true, not_true_eq_false, not_false_eq_true, false_or, or_false, false_and, and_false]; done))
                    · skip
                      refine g_iloadN X0 at_127 rfl 128 rfl ?_
                      exact k128_22 (v11) (by first | (simp only [if_pos h145, if_neg h172, if_neg h174, if_neg h175]; done) | (simp only [if_pos h145, if_neg h172, if_neg h174, if_neg h175]; done) | (simp only [apply_ite Int32.toInt64, if_pos h145, if_neg h172, if_neg h174, if_neg h175]; done) | (simp only [h145, h172, h174, h175, if_true, if_false, true_or, or_true, true_and, and_true, not_true_eq_false, not_false_eq_true, false_or, or_false, false_and, and_false]; done) | (simp only [h145, h172, h174, h175, hv1, hv2, hv4, hv5, hv7, hv8, hv10, hv11, hv13, hv14, hv142, if_true, if_false, true_or, or_true, true_and, and_true, not_true_eq_false, not_false_eq_true, false_or, or_false, false_and, and_false]; done))
              · skip
                refine g_lload X0 at_146 rfl 148 rfl ?_
                refine g_lstore X0 at_148 #[.val (.int v7), .val (.int v13), .val (.int v14), .val (.int v11), .val (.int m), .val (.long gg), .second, u15, .val (.int (3 : Int32)), .val (.int v142), .val (.long gg), .second, .unset, .unset, .unset] rfl 150 rfl ?_
                refine g_iload X0 at_150 rfl 152 rfl ?_
                refine g_newP (aty := .int) X0 (w1 hw) 3 3 (by decide) (by decide) (by decide) at_152 (by decide) (by decide) 154 rfl (fun T176 h176 b176 X176 g176 E176 A176 => ?_)
                have g_b176 : n0 ≤ b176 := Nat.le_trans Z0 (Nat.le_of_eq g176.symm)
                have z177 : n0 ≤ h176.size := Nat.le_trans Z0 E176.1
                refine g_astore X176 at_154 rfl #[.val (.int v7), .val (.int v13), .val (.int v14), .val (.int v11), .val (.int m), .val (.long gg), .second, u15, .val (.int (3 : Int32)), .val (.int v142), .val (.long gg), .second, .val (.ref b176), .unset, .unset] rfl 156 rfl ?_
                refine g_iload X176 at_156 rfl 158 rfl ?_
                refine g_ifN X176 z_le at_158 166 (by decide) (by decide) 161 rfl (fun h178 => ?_) (fun h178 => ?_)
                · skip
                  refine g_aload X176 at_161 rfl rfl 163 rfl ?_
                  refine g_iconst X176 (0 : Int32) at_163 rfl 164 rfl ?_
                  refine g_iloadN X176 at_164 rfl 165 rfl ?_
                  refine g_iastore X176 A176 0 (by decide) (by decide) g_b176 at_165 166 rfl (fun T179 h179 X179 W179 => ?_)
                  have z180 : n0 ≤ h179.size := Nat.le_trans z177 (Nat.le_of_eq W179.size.symm)
                  have A179 := AI.set A176 W179
                  refine g_iload X179 at_166 rfl 168 rfl ?_
                  refine g_iconst X179 (1 : Int32) at_168 rfl 169 rfl ?_
                  refine g_icmpN X179 i_le at_169 177 (by decide) (by decide) 172 rfl (fun h181 => ?_) (fun h181 => ?_)
                  · skip
                    refine g_aload X179 at_172 rfl rfl 174 rfl ?_
                    refine g_iconst X179 (1 : Int32) at_174 rfl 175 rfl ?_
                    refine g_iloadN X179 at_175 rfl 176 rfl ?_
                    refine g_iastore X179 A179 1 (by decide) (by decide) g_b176 at_176 177 rfl (fun T182 h182 X182 W182 => ?_)
                    have z183 : n0 ≤ h182.size := Nat.le_trans z180 (Nat.le_of_eq W182.size.symm)
                    have A182 := AI.set A179 W182
                    refine g_iload X182 at_177 rfl 179 rfl ?_
                    refine g_iconst X182 (2 : Int32) at_179 rfl 180 rfl ?_
                    refine g_icmpN X182 i_le at_180 188 (by decide) (by decide) 183 rfl (fun h184 => ?_) (fun h184 => ?_)
                    · skip
                      refine g_aload X182 at_183 rfl rfl 185 rfl ?_
                      refine g_iconst X182 (2 : Int32) at_185 rfl 186 rfl ?_
                      refine g_iloadN X182 at_186 rfl 187 rfl ?_
                      refine g_iastore X182 A182 2 (by decide) (by decide) g_b176 at_187 188 rfl (fun T185 h185 X185 W185 => ?_)
                      have z186 : n0 ≤ h185.size := Nat.le_trans z183 (Nat.le_of_eq W185.size.symm)
                      have A185 := AI.set A182 W185
                      refine g_iload X185 at_188 rfl 190 rfl ?_
                      refine g_iconst X185 (3 : Int32) at_190 rfl 191 rfl ?_
                      refine g_icmpN X185 i_le at_191 199 (by decide) (by decide) 194 rfl (fun h187 => ?_) (fun h187 => ?_)
                      · exact absurd h187 (by decide)
                      · skip
                        refine g_iconst X185 (0 : Int32) at_199 rfl 200 rfl ?_
                        refine g_istore X185 at_200 #[.val (.int v7), .val (.int v13), .val (.int v14), .val (.int v11), .val (.int m), .val (.long gg), .second, u15, .val (.int (3 : Int32)), .val (.int v142), .val (.long gg), .second, .val (.ref b176), .val (.int (0 : Int32)), .unset] rfl 202 rfl ?_
                        refine g_iload X185 at_202 rfl 204 rfl ?_
                        have k218_23 : ∀ (v188 : Int32), v188 = (if v7.toInt64 < gg then (0 : Int32) else (1 : Int32)) → Go k n0 (Q0 a b c d m gg h0) 16 128 T185 218 #[.val (.int v7), .val (.int v13), .val (.int v14), .val (.int v11), .val (.int m), .val (.long gg), .second, u15, .val (.int (3 : Int32)), .val (.int v142), .val (.long gg), .second, .val (.ref b176), .val (.int v188), .unset] [] := by
                          intro v188 hv188
                          refine g_iload X185 at_218 rfl 220 rfl ?_
                          refine g_iconst X185 (1 : Int32) at_220 rfl 221 rfl ?_
                          have k235_24 : ∀ (v189 : Int32), v189 = (if v13.toInt64 < gg then v188 else (v188 + (1 : Int32))) → Go k n0 (Q0 a b c d m gg h0) 16 128 T185 235 #[.val (.int v7), .val (.int v13), .val (.int v14), .val (.int v11), .val (.int m), .val (.long gg), .second, u15, .val (.int (3 : Int32)), .val (.int v142), .val (.long gg), .second, .val (.ref b176), .val (.int v189), .unset] [] := by
                            intro v189 hv189
                            refine g_iload X185 at_235 rfl 237 rfl ?_
                            refine g_iconst X185 (2 : Int32) at_237 rfl 238 rfl ?_
                            have k252_25 : ∀ (v190 : Int32), v190 = (if v14.toInt64 < gg then v189 else (v189 + (1 : Int32))) → Go k n0 (Q0 a b c d m gg h0) 16 128 T185 252 #[.val (.int v7), .val (.int v13), .val (.int v14), .val (.int v11), .val (.int m), .val (.long gg), .second, u15, .val (.int (3 : Int32)), .val (.int v142), .val (.long gg), .second, .val (.ref b176), .val (.int v190), .unset] [] := by
                              intro v190 hv190
                              refine g_iload X185 at_252 rfl 254 rfl ?_
                              refine g_iconst X185 (3 : Int32) at_254 rfl 255 rfl ?_
                              refine g_icmpN X185 i_le at_255 269 (by decide) (by decide) 258 rfl (fun h191 => ?_) (fun h191 => ?_)
                              · exact absurd h191 (by decide)
                              · skip
                                refine g_aload X185 at_269 rfl rfl 271 rfl ?_
                                refine g_lload X185 at_271 rfl 273 rfl ?_
                                have AA : AI Z h185 b176 .int 3 (fun i => .int ((own_f v7 v13 v14 v11) i)) := AI.to A185 (fun i hi => by (have q : i = 0 ∨ i = 1 ∨ i = 2 := by omega); rcases q with rfl | rfl | rfl <;> rfl)
                                refine g_callS X185 [(.ref b176), (.long gg)] [] (rm1 hw n0 b176 gg 3 (own_f v7 v13 v14 v11) h185 AA (own_sorted hnet.1 hnet.2.1 hnet.2.2)) (w2 hw) (w3 hw) (w4 hw) (w5 hw) (by decide) pd0 rfl rfl (by decide) (Nat.le_of_ble_eq_true rfl) (by decide) (by decide) at_273 rfl 276 rfl (fun v192 T192 h192 X192 q192 => ?_)
                                obtain ⟨⟨r, rfl, r1, r2, r3⟩, rfl⟩ := q192
                                show Go k n0 (Q0 a b c d m gg h0) 16 128 T192 276 #[.val (.int v7), .val (.int v13), .val (.int v14), .val (.int v11), .val (.int m), .val (.long gg), .second, u15, .val (.int (3 : Int32)), .val (.int v142), .val (.long gg), .second, .val (.ref b176), .val (.int v190), .unset] [(.int r)]
                                refine g_istore X192 at_276 #[.val (.int v7), .val (.int v13), .val (.int v14), .val (.int v11), .val (.int m), .val (.long gg), .second, u15, .val (.int (3 : Int32)), .val (.int v142), .val (.long gg), .second, .val (.ref b176), .val (.int v190), .val (.int r)] rfl 278 rfl ?_
                                refine g_iload X192 at_278 rfl 280 rfl ?_
                                refine g_iload X192 at_280 rfl 282 rfl ?_
                                refine g_icmpN X192 i_ne at_282 289 (by decide) (by decide) 285 rfl (fun h193 => ?_) (fun h193 => ?_)
                                · skip
                                  refine g_iconst X192 (1 : Int32) at_285 rfl 286 rfl ?_
                                  refine g_goto X192 at_286 290 (by decide) (by decide) ?_
                                  exact g_retZ X192 at_290 (by decide) (by decide) own_one
                                · skip
                                  refine g_iconst X192 (0 : Int32) at_289 rfl 290 rfl ?_
                                  exfalso
                                  refine h193 (Int32.toInt_inj.mp ?_)
                                  have y0 : ((0 : Nat) : Int) < r.toInt ↔ gg.toInt ≤ v7.toInt := r3 0 (by decide)
                                  have y1 : ((1 : Nat) : Int) < r.toInt ↔ gg.toInt ≤ v13.toInt := r3 1 (by decide)
                                  have y2 : ((2 : Nat) : Int) < r.toInt ↔ gg.toInt ≤ v14.toInt := r3 2 (by decide)
                                  rcases own_cnt own_z0 (by decide) hv188 with ⟨u0, t0⟩ | ⟨u0, t0⟩
                                  · skip
                                    rcases own_cnt t0 (by decide) hv189 with ⟨u1, t1⟩ | ⟨u1, t1⟩
                                    · skip
                                      rcases own_cnt t1 (by decide) hv190 with ⟨u2, t2⟩ | ⟨u2, t2⟩
                                      · skip
                                        have e0 := t2; omega
                                      · skip
                                        have e0 := t2; omega
                                    · skip
                                      rcases own_cnt t1 (by decide) hv190 with ⟨u2, t2⟩ | ⟨u2, t2⟩
                                      · skip
                                        have e0 := t2; omega
                                      · skip
                                        have e0 := t2; omega
                                  · skip
                                    rcases own_cnt t0 (by decide) hv189 with ⟨u1, t1⟩ | ⟨u1, t1⟩
                                    · skip
                                      rcases own_cnt t1 (by decide) hv190 with ⟨u2, t2⟩ | ⟨u2, t2⟩
                                      · skip
                                        have e0 := t2; omega
                                      · skip
                                        have e0 := t2; omega
                                    · skip
                                      rcases own_cnt t1 (by decide) hv190 with ⟨u2, t2⟩ | ⟨u2, t2⟩
                                      · skip
                                        have e0 := t2; omega
                                      · skip
                                        have e0 := t2; omega
                            refine g_icmpN X185 i_le at_238 252 (by decide) (by decide) 241 rfl (fun h194 => ?_) (fun h194 => ?_)
                            · skip
                              refine g_iloadN X185 at_241 rfl 242 rfl ?_
                              refine g_i2l X185 at_242 243 rfl ?_
                              refine g_lload X185 at_243 rfl 245 rfl ?_
                              refine g_lcmp X185 at_245 246 rfl ?_
                              refine g_if X185 l_lt at_246 252 (by decide) (by decide) 249 rfl (fun h195 => ?_) (fun h195 => ?_)
                              · skip
                                exact k252_25 (v189) (by first | (simp only [if_neg h145, if_pos h195]; done) | (simp only [if_neg h145, if_pos h195]; done) | (simp only [apply_ite Int32.toInt64, if_neg h145, if_pos h195]; done) | (simp only [h145, h195, if_true, if_false, true_or, or_true, true_and, and_true, not_true_eq_false, not_false_eq_true, false_or, or_false, false_and, and_false]; done) | (simp only [h145, h195, hv1, hv2, hv4, hv5, hv7, hv8, hv10, hv11, hv13, hv14, hv142, hv188, hv189, if_true, if_false, true_or, or_true, true_and, and_true, not_true_eq_false, not_false_eq_true, false_or, or_false, false_and, and_false]; done))
                              · skip
                                refine g_iinc X185 (1 : Int32) at_249 rfl rfl #[.val (.int v7), .val (.int v13), .val (.int v14), .val (.int v11), .val (.int m), .val (.long gg), .second, u15, .val (.int (3 : Int32)), .val (.int v142), .val (.long gg), .second, .val (.ref b176), .val (.int (v189 + (1 : Int32))), .unset] rfl 252 rfl ?_
                                exact k252_25 ((v189 + (1 : Int32))) (by first | (simp only [if_neg h145, if_neg h195]; done) | (simp only [if_neg h145, if_neg h195]; done) | (simp only [apply_ite Int32.toInt64, if_neg h145, if_neg h195]; done) | (simp only [h145, h195, if_true, if_false, true_or, or_true, true_and, and_true, not_true_eq_false, not_false_eq_true, false_or, or_false, false_and, and_false]; done) | (simp only [h145, h195, hv1, hv2, hv4, hv5, hv7, hv8, hv10, hv11, hv13, hv14, hv142, hv188, hv189, if_true, if_false, true_or, or_true, true_and, and_true, not_true_eq_false, not_false_eq_true, false_or, or_false, false_and, and_false]; done))
                            · exact absurd (by decide) h194
                          refine g_icmpN X185 i_le at_221 235 (by decide) (by decide) 224 rfl (fun h196 => ?_) (fun h196 => ?_)
                          · skip
                            refine g_iloadN X185 at_224 rfl 225 rfl ?_
                            refine g_i2l X185 at_225 226 rfl ?_
                            refine g_lload X185 at_226 rfl 228 rfl ?_
                            refine g_lcmp X185 at_228 229 rfl ?_
                            refine g_if X185 l_lt at_229 235 (by decide) (by decide) 232 rfl (fun h197 => ?_) (fun h197 => ?_)
                            · skip
                              exact k235_24 (v188) (by first | (simp only [if_neg h145, if_pos h197]; done) | (simp only [if_neg h145, if_pos h197]; done) | (simp only [apply_ite Int32.toInt64, if_neg h145, if_pos h197]; done) | (simp only [h145, h197, if_true, if_false, true_or, or_true, true_and, and_true, not_true_eq_false, not_false_eq_true, false_or, or_false, false_and, and_false]; done) | (simp only [h145, h197, hv1, hv2, hv4, hv5, hv7, hv8, hv10, hv11, hv13, hv14, hv142, hv188, if_true, if_false, true_or, or_true, true_and, and_true, not_true_eq_false, not_false_eq_true, false_or, or_false, false_and, and_false]; done))
                            · skip
                              refine g_iinc X185 (1 : Int32) at_232 rfl rfl #[.val (.int v7), .val (.int v13), .val (.int v14), .val (.int v11), .val (.int m), .val (.long gg), .second, u15, .val (.int (3 : Int32)), .val (.int v142), .val (.long gg), .second, .val (.ref b176), .val (.int (v188 + (1 : Int32))), .unset] rfl 235 rfl ?_
                              exact k235_24 ((v188 + (1 : Int32))) (by first | (simp only [if_neg h145, if_neg h197]; done) | (simp only [if_neg h145, if_neg h197]; done) | (simp only [apply_ite Int32.toInt64, if_neg h145, if_neg h197]; done) | (simp only [h145, h197, if_true, if_false, true_or, or_true, true_and, and_true, not_true_eq_false, not_false_eq_true, false_or, or_false, false_and, and_false]; done) | (simp only [h145, h197, hv1, hv2, hv4, hv5, hv7, hv8, hv10, hv11, hv13, hv14, hv142, hv188, if_true, if_false, true_or, or_true, true_and, and_true, not_true_eq_false, not_false_eq_true, false_or, or_false, false_and, and_false]; done))
                          · exact absurd (by decide) h196
                        refine g_ifN X185 z_le at_204 218 (by decide) (by decide) 207 rfl (fun h198 => ?_) (fun h198 => ?_)
                        · skip
                          refine g_iloadN X185 at_207 rfl 208 rfl ?_
                          refine g_i2l X185 at_208 209 rfl ?_
                          refine g_lload X185 at_209 rfl 211 rfl ?_
                          refine g_lcmp X185 at_211 212 rfl ?_
                          refine g_if X185 l_lt at_212 218 (by decide) (by decide) 215 rfl (fun h199 => ?_) (fun h199 => ?_)
                          · skip
                            exact k218_23 ((0 : Int32)) (by first | (simp only [if_neg h145, if_pos h199]; done) | (simp only [if_neg h145, if_pos h199]; done) | (simp only [apply_ite Int32.toInt64, if_neg h145, if_pos h199]; done) | (simp only [h145, h199, if_true, if_false, true_or, or_true, true_and, and_true, not_true_eq_false, not_false_eq_true, false_or, or_false, false_and, and_false]; done) | (simp only [h145, h199, hv1, hv2, hv4, hv5, hv7, hv8, hv10, hv11, hv13, hv14, hv142, if_true, if_false, true_or, or_true, true_and, and_true, not_true_eq_false, not_false_eq_true, false_or, or_false, false_and, and_false]; done))
                          · skip
                            refine g_iinc X185 (1 : Int32) at_215 rfl rfl #[.val (.int v7), .val (.int v13), .val (.int v14), .val (.int v11), .val (.int m), .val (.long gg), .second, u15, .val (.int (3 : Int32)), .val (.int v142), .val (.long gg), .second, .val (.ref b176), .val (.int ((0 : Int32) + (1 : Int32))), .unset] rfl 218 rfl ?_
                            rw [(by decide : (0 : Int32) + (1 : Int32) = (1 : Int32))]
                            exact k218_23 ((1 : Int32)) (by first | (simp only [if_neg h145, if_neg h199]; done) | (simp only [if_neg h145, if_neg h199]; done) | (simp only [apply_ite Int32.toInt64, if_neg h145, if_neg h199]; done) | (simp only [h145, h199, if_true, if_false, true_or, or_true, true_and, and_true, not_true_eq_false, not_false_eq_true, false_or, or_false, false_and, and_false]; done) | (simp only [h145, h199, hv1, hv2, hv4, hv5, hv7, hv8, hv10, hv11, hv13, hv14, hv142, if_true, if_false, true_or, or_true, true_and, and_true, not_true_eq_false, not_false_eq_true, false_or, or_false, false_and, and_false]; done))
                        · exact absurd (by decide) h198
                    · exact absurd (by decide) h184
                  · exact absurd (by decide) h181
                · exact absurd (by decide) h178
            · skip
              refine g_iload X0 at_74 rfl 76 rfl ?_
              refine g_bipush X0 (8 : Int32) at_76 rfl 78 rfl ?_
              refine g_iushr X0 at_78 79 rfl ?_
              refine g_bipush X0 (15 : Int32) at_79 rfl 81 rfl ?_
              refine g_iand X0 at_81 82 rfl ?_
              refine g_istore X0 at_82 #[.val (.int v7), .val (.int v13), .val (.int v14), .val (.int v11), .val (.int m), .val (.long gg), .second, u15, .val (.int (4 : Int32)), .val (.int (((m.toUInt32 >>> ((8 : Int32) &&& 31).toUInt32).toInt32) &&& (15 : Int32))), .unset, .unset, .unset, .unset, .unset] rfl 84 rfl ?_
              generalize hv200 : (((m.toUInt32 >>> ((8 : Int32) &&& 31).toUInt32).toInt32) &&& (15 : Int32)) = v200
              refine g_iload X0 at_84 rfl 86 rfl ?_
              refine g_bipush X0 (12 : Int32) at_86 rfl 88 rfl ?_
              refine g_icmpN X0 i_ge at_88 146 (by decide) (by decide) 91 rfl (fun h203 => ?_) (fun h203 => ?_)
              · skip
                refine g_iload X0 at_91 rfl 93 rfl ?_
                refine g_iconst X0 (3 : Int32) at_93 rfl 94 rfl ?_
                refine g_iand X0 at_94 95 rfl ?_
                refine g_istore X0 at_95 #[.val (.int v7), .val (.int v13), .val (.int v14), .val (.int v11), .val (.int m), .val (.long gg), .second, u15, .val (.int (4 : Int32)), .val (.int v200), .unset, .unset, .val (.int (v200 &&& (3 : Int32))), .unset, .unset] rfl 97 rfl ?_
                refine g_iload X0 at_97 rfl 99 rfl ?_
                have k129_26 : ∀ (v204 : Int64), v204 = (if (v200 &&& (3 : Int32)) = 0 then v7.toInt64 else (if (v200 &&& (3 : Int32)) = (1 : Int32) then v13.toInt64 else (if (v200 &&& (3 : Int32)) = (2 : Int32) then v14.toInt64 else v11.toInt64))) → Go k n0 (Q0 a b c d m gg h0) 16 128 T0 129 #[.val (.int v7), .val (.int v13), .val (.int v14), .val (.int v11), .val (.int m), .val (.long gg), .second, u15, .val (.int (4 : Int32)), .val (.int v200), .unset, .unset, .val (.int (v200 &&& (3 : Int32))), .unset, .unset] [(.long v204)] := by
                  intro v204 hv204
                  refine g_lstore X0 at_129 #[.val (.int v7), .val (.int v13), .val (.int v14), .val (.int v11), .val (.int m), .val (.long gg), .second, u15, .val (.int (4 : Int32)), .val (.int v200), .unset, .unset, .val (.int (v200 &&& (3 : Int32))), .val (.long v204), .second] rfl 131 rfl ?_
                  refine g_lload X0 at_131 rfl 133 rfl ?_
                  refine g_iload X0 at_133 rfl 135 rfl ?_
                  refine g_iconst X0 (2 : Int32) at_135 rfl 136 rfl ?_
                  refine g_iushr X0 at_136 137 rfl ?_
                  refine g_i2l X0 at_137 138 rfl ?_
                  refine g_ladd X0 at_138 139 rfl ?_
                  refine g_lconst X0 (1 : Int64) at_139 rfl 140 rfl ?_
                  refine g_lsub X0 at_140 141 rfl ?_
                  refine g_lstore X0 at_141 #[.val (.int v7), .val (.int v13), .val (.int v14), .val (.int v11), .val (.int m), .val (.long gg), .second, u15, .val (.int (4 : Int32)), .val (.int v200), .val (.long ((v204 + ((v200.toUInt32 >>> ((2 : Int32) &&& 31).toUInt32).toInt32).toInt64) - (1 : Int64))), .second, .val (.int (v200 &&& (3 : Int32))), .val (.long v204), .second] rfl 143 rfl ?_
                  generalize hv205 : ((v204 + ((v200.toUInt32 >>> ((2 : Int32) &&& 31).toUInt32).toInt32).toInt64) - (1 : Int64)) = v205
                  refine g_goto X0 at_143 150 (by decide) (by decide) ?_
                  refine g_iload X0 at_150 rfl 152 rfl ?_
                  refine g_newP (aty := .int) X0 (w1 hw) 4 4 (by decide) (by decide) (by decide) at_152 (by decide) (by decide) 154 rfl (fun T206 h206 b206 X206 g206 E206 A206 => ?_)
                  have g_b206 : n0 ≤ b206 := Nat.le_trans Z0 (Nat.le_of_eq g206.symm)
                  have z207 : n0 ≤ h206.size := Nat.le_trans Z0 E206.1
                  refine g_astore X206 at_154 rfl #[.val (.int v7), .val (.int v13), .val (.int v14), .val (.int v11), .val (.int m), .val (.long gg), .second, u15, .val (.int (4 : Int32)), .val (.int v200), .val (.long v205), .second, .val (.ref b206), .val (.long v204), .second] rfl 156 rfl ?_
                  refine g_iload X206 at_156 rfl 158 rfl ?_
                  refine g_ifN X206 z_le at_158 166 (by decide) (by decide) 161 rfl (fun h208 => ?_) (fun h208 => ?_)
                  · skip
                    refine g_aload X206 at_161 rfl rfl 163 rfl ?_
                    refine g_iconst X206 (0 : Int32) at_163 rfl 164 rfl ?_
                    refine g_iloadN X206 at_164 rfl 165 rfl ?_
                    refine g_iastore X206 A206 0 (by decide) (by decide) g_b206 at_165 166 rfl (fun T209 h209 X209 W209 => ?_)
                    have z210 : n0 ≤ h209.size := Nat.le_trans z207 (Nat.le_of_eq W209.size.symm)
                    have A209 := AI.set A206 W209
                    refine g_iload X209 at_166 rfl 168 rfl ?_
                    refine g_iconst X209 (1 : Int32) at_168 rfl 169 rfl ?_
                    refine g_icmpN X209 i_le at_169 177 (by decide) (by decide) 172 rfl (fun h211 => ?_) (fun h211 => ?_)
                    · skip
                      refine g_aload X209 at_172 rfl rfl 174 rfl ?_
                      refine g_iconst X209 (1 : Int32) at_174 rfl 175 rfl ?_
                      refine g_iloadN X209 at_175 rfl 176 rfl ?_
                      refine g_iastore X209 A209 1 (by decide) (by decide) g_b206 at_176 177 rfl (fun T212 h212 X212 W212 => ?_)
                      have z213 : n0 ≤ h212.size := Nat.le_trans z210 (Nat.le_of_eq W212.size.symm)
                      have A212 := AI.set A209 W212
                      refine g_iload X212 at_177 rfl 179 rfl ?_
                      refine g_iconst X212 (2 : Int32) at_179 rfl 180 rfl ?_
                      refine g_icmpN X212 i_le at_180 188 (by decide) (by decide) 183 rfl (fun h214 => ?_) (fun h214 => ?_)
                      · skip
                        refine g_aload X212 at_183 rfl rfl 185 rfl ?_
                        refine g_iconst X212 (2 : Int32) at_185 rfl 186 rfl ?_
                        refine g_iloadN X212 at_186 rfl 187 rfl ?_
                        refine g_iastore X212 A212 2 (by decide) (by decide) g_b206 at_187 188 rfl (fun T215 h215 X215 W215 => ?_)
                        have z216 : n0 ≤ h215.size := Nat.le_trans z213 (Nat.le_of_eq W215.size.symm)
                        have A215 := AI.set A212 W215
                        refine g_iload X215 at_188 rfl 190 rfl ?_
                        refine g_iconst X215 (3 : Int32) at_190 rfl 191 rfl ?_
                        refine g_icmpN X215 i_le at_191 199 (by decide) (by decide) 194 rfl (fun h217 => ?_) (fun h217 => ?_)
                        · skip
                          refine g_aload X215 at_194 rfl rfl 196 rfl ?_
                          refine g_iconst X215 (3 : Int32) at_196 rfl 197 rfl ?_
                          refine g_iloadN X215 at_197 rfl 198 rfl ?_
                          refine g_iastore X215 A215 3 (by decide) (by decide) g_b206 at_198 199 rfl (fun T218 h218 X218 W218 => ?_)
                          have z219 : n0 ≤ h218.size := Nat.le_trans z216 (Nat.le_of_eq W218.size.symm)
                          have A218 := AI.set A215 W218
                          refine g_iconst X218 (0 : Int32) at_199 rfl 200 rfl ?_
                          refine g_istore X218 at_200 #[.val (.int v7), .val (.int v13), .val (.int v14), .val (.int v11), .val (.int m), .val (.long gg), .second, u15, .val (.int (4 : Int32)), .val (.int v200), .val (.long v205), .second, .val (.ref b206), .val (.int (0 : Int32)), .unset] rfl 202 rfl ?_
                          refine g_iload X218 at_202 rfl 204 rfl ?_
                          have k218_27 : ∀ (v220 : Int32), v220 = (if v7.toInt64 < v205 then (0 : Int32) else (1 : Int32)) → Go k n0 (Q0 a b c d m gg h0) 16 128 T218 218 #[.val (.int v7), .val (.int v13), .val (.int v14), .val (.int v11), .val (.int m), .val (.long gg), .second, u15, .val (.int (4 : Int32)), .val (.int v200), .val (.long v205), .second, .val (.ref b206), .val (.int v220), .unset] [] := by
                            intro v220 hv220
                            refine g_iload X218 at_218 rfl 220 rfl ?_
                            refine g_iconst X218 (1 : Int32) at_220 rfl 221 rfl ?_
                            have k235_28 : ∀ (v221 : Int32), v221 = (if v13.toInt64 < v205 then v220 else (v220 + (1 : Int32))) → Go k n0 (Q0 a b c d m gg h0) 16 128 T218 235 #[.val (.int v7), .val (.int v13), .val (.int v14), .val (.int v11), .val (.int m), .val (.long gg), .second, u15, .val (.int (4 : Int32)), .val (.int v200), .val (.long v205), .second, .val (.ref b206), .val (.int v221), .unset] [] := by
                              intro v221 hv221
                              refine g_iload X218 at_235 rfl 237 rfl ?_
                              refine g_iconst X218 (2 : Int32) at_237 rfl 238 rfl ?_
                              have k252_29 : ∀ (v222 : Int32), v222 = (if v14.toInt64 < v205 then v221 else (v221 + (1 : Int32))) → Go k n0 (Q0 a b c d m gg h0) 16 128 T218 252 #[.val (.int v7), .val (.int v13), .val (.int v14), .val (.int v11), .val (.int m), .val (.long gg), .second, u15, .val (.int (4 : Int32)), .val (.int v200), .val (.long v205), .second, .val (.ref b206), .val (.int v222), .unset] [] := by
                                intro v222 hv222
                                refine g_iload X218 at_252 rfl 254 rfl ?_
                                refine g_iconst X218 (3 : Int32) at_254 rfl 255 rfl ?_
                                have k269_30 : ∀ (v223 : Int32), v223 = (if v11.toInt64 < v205 then v222 else (v222 + (1 : Int32))) → Go k n0 (Q0 a b c d m gg h0) 16 128 T218 269 #[.val (.int v7), .val (.int v13), .val (.int v14), .val (.int v11), .val (.int m), .val (.long gg), .second, u15, .val (.int (4 : Int32)), .val (.int v200), .val (.long v205), .second, .val (.ref b206), .val (.int v223), .unset] [] := by
                                  intro v223 hv223
                                  refine g_aload X218 at_269 rfl rfl 271 rfl ?_
                                  refine g_lload X218 at_271 rfl 273 rfl ?_
                                  have AA : AI Z h218 b206 .int 4 (fun i => .int ((own_f v7 v13 v14 v11) i)) := AI.to A218 (fun i hi => by (have q : i = 0 ∨ i = 1 ∨ i = 2 ∨ i = 3 := by omega); rcases q with rfl | rfl | rfl | rfl <;> rfl)
                                  refine g_callS X218 [(.ref b206), (.long v205)] [] (rm1 hw n0 b206 v205 4 (own_f v7 v13 v14 v11) h218 AA (own_sorted hnet.1 hnet.2.1 hnet.2.2)) (w2 hw) (w3 hw) (w4 hw) (w5 hw) (by decide) pd0 rfl rfl (by decide) (Nat.le_of_ble_eq_true rfl) (by decide) (by decide) at_273 rfl 276 rfl (fun v224 T224 h224 X224 q224 => ?_)
                                  obtain ⟨⟨r, rfl, r1, r2, r3⟩, rfl⟩ := q224
                                  show Go k n0 (Q0 a b c d m gg h0) 16 128 T224 276 #[.val (.int v7), .val (.int v13), .val (.int v14), .val (.int v11), .val (.int m), .val (.long gg), .second, u15, .val (.int (4 : Int32)), .val (.int v200), .val (.long v205), .second, .val (.ref b206), .val (.int v223), .unset] [(.int r)]
                                  refine g_istore X224 at_276 #[.val (.int v7), .val (.int v13), .val (.int v14), .val (.int v11), .val (.int m), .val (.long gg), .second, u15, .val (.int (4 : Int32)), .val (.int v200), .val (.long v205), .second, .val (.ref b206), .val (.int v223), .val (.int r)] rfl 278 rfl ?_
                                  refine g_iload X224 at_278 rfl 280 rfl ?_
                                  refine g_iload X224 at_280 rfl 282 rfl ?_
                                  refine g_icmpN X224 i_ne at_282 289 (by decide) (by decide) 285 rfl (fun h225 => ?_) (fun h225 => ?_)
                                  · skip
                                    refine g_iconst X224 (1 : Int32) at_285 rfl 286 rfl ?_
                                    refine g_goto X224 at_286 290 (by decide) (by decide) ?_
                                    exact g_retZ X224 at_290 (by decide) (by decide) own_one
                                  · skip
                                    refine g_iconst X224 (0 : Int32) at_289 rfl 290 rfl ?_
                                    exfalso
                                    refine h225 (Int32.toInt_inj.mp ?_)
                                    have y0 : ((0 : Nat) : Int) < r.toInt ↔ v205.toInt ≤ v7.toInt := r3 0 (by decide)
                                    have y1 : ((1 : Nat) : Int) < r.toInt ↔ v205.toInt ≤ v13.toInt := r3 1 (by decide)
                                    have y2 : ((2 : Nat) : Int) < r.toInt ↔ v205.toInt ≤ v14.toInt := r3 2 (by decide)
                                    have y3 : ((3 : Nat) : Int) < r.toInt ↔ v205.toInt ≤ v11.toInt := r3 3 (by decide)
                                    rcases own_cnt own_z0 (by decide) hv220 with ⟨u0, t0⟩ | ⟨u0, t0⟩
                                    · skip
                                      rcases own_cnt t0 (by decide) hv221 with ⟨u1, t1⟩ | ⟨u1, t1⟩
                                      · skip
                                        rcases own_cnt t1 (by decide) hv222 with ⟨u2, t2⟩ | ⟨u2, t2⟩
                                        · skip
                                          rcases own_cnt t2 (by decide) hv223 with ⟨u3, t3⟩ | ⟨u3, t3⟩
                                          · skip
                                            have e0 := t3; omega
                                          · skip
                                            have e0 := t3; omega
                                        · skip
                                          rcases own_cnt t2 (by decide) hv223 with ⟨u3, t3⟩ | ⟨u3, t3⟩
                                          · skip
                                            have e0 := t3; omega
                                          · skip
                                            have e0 := t3; omega
                                      · skip
                                        rcases own_cnt t1 (by decide) hv222 with ⟨u2, t2⟩ | ⟨u2, t2⟩
                                        · skip
                                          rcases own_cnt t2 (by decide) hv223 with ⟨u3, t3⟩ | ⟨u3, t3⟩
                                          · skip
                                            have e0 := t3; omega
                                          · skip
                                            have e0 := t3; omega
                                        · skip
                                          rcases own_cnt t2 (by decide) hv223 with ⟨u3, t3⟩ | ⟨u3, t3⟩
                                          · skip
                                            have e0 := t3; omega
                                          · skip
                                            have e0 := t3; omega
                                    · skip
                                      rcases own_cnt t0 (by decide) hv221 with ⟨u1, t1⟩ | ⟨u1, t1⟩
                                      · skip
                                        rcases own_cnt t1 (by decide) hv222 with ⟨u2, t2⟩ | ⟨u2, t2⟩
                                        · skip
                                          rcases own_cnt t2 (by decide) hv223 with ⟨u3, t3⟩ | ⟨u3, t3⟩
                                          · skip
                                            have e0 := t3; omega
                                          · skip
                                            have e0 := t3; omega
                                        · skip
                                          rcases own_cnt t2 (by decide) hv223 with ⟨u3, t3⟩ | ⟨u3, t3⟩
                                          · skip
                                            have e0 := t3; omega
                                          · skip
                                            have e0 := t3; omega
                                      · skip
                                        rcases own_cnt t1 (by decide) hv222 with ⟨u2, t2⟩ | ⟨u2, t2⟩
                                        · skip
                                          rcases own_cnt t2 (by decide) hv223 with ⟨u3, t3⟩ | ⟨u3, t3⟩
                                          · skip
                                            have e0 := t3; omega
                                          · skip
                                            have e0 := t3; omega
                                        · skip
                                          rcases own_cnt t2 (by decide) hv223 with ⟨u3, t3⟩ | ⟨u3, t3⟩
                                          · skip
                                            have e0 := t3; omega
                                          · skip
                                            have e0 := t3; omega
                                refine g_icmpN X218 i_le at_255 269 (by decide) (by decide) 258 rfl (fun h226 => ?_) (fun h226 => ?_)
                                · skip
                                  refine g_iloadN X218 at_258 rfl 259 rfl ?_
                                  refine g_i2l X218 at_259 260 rfl ?_
                                  refine g_lload X218 at_260 rfl 262 rfl ?_
                                  refine g_lcmp X218 at_262 263 rfl ?_
                                  refine g_if X218 l_lt at_263 269 (by decide) (by decide) 266 rfl (fun h227 => ?_) (fun h227 => ?_)
                                  · skip
                                    exact k269_30 (v222) (by first | (simp only [if_pos h203, if_pos h227]; done) | (simp only [if_pos h203, if_pos h227]; done) | (simp only [apply_ite Int32.toInt64, if_pos h203, if_pos h227]; done) | (simp only [h203, h227, if_true, if_false, true_or, or_true, true_and, and_true, not_true_eq_false, not_false_eq_true, false_or, or_false, false_and, and_false]; done) | (simp only [h203, h227, hv1, hv2, hv4, hv5, hv7, hv8, hv10, hv11, hv13, hv14, hv200, hv204, hv205, hv220, hv221, hv222, if_true, if_false, true_or, or_true, true_and, and_true, not_true_eq_false, not_false_eq_true, false_or, or_false, false_and, and_false]; done))
                                  · skip
                                    refine g_iinc X218 (1 : Int32) at_266 rfl rfl #[.val (.int v7), .val (.int v13), .val (.int v14), .val (.int v11), .val (.int m), .val (.long gg), .second, u15, .val (.int (4 : Int32)), .val (.int v200), .val (.long v205), .second, .val (.ref b206), .val (.int (v222 + (1 : Int32))), .unset] rfl 269 rfl ?_
                                    exact k269_30 ((v222 + (1 : Int32))) (by first | (simp only [if_pos h203, if_neg h227]; done) | (simp only [if_pos h203, if_neg h227]; done) | (simp only [apply_ite Int32.toInt64, if_pos h203, if_neg h227]; done) | (simp only [h203, h227, if_true, if_false, true_or, or_true, true_and, and_true, not_true_eq_false, not_false_eq_true, false_or, or_false, false_and, and_false]; done) | (simp only [h203, h227, hv1, hv2, hv4, hv5, hv7, hv8, hv10, hv11, hv13, hv14, hv200, hv204, hv205, hv220, hv221, hv222, if_true, if_false, true_or, or_true, true_and, and_true, not_true_eq_false, not_false_eq_true, false_or, or_false, false_and, and_false]; done))
                                · exact absurd (by decide) h226
                              refine g_icmpN X218 i_le at_238 252 (by decide) (by decide) 241 rfl (fun h228 => ?_) (fun h228 => ?_)
                              · skip
                                refine g_iloadN X218 at_241 rfl 242 rfl ?_
                                refine g_i2l X218 at_242 243 rfl ?_
                                refine g_lload X218 at_243 rfl 245 rfl ?_
                                refine g_lcmp X218 at_245 246 rfl ?_
                                refine g_if X218 l_lt at_246 252 (by decide) (by decide) 249 rfl (fun h229 => ?_) (fun h229 => ?_)
                                · skip
                                  exact k252_29 (v221) (by first | (simp only [if_pos h203, if_pos h229]; done) | (simp only [if_pos h203, if_pos h229]; done) | (simp only [apply_ite Int32.toInt64, if_pos h203, if_pos h229]; done) | (simp only [h203, h229, if_true, if_false, true_or, or_true, true_and, and_true, not_true_eq_false, not_false_eq_true, false_or, or_false, false_and, and_false]; done) | (simp only [h203, h229, hv1, hv2, hv4, hv5, hv7, hv8, hv10, hv11, hv13, hv14, hv200, hv204, hv205, hv220, hv221, if_true, if_false, true_or, or_true, true_and, and_true, not_true_eq_false, not_false_eq_true, false_or, or_false, false_and, and_false]; done))
                                · skip
                                  refine g_iinc X218 (1 : Int32) at_249 rfl rfl #[.val (.int v7), .val (.int v13), .val (.int v14), .val (.int v11), .val (.int m), .val (.long gg), .second, u15, .val (.int (4 : Int32)), .val (.int v200), .val (.long v205), .second, .val (.ref b206), .val (.int (v221 + (1 : Int32))), .unset] rfl 252 rfl ?_
                                  exact k252_29 ((v221 + (1 : Int32))) (by first | (simp only [if_pos h203, if_neg h229]; done) | (simp only [if_pos h203, if_neg h229]; done) | (simp only [apply_ite Int32.toInt64, if_pos h203, if_neg h229]; done) | (simp only [h203, h229, if_true, if_false, true_or, or_true, true_and, and_true, not_true_eq_false, not_false_eq_true, false_or, or_false, false_and, and_false]; done) | (simp only [h203, h229, hv1, hv2, hv4, hv5, hv7, hv8, hv10, hv11, hv13, hv14, hv200, hv204, hv205, hv220, hv221, if_true, if_false, true_or, or_true, true_and, and_true, not_true_eq_false, not_false_eq_true, false_or, or_false, false_and, and_false]; done))
                              · exact absurd (by decide) h228
                            refine g_icmpN X218 i_le at_221 235 (by decide) (by decide) 224 rfl (fun h230 => ?_) (fun h230 => ?_)
                            · skip
                              refine g_iloadN X218 at_224 rfl 225 rfl ?_
                              refine g_i2l X218 at_225 226 rfl ?_
                              refine g_lload X218 at_226 rfl 228 rfl ?_
                              refine g_lcmp X218 at_228 229 rfl ?_
                              refine g_if X218 l_lt at_229 235 (by decide) (by decide) 232 rfl (fun h231 => ?_) (fun h231 => ?_)
                              · skip
                                exact k235_28 (v220) (by first | (simp only [if_pos h203, if_pos h231]; done) | (simp only [if_pos h203, if_pos h231]; done) | (simp only [apply_ite Int32.toInt64, if_pos h203, if_pos h231]; done) | (simp only [h203, h231, if_true, if_false, true_or, or_true, true_and, and_true, not_true_eq_false, not_false_eq_true, false_or, or_false, false_and, and_false]; done) | (simp only [h203, h231, hv1, hv2, hv4, hv5, hv7, hv8, hv10, hv11, hv13, hv14, hv200, hv204, hv205, hv220, if_true, if_false, true_or, or_true, true_and, and_true, not_true_eq_false, not_false_eq_true, false_or, or_false, false_and, and_false]; done))
                              · skip
                                refine g_iinc X218 (1 : Int32) at_232 rfl rfl #[.val (.int v7), .val (.int v13), .val (.int v14), .val (.int v11), .val (.int m), .val (.long gg), .second, u15, .val (.int (4 : Int32)), .val (.int v200), .val (.long v205), .second, .val (.ref b206), .val (.int (v220 + (1 : Int32))), .unset] rfl 235 rfl ?_
                                exact k235_28 ((v220 + (1 : Int32))) (by first | (simp only [if_pos h203, if_neg h231]; done) | (simp only [if_pos h203, if_neg h231]; done) | (simp only [apply_ite Int32.toInt64, if_pos h203, if_neg h231]; done) | (simp only [h203, h231, if_true, if_false, true_or, or_true, true_and, and_true, not_true_eq_false, not_false_eq_true, false_or, or_false, false_and, and_false]; done) | (simp only [h203, h231, hv1, hv2, hv4, hv5, hv7, hv8, hv10, hv11, hv13, hv14, hv200, hv204, hv205, hv220, if_true, if_false, true_or, or_true, true_and, and_true, not_true_eq_false, not_false_eq_true, false_or, or_false, false_and, and_false]; done))
                            · exact absurd (by decide) h230
                          refine g_ifN X218 z_le at_204 218 (by decide) (by decide) 207 rfl (fun h232 => ?_) (fun h232 => ?_)
                          · skip
                            refine g_iloadN X218 at_207 rfl 208 rfl ?_
                            refine g_i2l X218 at_208 209 rfl ?_
                            refine g_lload X218 at_209 rfl 211 rfl ?_
                            refine g_lcmp X218 at_211 212 rfl ?_
                            refine g_if X218 l_lt at_212 218 (by decide) (by decide) 215 rfl (fun h233 => ?_) (fun h233 => ?_)
                            · skip
                              exact k218_27 ((0 : Int32)) (by first | (simp only [if_pos h203, if_pos h233]; done) | (simp only [if_pos h203, if_pos h233]; done) | (simp only [apply_ite Int32.toInt64, if_pos h203, if_pos h233]; done) | (simp only [h203, h233, if_true, if_false, true_or, or_true, true_and, and_true, not_true_eq_false, not_false_eq_true, false_or, or_false, false_and, and_false]; done) | (simp only [h203, h233, hv1, hv2, hv4, hv5, hv7, hv8, hv10, hv11, hv13, hv14, hv200, hv204, hv205, if_true, if_false, true_or, or_true, true_and, and_true, not_true_eq_false, not_false_eq_true, false_or, or_false, false_and, and_false]; done))
                            · skip
                              refine g_iinc X218 (1 : Int32) at_215 rfl rfl #[.val (.int v7), .val (.int v13), .val (.int v14), .val (.int v11), .val (.int m), .val (.long gg), .second, u15, .val (.int (4 : Int32)), .val (.int v200), .val (.long v205), .second, .val (.ref b206), .val (.int ((0 : Int32) + (1 : Int32))), .unset] rfl 218 rfl ?_
                              rw [(by decide : (0 : Int32) + (1 : Int32) = (1 : Int32))]
                              exact k218_27 ((1 : Int32)) (by first | (simp only [if_pos h203, if_neg h233]; done) | (simp only [if_pos h203, if_neg h233]; done) | (simp only [apply_ite Int32.toInt64, if_pos h203, if_neg h233]; done) | (simp only [h203, h233, if_true, if_false, true_or, or_true, true_and, and_true, not_true_eq_false, not_false_eq_true, false_or, or_false, false_and, and_false]; done) | (simp only [h203, h233, hv1, hv2, hv4, hv5, hv7, hv8, hv10, hv11, hv13, hv14, hv200, hv204, hv205, if_true, if_false, true_or, or_true, true_and, and_true, not_true_eq_false, not_false_eq_true, false_or, or_false, false_and, and_false]; done))
                          · exact absurd (by decide) h232
                        · exact absurd (by decide) h217
                      · exact absurd (by decide) h214
                    · exact absurd (by decide) h211
                  · exact absurd (by decide) h208
                refine g_ifN X0 z_ne at_99 107 (by decide) (by decide) 102 rfl (fun h234 => ?_) (fun h234 => ?_)
                · skip
                  refine g_iloadN X0 at_102 rfl 103 rfl ?_
                  refine g_i2l X0 at_103 104 rfl ?_
                  refine g_goto X0 at_104 129 (by decide) (by decide) ?_
                  exact k129_26 (v7.toInt64) (by first | (simp only [if_pos h203, if_pos h234]; done) | (simp only [if_pos h203, if_pos h234]; done) | (simp only [apply_ite Int32.toInt64, if_pos h203, if_pos h234]; done) | (simp only [h203, h234, if_true, if_false, true_or, or_true, true_and, and_true, not_true_eq_false, not_false_eq_true, false_or, or_false, false_and, and_false]; done) | (simp only [h203, h234, hv1, hv2, hv4, hv5, hv7, hv8, hv10, hv11, hv13, hv14, hv200, if_true, if_false, true_or, or_true, true_and, and_true, not_true_eq_false, not_false_eq_true, false_or, or_false, false_and, and_false]; done))
                · skip
                  refine g_iload X0 at_107 rfl 109 rfl ?_
                  refine g_iconst X0 (1 : Int32) at_109 rfl 110 rfl ?_
                  have k128_31 : ∀ (v235 : Int32), v235 = (if (v200 &&& (3 : Int32)) = (1 : Int32) then v13 else (if (v200 &&& (3 : Int32)) = (2 : Int32) then v14 else v11)) → Go k n0 (Q0 a b c d m gg h0) 16 128 T0 128 #[.val (.int v7), .val (.int v13), .val (.int v14), .val (.int v11), .val (.int m), .val (.long gg), .second, u15, .val (.int (4 : Int32)), .val (.int v200), .unset, .unset, .val (.int (v200 &&& (3 : Int32))), .unset, .unset] [(.int v235)] := by
                    intro v235 hv235
                    refine g_i2l X0 at_128 129 rfl ?_
                    exact k129_26 (v235.toInt64) (by first | (simp only [if_pos h203, if_neg h234]; done) | (simp only [hv235, if_pos h203, if_neg h234]; done) | (simp only [hv235, apply_ite Int32.toInt64, if_pos h203, if_neg h234]; done) | (simp only [h203, h234, if_true, if_false, true_or, or_true, true_and, and_true, not_true_eq_false, not_false_eq_true, false_or, or_false, false_and, and_false]; done) | (simp only [h203, h234, hv1, hv2, hv4, hv5, hv7, hv8, hv10, hv11, hv13, hv14, hv200, hv235, if_true, if_false, true_or, or_true, true_and, and_true, not_true_eq_false, not_false_eq_true, false_or, or_false, false_and, and_false]; done))
                  refine g_icmpN X0 i_ne at_110 117 (by decide) (by decide) 113 rfl (fun h236 => ?_) (fun h236 => ?_)
                  · skip
                    refine g_iloadN X0 at_113 rfl 114 rfl ?_
                    refine g_goto X0 at_114 128 (by decide) (by decide) ?_
                    exact k128_31 (v13) (by first | (simp only [if_pos h203, if_neg h234, if_pos h236]; done) | (simp only [if_pos h203, if_neg h234, if_pos h236]; done) | (simp only [apply_ite Int32.toInt64, if_pos h203, if_neg h234, if_pos h236]; done) | (simp only [h203, h234, h236, if_true, if_false, true_or, or_true, true_and, and_true, not_true_eq_false, not_false_eq_true, false_or, or_false, false_and, and_false]; done) | (simp only [h203, h234, h236, hv1, hv2, hv4, hv5, hv7, hv8, hv10, hv11, hv13, hv14, hv200, if_true, if_false, true_or, or_true, true_and, and_true, not_true_eq_false, not_false_eq_true, false_or, or_false, false_and, and_false]; done))
                  · skip
                    refine g_iload X0 at_117 rfl 119 rfl ?_
                    refine g_iconst X0 (2 : Int32) at_119 rfl 120 rfl ?_
                    refine g_icmpN X0 i_ne at_120 127 (by decide) (by decide) 123 rfl (fun h237 => ?_) (fun h237 => ?_)
                    · skip
                      refine g_iloadN X0 at_123 rfl 124 rfl ?_
                      refine g_goto X0 at_124 128 (by decide) (by decide) ?_
                      exact k128_31 (v14) (by first | (simp only [if_pos h203, if_neg h234, if_neg h236, if_pos h237]; done) | (simp only [if_pos h203, if_neg h234, if_neg h236, if_pos h237]; done) | (simp only [apply_ite Int32.toInt64, if_pos h203, if_neg h234, if_neg h236, if_pos h237]; done) | (simp only [h203, h234, h236, h237, if_true, if_false, true_or, or_true, true_and, and_true, not_true_eq_false, not_false_eq_true, false_or, or_false, false_and, and_false]; done) | (simp only [h203, h234, h236, h237, hv1, hv2, hv4, hv5, hv7, hv8, hv10, hv11, hv13, hv14, hv200, if_true, if_false, true_or, or_true, true_and, and_true, not_true_eq_false, not_false_eq_true, false_or, or_false, false_and, and_false]; done))
                    · skip
                      refine g_iloadN X0 at_127 rfl 128 rfl ?_
                      exact k128_31 (v11) (by first | (simp only [if_pos h203, if_neg h234, if_neg h236, if_neg h237]; done) | (simp only [if_pos h203, if_neg h234, if_neg h236, if_neg h237]; done) | (simp only [apply_ite Int32.toInt64, if_pos h203, if_neg h234, if_neg h236, if_neg h237]; done) | (simp only [h203, h234, h236, h237, if_true, if_false, true_or, or_true, true_and, and_true, not_true_eq_false, not_false_eq_true, false_or, or_false, false_and, and_false]; done) | (simp only [h203, h234, h236, h237, hv1, hv2, hv4, hv5, hv7, hv8, hv10, hv11, hv13, hv14, hv200, if_true, if_false, true_or, or_true, true_and, and_true, not_true_eq_false, not_false_eq_true, false_or, or_false, false_and, and_false]; done))
              · skip
                refine g_lload X0 at_146 rfl 148 rfl ?_
                refine g_lstore X0 at_148 #[.val (.int v7), .val (.int v13), .val (.int v14), .val (.int v11), .val (.int m), .val (.long gg), .second, u15, .val (.int (4 : Int32)), .val (.int v200), .val (.long gg), .second, .unset, .unset, .unset] rfl 150 rfl ?_
                refine g_iload X0 at_150 rfl 152 rfl ?_
                refine g_newP (aty := .int) X0 (w1 hw) 4 4 (by decide) (by decide) (by decide) at_152 (by decide) (by decide) 154 rfl (fun T238 h238 b238 X238 g238 E238 A238 => ?_)
                have g_b238 : n0 ≤ b238 := Nat.le_trans Z0 (Nat.le_of_eq g238.symm)
                have z239 : n0 ≤ h238.size := Nat.le_trans Z0 E238.1
                refine g_astore X238 at_154 rfl #[.val (.int v7), .val (.int v13), .val (.int v14), .val (.int v11), .val (.int m), .val (.long gg), .second, u15, .val (.int (4 : Int32)), .val (.int v200), .val (.long gg), .second, .val (.ref b238), .unset, .unset] rfl 156 rfl ?_
                refine g_iload X238 at_156 rfl 158 rfl ?_
                refine g_ifN X238 z_le at_158 166 (by decide) (by decide) 161 rfl (fun h240 => ?_) (fun h240 => ?_)
                · skip
                  refine g_aload X238 at_161 rfl rfl 163 rfl ?_
                  refine g_iconst X238 (0 : Int32) at_163 rfl 164 rfl ?_
                  refine g_iloadN X238 at_164 rfl 165 rfl ?_
                  refine g_iastore X238 A238 0 (by decide) (by decide) g_b238 at_165 166 rfl (fun T241 h241 X241 W241 => ?_)
                  have z242 : n0 ≤ h241.size := Nat.le_trans z239 (Nat.le_of_eq W241.size.symm)
                  have A241 := AI.set A238 W241
                  refine g_iload X241 at_166 rfl 168 rfl ?_
                  refine g_iconst X241 (1 : Int32) at_168 rfl 169 rfl ?_
                  refine g_icmpN X241 i_le at_169 177 (by decide) (by decide) 172 rfl (fun h243 => ?_) (fun h243 => ?_)
                  · skip
                    refine g_aload X241 at_172 rfl rfl 174 rfl ?_
                    refine g_iconst X241 (1 : Int32) at_174 rfl 175 rfl ?_
                    refine g_iloadN X241 at_175 rfl 176 rfl ?_
                    refine g_iastore X241 A241 1 (by decide) (by decide) g_b238 at_176 177 rfl (fun T244 h244 X244 W244 => ?_)
                    have z245 : n0 ≤ h244.size := Nat.le_trans z242 (Nat.le_of_eq W244.size.symm)
                    have A244 := AI.set A241 W244
                    refine g_iload X244 at_177 rfl 179 rfl ?_
                    refine g_iconst X244 (2 : Int32) at_179 rfl 180 rfl ?_
                    refine g_icmpN X244 i_le at_180 188 (by decide) (by decide) 183 rfl (fun h246 => ?_) (fun h246 => ?_)
                    · skip
                      refine g_aload X244 at_183 rfl rfl 185 rfl ?_
                      refine g_iconst X244 (2 : Int32) at_185 rfl 186 rfl ?_
                      refine g_iloadN X244 at_186 rfl 187 rfl ?_
                      refine g_iastore X244 A244 2 (by decide) (by decide) g_b238 at_187 188 rfl (fun T247 h247 X247 W247 => ?_)
                      have z248 : n0 ≤ h247.size := Nat.le_trans z245 (Nat.le_of_eq W247.size.symm)
                      have A247 := AI.set A244 W247
                      refine g_iload X247 at_188 rfl 190 rfl ?_
                      refine g_iconst X247 (3 : Int32) at_190 rfl 191 rfl ?_
                      refine g_icmpN X247 i_le at_191 199 (by decide) (by decide) 194 rfl (fun h249 => ?_) (fun h249 => ?_)
                      · skip
                        refine g_aload X247 at_194 rfl rfl 196 rfl ?_
                        refine g_iconst X247 (3 : Int32) at_196 rfl 197 rfl ?_
                        refine g_iloadN X247 at_197 rfl 198 rfl ?_
                        refine g_iastore X247 A247 3 (by decide) (by decide) g_b238 at_198 199 rfl (fun T250 h250 X250 W250 => ?_)
                        have z251 : n0 ≤ h250.size := Nat.le_trans z248 (Nat.le_of_eq W250.size.symm)
                        have A250 := AI.set A247 W250
                        refine g_iconst X250 (0 : Int32) at_199 rfl 200 rfl ?_
                        refine g_istore X250 at_200 #[.val (.int v7), .val (.int v13), .val (.int v14), .val (.int v11), .val (.int m), .val (.long gg), .second, u15, .val (.int (4 : Int32)), .val (.int v200), .val (.long gg), .second, .val (.ref b238), .val (.int (0 : Int32)), .unset] rfl 202 rfl ?_
                        refine g_iload X250 at_202 rfl 204 rfl ?_
                        have k218_32 : ∀ (v252 : Int32), v252 = (if v7.toInt64 < gg then (0 : Int32) else (1 : Int32)) → Go k n0 (Q0 a b c d m gg h0) 16 128 T250 218 #[.val (.int v7), .val (.int v13), .val (.int v14), .val (.int v11), .val (.int m), .val (.long gg), .second, u15, .val (.int (4 : Int32)), .val (.int v200), .val (.long gg), .second, .val (.ref b238), .val (.int v252), .unset] [] := by
                          intro v252 hv252
                          refine g_iload X250 at_218 rfl 220 rfl ?_
                          refine g_iconst X250 (1 : Int32) at_220 rfl 221 rfl ?_
                          have k235_33 : ∀ (v253 : Int32), v253 = (if v13.toInt64 < gg then v252 else (v252 + (1 : Int32))) → Go k n0 (Q0 a b c d m gg h0) 16 128 T250 235 #[.val (.int v7), .val (.int v13), .val (.int v14), .val (.int v11), .val (.int m), .val (.long gg), .second, u15, .val (.int (4 : Int32)), .val (.int v200), .val (.long gg), .second, .val (.ref b238), .val (.int v253), .unset] [] := by
                            intro v253 hv253
                            refine g_iload X250 at_235 rfl 237 rfl ?_
                            refine g_iconst X250 (2 : Int32) at_237 rfl 238 rfl ?_
                            have k252_34 : ∀ (v254 : Int32), v254 = (if v14.toInt64 < gg then v253 else (v253 + (1 : Int32))) → Go k n0 (Q0 a b c d m gg h0) 16 128 T250 252 #[.val (.int v7), .val (.int v13), .val (.int v14), .val (.int v11), .val (.int m), .val (.long gg), .second, u15, .val (.int (4 : Int32)), .val (.int v200), .val (.long gg), .second, .val (.ref b238), .val (.int v254), .unset] [] := by
                              intro v254 hv254
                              refine g_iload X250 at_252 rfl 254 rfl ?_
                              refine g_iconst X250 (3 : Int32) at_254 rfl 255 rfl ?_
                              have k269_35 : ∀ (v255 : Int32), v255 = (if v11.toInt64 < gg then v254 else (v254 + (1 : Int32))) → Go k n0 (Q0 a b c d m gg h0) 16 128 T250 269 #[.val (.int v7), .val (.int v13), .val (.int v14), .val (.int v11), .val (.int m), .val (.long gg), .second, u15, .val (.int (4 : Int32)), .val (.int v200), .val (.long gg), .second, .val (.ref b238), .val (.int v255), .unset] [] := by
                                intro v255 hv255
                                refine g_aload X250 at_269 rfl rfl 271 rfl ?_
                                refine g_lload X250 at_271 rfl 273 rfl ?_
                                have AA : AI Z h250 b238 .int 4 (fun i => .int ((own_f v7 v13 v14 v11) i)) := AI.to A250 (fun i hi => by (have q : i = 0 ∨ i = 1 ∨ i = 2 ∨ i = 3 := by omega); rcases q with rfl | rfl | rfl | rfl <;> rfl)
                                refine g_callS X250 [(.ref b238), (.long gg)] [] (rm1 hw n0 b238 gg 4 (own_f v7 v13 v14 v11) h250 AA (own_sorted hnet.1 hnet.2.1 hnet.2.2)) (w2 hw) (w3 hw) (w4 hw) (w5 hw) (by decide) pd0 rfl rfl (by decide) (Nat.le_of_ble_eq_true rfl) (by decide) (by decide) at_273 rfl 276 rfl (fun v256 T256 h256 X256 q256 => ?_)
                                obtain ⟨⟨r, rfl, r1, r2, r3⟩, rfl⟩ := q256
                                show Go k n0 (Q0 a b c d m gg h0) 16 128 T256 276 #[.val (.int v7), .val (.int v13), .val (.int v14), .val (.int v11), .val (.int m), .val (.long gg), .second, u15, .val (.int (4 : Int32)), .val (.int v200), .val (.long gg), .second, .val (.ref b238), .val (.int v255), .unset] [(.int r)]
                                refine g_istore X256 at_276 #[.val (.int v7), .val (.int v13), .val (.int v14), .val (.int v11), .val (.int m), .val (.long gg), .second, u15, .val (.int (4 : Int32)), .val (.int v200), .val (.long gg), .second, .val (.ref b238), .val (.int v255), .val (.int r)] rfl 278 rfl ?_
                                refine g_iload X256 at_278 rfl 280 rfl ?_
                                refine g_iload X256 at_280 rfl 282 rfl ?_
                                refine g_icmpN X256 i_ne at_282 289 (by decide) (by decide) 285 rfl (fun h257 => ?_) (fun h257 => ?_)
                                · skip
                                  refine g_iconst X256 (1 : Int32) at_285 rfl 286 rfl ?_
                                  refine g_goto X256 at_286 290 (by decide) (by decide) ?_
                                  exact g_retZ X256 at_290 (by decide) (by decide) own_one
                                · skip
                                  refine g_iconst X256 (0 : Int32) at_289 rfl 290 rfl ?_
                                  exfalso
                                  refine h257 (Int32.toInt_inj.mp ?_)
                                  have y0 : ((0 : Nat) : Int) < r.toInt ↔ gg.toInt ≤ v7.toInt := r3 0 (by decide)
                                  have y1 : ((1 : Nat) : Int) < r.toInt ↔ gg.toInt ≤ v13.toInt := r3 1 (by decide)
                                  have y2 : ((2 : Nat) : Int) < r.toInt ↔ gg.toInt ≤ v14.toInt := r3 2 (by decide)
                                  have y3 : ((3 : Nat) : Int) < r.toInt ↔ gg.toInt ≤ v11.toInt := r3 3 (by decide)
                                  rcases own_cnt own_z0 (by decide) hv252 with ⟨u0, t0⟩ | ⟨u0, t0⟩
                                  · skip
                                    rcases own_cnt t0 (by decide) hv253 with ⟨u1, t1⟩ | ⟨u1, t1⟩
                                    · skip
                                      rcases own_cnt t1 (by decide) hv254 with ⟨u2, t2⟩ | ⟨u2, t2⟩
                                      · skip
                                        rcases own_cnt t2 (by decide) hv255 with ⟨u3, t3⟩ | ⟨u3, t3⟩
                                        · skip
                                          have e0 := t3; omega
                                        · skip
                                          have e0 := t3; omega
                                      · skip
                                        rcases own_cnt t2 (by decide) hv255 with ⟨u3, t3⟩ | ⟨u3, t3⟩
                                        · skip
                                          have e0 := t3; omega
                                        · skip
                                          have e0 := t3; omega
                                    · skip
                                      rcases own_cnt t1 (by decide) hv254 with ⟨u2, t2⟩ | ⟨u2, t2⟩
                                      · skip
                                        rcases own_cnt t2 (by decide) hv255 with ⟨u3, t3⟩ | ⟨u3, t3⟩
                                        · skip
                                          have e0 := t3; omega
                                        · skip
                                          have e0 := t3; omega
                                      · skip
                                        rcases own_cnt t2 (by decide) hv255 with ⟨u3, t3⟩ | ⟨u3, t3⟩
                                        · skip
                                          have e0 := t3; omega
                                        · skip
                                          have e0 := t3; omega
                                  · skip
                                    rcases own_cnt t0 (by decide) hv253 with ⟨u1, t1⟩ | ⟨u1, t1⟩
                                    · skip
                                      rcases own_cnt t1 (by decide) hv254 with ⟨u2, t2⟩ | ⟨u2, t2⟩
                                      · skip
                                        rcases own_cnt t2 (by decide) hv255 with ⟨u3, t3⟩ | ⟨u3, t3⟩
                                        · skip
                                          have e0 := t3; omega
                                        · skip
                                          have e0 := t3; omega
                                      · skip
                                        rcases own_cnt t2 (by decide) hv255 with ⟨u3, t3⟩ | ⟨u3, t3⟩
                                        · skip
                                          have e0 := t3; omega
                                        · skip
                                          have e0 := t3; omega
                                    · skip
                                      rcases own_cnt t1 (by decide) hv254 with ⟨u2, t2⟩ | ⟨u2, t2⟩
                                      · skip
                                        rcases own_cnt t2 (by decide) hv255 with ⟨u3, t3⟩ | ⟨u3, t3⟩
                                        · skip
                                          have e0 := t3; omega
                                        · skip
                                          have e0 := t3; omega
                                      · skip
                                        rcases own_cnt t2 (by decide) hv255 with ⟨u3, t3⟩ | ⟨u3, t3⟩
                                        · skip
                                          have e0 := t3; omega
                                        · skip
                                          have e0 := t3; omega
                              refine g_icmpN X250 i_le at_255 269 (by decide) (by decide) 258 rfl (fun h258 => ?_) (fun h258 => ?_)
                              · skip
                                refine g_iloadN X250 at_258 rfl 259 rfl ?_
                                refine g_i2l X250 at_259 260 rfl ?_
                                refine g_lload X250 at_260 rfl 262 rfl ?_
                                refine g_lcmp X250 at_262 263 rfl ?_
                                refine g_if X250 l_lt at_263 269 (by decide) (by decide) 266 rfl (fun h259 => ?_) (fun h259 => ?_)
                                · skip
                                  exact k269_35 (v254) (by first | (simp only [if_neg h203, if_pos h259]; done) | (simp only [if_neg h203, if_pos h259]; done) | (simp only [apply_ite Int32.toInt64, if_neg h203, if_pos h259]; done) | (simp only [h203, h259, if_true, if_false, true_or, or_true, true_and, and_true, not_true_eq_false, not_false_eq_true, false_or, or_false, false_and, and_false]; done) | (simp only [h203, h259, hv1, hv2, hv4, hv5, hv7, hv8, hv10, hv11, hv13, hv14, hv200, hv252, hv253, hv254, if_true, if_false, true_or, or_true, true_and, and_true, not_true_eq_false, not_false_eq_true, false_or, or_false, false_and, and_false]; done))
                                · skip
                                  refine g_iinc X250 (1 : Int32) at_266 rfl rfl #[.val (.int v7), .val (.int v13), .val (.int v14), .val (.int v11), .val (.int m), .val (.long gg), .second, u15, .val (.int (4 : Int32)), .val (.int v200), .val (.long gg), .second, .val (.ref b238), .val (.int (v254 + (1 : Int32))), .unset] rfl 269 rfl ?_
                                  exact k269_35 ((v254 + (1 : Int32))) (by first | (simp only [if_neg h203, if_neg h259]; done) | (simp only [if_neg h203, if_neg h259]; done) | (simp only [apply_ite Int32.toInt64, if_neg h203, if_neg h259]; done) | (simp only [h203, h259, if_true, if_false, true_or, or_true, true_and, and_true, not_true_eq_false, not_false_eq_true, false_or, or_false, false_and, and_false]; done) | (simp only [h203, h259, hv1, hv2, hv4, hv5, hv7, hv8, hv10, hv11, hv13, hv14, hv200, hv252, hv253, hv254, if_true, if_false, true_or, or_true, true_and, and_true, not_true_eq_false, not_false_eq_true, false_or, or_false, false_and, and_false]; done))
                              · exact absurd (by decide) h258
                            refine g_icmpN X250 i_le at_238 252 (by decide) (by decide) 241 rfl (fun h260 => ?_) (fun h260 => ?_)
                            · skip
                              refine g_iloadN X250 at_241 rfl 242 rfl ?_
                              refine g_i2l X250 at_242 243 rfl ?_
                              refine g_lload X250 at_243 rfl 245 rfl ?_
                              refine g_lcmp X250 at_245 246 rfl ?_
                              refine g_if X250 l_lt at_246 252 (by decide) (by decide) 249 rfl (fun h261 => ?_) (fun h261 => ?_)
                              · skip
                                exact k252_34 (v253) (by first | (simp only [if_neg h203, if_pos h261]; done) | (simp only [if_neg h203, if_pos h261]; done) | (simp only [apply_ite Int32.toInt64, if_neg h203, if_pos h261]; done) | (simp only [h203, h261, if_true, if_false, true_or, or_true, true_and, and_true, not_true_eq_false, not_false_eq_true, false_or, or_false, false_and, and_false]; done) | (simp only [h203, h261, hv1, hv2, hv4, hv5, hv7, hv8, hv10, hv11, hv13, hv14, hv200, hv252, hv253, if_true, if_false, true_or, or_true, true_and, and_true, not_true_eq_false, not_false_eq_true, false_or, or_false, false_and, and_false]; done))
                              · skip
                                refine g_iinc X250 (1 : Int32) at_249 rfl rfl #[.val (.int v7), .val (.int v13), .val (.int v14), .val (.int v11), .val (.int m), .val (.long gg), .second, u15, .val (.int (4 : Int32)), .val (.int v200), .val (.long gg), .second, .val (.ref b238), .val (.int (v253 + (1 : Int32))), .unset] rfl 252 rfl ?_
                                exact k252_34 ((v253 + (1 : Int32))) (by first | (simp only [if_neg h203, if_neg h261]; done) | (simp only [if_neg h203, if_neg h261]; done) | (simp only [apply_ite Int32.toInt64, if_neg h203, if_neg h261]; done) | (simp only [h203, h261, if_true, if_false, true_or, or_true, true_and, and_true, not_true_eq_false, not_false_eq_true, false_or, or_false, false_and, and_false]; done) | (simp only [h203, h261, hv1, hv2, hv4, hv5, hv7, hv8, hv10, hv11, hv13, hv14, hv200, hv252, hv253, if_true, if_false, true_or, or_true, true_and, and_true, not_true_eq_false, not_false_eq_true, false_or, or_false, false_and, and_false]; done))
                            · exact absurd (by decide) h260
                          refine g_icmpN X250 i_le at_221 235 (by decide) (by decide) 224 rfl (fun h262 => ?_) (fun h262 => ?_)
                          · skip
                            refine g_iloadN X250 at_224 rfl 225 rfl ?_
                            refine g_i2l X250 at_225 226 rfl ?_
                            refine g_lload X250 at_226 rfl 228 rfl ?_
                            refine g_lcmp X250 at_228 229 rfl ?_
                            refine g_if X250 l_lt at_229 235 (by decide) (by decide) 232 rfl (fun h263 => ?_) (fun h263 => ?_)
                            · skip
                              exact k235_33 (v252) (by first | (simp only [if_neg h203, if_pos h263]; done) | (simp only [if_neg h203, if_pos h263]; done) | (simp only [apply_ite Int32.toInt64, if_neg h203, if_pos h263]; done) | (simp only [h203, h263, if_true, if_false, true_or, or_true, true_and, and_true, not_true_eq_false, not_false_eq_true, false_or, or_false, false_and, and_false]; done) | (simp only [h203, h263, hv1, hv2, hv4, hv5, hv7, hv8, hv10, hv11, hv13, hv14, hv200, hv252, if_true, if_false, true_or, or_true, true_and, and_true, not_true_eq_false, not_false_eq_true, false_or, or_false, false_and, and_false]; done))
                            · skip
                              refine g_iinc X250 (1 : Int32) at_232 rfl rfl #[.val (.int v7), .val (.int v13), .val (.int v14), .val (.int v11), .val (.int m), .val (.long gg), .second, u15, .val (.int (4 : Int32)), .val (.int v200), .val (.long gg), .second, .val (.ref b238), .val (.int (v252 + (1 : Int32))), .unset] rfl 235 rfl ?_
                              exact k235_33 ((v252 + (1 : Int32))) (by first | (simp only [if_neg h203, if_neg h263]; done) | (simp only [if_neg h203, if_neg h263]; done) | (simp only [apply_ite Int32.toInt64, if_neg h203, if_neg h263]; done) | (simp only [h203, h263, if_true, if_false, true_or, or_true, true_and, and_true, not_true_eq_false, not_false_eq_true, false_or, or_false, false_and, and_false]; done) | (simp only [h203, h263, hv1, hv2, hv4, hv5, hv7, hv8, hv10, hv11, hv13, hv14, hv200, hv252, if_true, if_false, true_or, or_true, true_and, and_true, not_true_eq_false, not_false_eq_true, false_or, or_false, false_and, and_false]; done))
                          · exact absurd (by decide) h262
                        refine g_ifN X250 z_le at_204 218 (by decide) (by decide) 207 rfl (fun h264 => ?_) (fun h264 => ?_)
                        · skip
                          refine g_iloadN X250 at_207 rfl 208 rfl ?_
                          refine g_i2l X250 at_208 209 rfl ?_
                          refine g_lload X250 at_209 rfl 211 rfl ?_
                          refine g_lcmp X250 at_211 212 rfl ?_
                          refine g_if X250 l_lt at_212 218 (by decide) (by decide) 215 rfl (fun h265 => ?_) (fun h265 => ?_)
                          · skip
                            exact k218_32 ((0 : Int32)) (by first | (simp only [if_neg h203, if_pos h265]; done) | (simp only [if_neg h203, if_pos h265]; done) | (simp only [apply_ite Int32.toInt64, if_neg h203, if_pos h265]; done) | (simp only [h203, h265, if_true, if_false, true_or, or_true, true_and, and_true, not_true_eq_false, not_false_eq_true, false_or, or_false, false_and, and_false]; done) | (simp only [h203, h265, hv1, hv2, hv4, hv5, hv7, hv8, hv10, hv11, hv13, hv14, hv200, if_true, if_false, true_or, or_true, true_and, and_true, not_true_eq_false, not_false_eq_true, false_or, or_false, false_and, and_false]; done))
                          · skip
                            refine g_iinc X250 (1 : Int32) at_215 rfl rfl #[.val (.int v7), .val (.int v13), .val (.int v14), .val (.int v11), .val (.int m), .val (.long gg), .second, u15, .val (.int (4 : Int32)), .val (.int v200), .val (.long gg), .second, .val (.ref b238), .val (.int ((0 : Int32) + (1 : Int32))), .unset] rfl 218 rfl ?_
                            rw [(by decide : (0 : Int32) + (1 : Int32) = (1 : Int32))]
                            exact k218_32 ((1 : Int32)) (by first | (simp only [if_neg h203, if_neg h265]; done) | (simp only [if_neg h203, if_neg h265]; done) | (simp only [apply_ite Int32.toInt64, if_neg h203, if_neg h265]; done) | (simp only [h203, h265, if_true, if_false, true_or, or_true, true_and, and_true, not_true_eq_false, not_false_eq_true, false_or, or_false, false_and, and_false]; done) | (simp only [h203, h265, hv1, hv2, hv4, hv5, hv7, hv8, hv10, hv11, hv13, hv14, hv200, if_true, if_false, true_or, or_true, true_and, and_true, not_true_eq_false, not_false_eq_true, false_or, or_false, false_and, and_false]; done))
                        · exact absurd (by decide) h264
                      · exact absurd (by decide) h249
                    · exact absurd (by decide) h246
                  · exact absurd (by decide) h243
                · exact absurd (by decide) h240
          refine g_icmpN X0 i_ge at_54 65 (by decide) (by decide) 57 rfl (fun h266 => ?_) (fun h266 => ?_)
          · skip
            refine g_iloadN X0 at_57 rfl 58 rfl ?_
            refine g_istore X0 at_58 #[.val (.int v7), .val (.int v10), .val (.int v8), .val (.int v11), .val (.int m), .val (.long gg), .second, .val (.int v10), .unset, .unset, .unset, .unset, .unset, .unset, .unset] (XS.store1 rfl hu12 rfl) 60 rfl ?_
            refine g_iloadN X0 at_60 rfl 61 rfl ?_
            refine g_istoreN X0 at_61 #[.val (.int v7), .val (.int v8), .val (.int v8), .val (.int v11), .val (.int m), .val (.long gg), .second, .val (.int v10), .unset, .unset, .unset, .unset, .unset, .unset, .unset] rfl 62 rfl ?_
            refine g_iload X0 at_62 rfl 64 rfl ?_
            refine g_istoreN X0 at_64 #[.val (.int v7), .val (.int v8), .val (.int v10), .val (.int v11), .val (.int m), .val (.long gg), .second, .val (.int v10), .unset, .unset, .unset, .unset, .unset, .unset, .unset] rfl 65 rfl ?_
            exact k65_5 (v8) (v10) (.val (.int v10)) (One.val rfl) (by first | (simp only [if_pos h266]; done) | (simp only [if_pos h266]; done) | (simp only [apply_ite Int32.toInt64, if_pos h266]; done) | (simp only [h266, if_true, if_false, true_or, or_true, true_and, and_true, not_true_eq_false, not_false_eq_true, false_or, or_false, false_and, and_false]; done) | (simp only [h266, hv1, hv2, hv4, hv5, hv7, hv8, hv10, hv11, if_true, if_false, true_or, or_true, true_and, and_true, not_true_eq_false, not_false_eq_true, false_or, or_false, false_and, and_false]; done)) (by first | (simp only [if_pos h266]; done) | (simp only [if_pos h266]; done) | (simp only [apply_ite Int32.toInt64, if_pos h266]; done) | (simp only [h266, if_true, if_false, true_or, or_true, true_and, and_true, not_true_eq_false, not_false_eq_true, false_or, or_false, false_and, and_false]; done) | (simp only [h266, hv1, hv2, hv4, hv5, hv7, hv8, hv10, hv11, if_true, if_false, true_or, or_true, true_and, and_true, not_true_eq_false, not_false_eq_true, false_or, or_false, false_and, and_false]; done))
          · skip
            exact k65_5 (v10) (v8) (u12) hu12 (by first | (simp only [if_neg h266]; done) | (simp only [if_neg h266]; done) | (simp only [apply_ite Int32.toInt64, if_neg h266]; done) | (simp only [h266, if_true, if_false, true_or, or_true, true_and, and_true, not_true_eq_false, not_false_eq_true, false_or, or_false, false_and, and_false]; done) | (simp only [h266, hv1, hv2, hv4, hv5, hv7, hv8, hv10, hv11, if_true, if_false, true_or, or_true, true_and, and_true, not_true_eq_false, not_false_eq_true, false_or, or_false, false_and, and_false]; done)) (by first | (simp only [if_neg h266]; done) | (simp only [if_neg h266]; done) | (simp only [apply_ite Int32.toInt64, if_neg h266]; done) | (simp only [h266, if_true, if_false, true_or, or_true, true_and, and_true, not_true_eq_false, not_false_eq_true, false_or, or_false, false_and, and_false]; done) | (simp only [h266, hv1, hv2, hv4, hv5, hv7, hv8, hv10, hv11, if_true, if_false, true_or, or_true, true_and, and_true, not_true_eq_false, not_false_eq_true, false_or, or_false, false_and, and_false]; done))
        refine g_icmpN X0 i_ge at_41 52 (by decide) (by decide) 44 rfl (fun h267 => ?_) (fun h267 => ?_)
        · skip
          refine g_iloadN X0 at_44 rfl 45 rfl ?_
          refine g_istore X0 at_45 #[.val (.int v7), .val (.int v2), .val (.int v8), .val (.int v5), .val (.int m), .val (.long gg), .second, .val (.int v2), .unset, .unset, .unset, .unset, .unset, .unset, .unset] (XS.store1 rfl hu9 rfl) 47 rfl ?_
          refine g_iloadN X0 at_47 rfl 48 rfl ?_
          refine g_istoreN X0 at_48 #[.val (.int v7), .val (.int v5), .val (.int v8), .val (.int v5), .val (.int m), .val (.long gg), .second, .val (.int v2), .unset, .unset, .unset, .unset, .unset, .unset, .unset] rfl 49 rfl ?_
          refine g_iload X0 at_49 rfl 51 rfl ?_
          refine g_istoreN X0 at_51 #[.val (.int v7), .val (.int v5), .val (.int v8), .val (.int v2), .val (.int m), .val (.long gg), .second, .val (.int v2), .unset, .unset, .unset, .unset, .unset, .unset, .unset] rfl 52 rfl ?_
          exact k52_4 (v5) (v2) (.val (.int v2)) (One.val rfl) (by first | (simp only [if_pos h267]; done) | (simp only [if_pos h267]; done) | (simp only [apply_ite Int32.toInt64, if_pos h267]; done) | (simp only [h267, if_true, if_false, true_or, or_true, true_and, and_true, not_true_eq_false, not_false_eq_true, false_or, or_false, false_and, and_false]; done) | (simp only [h267, hv1, hv2, hv4, hv5, hv7, hv8, if_true, if_false, true_or, or_true, true_and, and_true, not_true_eq_false, not_false_eq_true, false_or, or_false, false_and, and_false]; done)) (by first | (simp only [if_pos h267]; done) | (simp only [if_pos h267]; done) | (simp only [apply_ite Int32.toInt64, if_pos h267]; done) | (simp only [h267, if_true, if_false, true_or, or_true, true_and, and_true, not_true_eq_false, not_false_eq_true, false_or, or_false, false_and, and_false]; done) | (simp only [h267, hv1, hv2, hv4, hv5, hv7, hv8, if_true, if_false, true_or, or_true, true_and, and_true, not_true_eq_false, not_false_eq_true, false_or, or_false, false_and, and_false]; done))
        · skip
          exact k52_4 (v2) (v5) (u9) hu9 (by first | (simp only [if_neg h267]; done) | (simp only [if_neg h267]; done) | (simp only [apply_ite Int32.toInt64, if_neg h267]; done) | (simp only [h267, if_true, if_false, true_or, or_true, true_and, and_true, not_true_eq_false, not_false_eq_true, false_or, or_false, false_and, and_false]; done) | (simp only [h267, hv1, hv2, hv4, hv5, hv7, hv8, if_true, if_false, true_or, or_true, true_and, and_true, not_true_eq_false, not_false_eq_true, false_or, or_false, false_and, and_false]; done)) (by first | (simp only [if_neg h267]; done) | (simp only [if_neg h267]; done) | (simp only [apply_ite Int32.toInt64, if_neg h267]; done) | (simp only [h267, if_true, if_false, true_or, or_true, true_and, and_true, not_true_eq_false, not_false_eq_true, false_or, or_false, false_and, and_false]; done) | (simp only [h267, hv1, hv2, hv4, hv5, hv7, hv8, if_true, if_false, true_or, or_true, true_and, and_true, not_true_eq_false, not_false_eq_true, false_or, or_false, false_and, and_false]; done))
      refine g_icmpN X0 i_ge at_28 39 (by decide) (by decide) 31 rfl (fun h268 => ?_) (fun h268 => ?_)
      · skip
        refine g_iloadN X0 at_31 rfl 32 rfl ?_
        refine g_istore X0 at_32 #[.val (.int v1), .val (.int v2), .val (.int v4), .val (.int v5), .val (.int m), .val (.long gg), .second, .val (.int v1), .unset, .unset, .unset, .unset, .unset, .unset, .unset] (XS.store1 rfl hu6 rfl) 34 rfl ?_
        refine g_iloadN X0 at_34 rfl 35 rfl ?_
        refine g_istoreN X0 at_35 #[.val (.int v4), .val (.int v2), .val (.int v4), .val (.int v5), .val (.int m), .val (.long gg), .second, .val (.int v1), .unset, .unset, .unset, .unset, .unset, .unset, .unset] rfl 36 rfl ?_
        refine g_iload X0 at_36 rfl 38 rfl ?_
        refine g_istoreN X0 at_38 #[.val (.int v4), .val (.int v2), .val (.int v1), .val (.int v5), .val (.int m), .val (.long gg), .second, .val (.int v1), .unset, .unset, .unset, .unset, .unset, .unset, .unset] rfl 39 rfl ?_
        exact k39_3 (v4) (v1) (.val (.int v1)) (One.val rfl) (by first | (simp only [if_pos h268]; done) | (simp only [if_pos h268]; done) | (simp only [apply_ite Int32.toInt64, if_pos h268]; done) | (simp only [h268, if_true, if_false, true_or, or_true, true_and, and_true, not_true_eq_false, not_false_eq_true, false_or, or_false, false_and, and_false]; done) | (simp only [h268, hv1, hv2, hv4, hv5, if_true, if_false, true_or, or_true, true_and, and_true, not_true_eq_false, not_false_eq_true, false_or, or_false, false_and, and_false]; done)) (by first | (simp only [if_pos h268]; done) | (simp only [if_pos h268]; done) | (simp only [apply_ite Int32.toInt64, if_pos h268]; done) | (simp only [h268, if_true, if_false, true_or, or_true, true_and, and_true, not_true_eq_false, not_false_eq_true, false_or, or_false, false_and, and_false]; done) | (simp only [h268, hv1, hv2, hv4, hv5, if_true, if_false, true_or, or_true, true_and, and_true, not_true_eq_false, not_false_eq_true, false_or, or_false, false_and, and_false]; done))
      · skip
        exact k39_3 (v1) (v4) (u6) hu6 (by first | (simp only [if_neg h268]; done) | (simp only [if_neg h268]; done) | (simp only [apply_ite Int32.toInt64, if_neg h268]; done) | (simp only [h268, if_true, if_false, true_or, or_true, true_and, and_true, not_true_eq_false, not_false_eq_true, false_or, or_false, false_and, and_false]; done) | (simp only [h268, hv1, hv2, hv4, hv5, if_true, if_false, true_or, or_true, true_and, and_true, not_true_eq_false, not_false_eq_true, false_or, or_false, false_and, and_false]; done)) (by first | (simp only [if_neg h268]; done) | (simp only [if_neg h268]; done) | (simp only [apply_ite Int32.toInt64, if_neg h268]; done) | (simp only [h268, if_true, if_false, true_or, or_true, true_and, and_true, not_true_eq_false, not_false_eq_true, false_or, or_false, false_and, and_false]; done) | (simp only [h268, hv1, hv2, hv4, hv5, if_true, if_false, true_or, or_true, true_and, and_true, not_true_eq_false, not_false_eq_true, false_or, or_false, false_and, and_false]; done))
    refine g_icmpN X0 i_ge at_15 26 (by decide) (by decide) 18 rfl (fun h269 => ?_) (fun h269 => ?_)
    · skip
      refine g_iloadN X0 at_18 rfl 19 rfl ?_
      refine g_istore X0 at_19 #[.val (.int v1), .val (.int v2), .val (.int c), .val (.int d), .val (.int m), .val (.long gg), .second, .val (.int c), .unset, .unset, .unset, .unset, .unset, .unset, .unset] (XS.store1 rfl hu3 rfl) 21 rfl ?_
      refine g_iloadN X0 at_21 rfl 22 rfl ?_
      refine g_istoreN X0 at_22 #[.val (.int v1), .val (.int v2), .val (.int d), .val (.int d), .val (.int m), .val (.long gg), .second, .val (.int c), .unset, .unset, .unset, .unset, .unset, .unset, .unset] rfl 23 rfl ?_
      refine g_iload X0 at_23 rfl 25 rfl ?_
      refine g_istoreN X0 at_25 #[.val (.int v1), .val (.int v2), .val (.int d), .val (.int c), .val (.int m), .val (.long gg), .second, .val (.int c), .unset, .unset, .unset, .unset, .unset, .unset, .unset] rfl 26 rfl ?_
      exact k26_2 (d) (c) (.val (.int c)) (One.val rfl) (by first | (simp only [if_pos h269]; done) | (simp only [if_pos h269]; done) | (simp only [apply_ite Int32.toInt64, if_pos h269]; done) | (simp only [h269, if_true, if_false, true_or, or_true, true_and, and_true, not_true_eq_false, not_false_eq_true, false_or, or_false, false_and, and_false]; done) | (simp only [h269, hv1, hv2, if_true, if_false, true_or, or_true, true_and, and_true, not_true_eq_false, not_false_eq_true, false_or, or_false, false_and, and_false]; done)) (by first | (simp only [if_pos h269]; done) | (simp only [if_pos h269]; done) | (simp only [apply_ite Int32.toInt64, if_pos h269]; done) | (simp only [h269, if_true, if_false, true_or, or_true, true_and, and_true, not_true_eq_false, not_false_eq_true, false_or, or_false, false_and, and_false]; done) | (simp only [h269, hv1, hv2, if_true, if_false, true_or, or_true, true_and, and_true, not_true_eq_false, not_false_eq_true, false_or, or_false, false_and, and_false]; done))
    · skip
      exact k26_2 (c) (d) (u3) hu3 (by first | (simp only [if_neg h269]; done) | (simp only [if_neg h269]; done) | (simp only [apply_ite Int32.toInt64, if_neg h269]; done) | (simp only [h269, if_true, if_false, true_or, or_true, true_and, and_true, not_true_eq_false, not_false_eq_true, false_or, or_false, false_and, and_false]; done) | (simp only [h269, hv1, hv2, if_true, if_false, true_or, or_true, true_and, and_true, not_true_eq_false, not_false_eq_true, false_or, or_false, false_and, and_false]; done)) (by first | (simp only [if_neg h269]; done) | (simp only [if_neg h269]; done) | (simp only [apply_ite Int32.toInt64, if_neg h269]; done) | (simp only [h269, if_true, if_false, true_or, or_true, true_and, and_true, not_true_eq_false, not_false_eq_true, false_or, or_false, false_and, and_false]; done) | (simp only [h269, hv1, hv2, if_true, if_false, true_or, or_true, true_and, and_true, not_true_eq_false, not_false_eq_true, false_or, or_false, false_and, and_false]; done))
  refine g_icmpN X0 i_ge at_2 13 (by decide) (by decide) 5 rfl (fun h270 => ?_) (fun h270 => ?_)
  · skip
    refine g_iloadN X0 at_5 rfl 6 rfl ?_
    refine g_istore X0 at_6 #[.val (.int a), .val (.int b), .val (.int c), .val (.int d), .val (.int m), .val (.long gg), .second, .val (.int a), .unset, .unset, .unset, .unset, .unset, .unset, .unset] rfl 8 rfl ?_
    refine g_iloadN X0 at_8 rfl 9 rfl ?_
    refine g_istoreN X0 at_9 #[.val (.int b), .val (.int b), .val (.int c), .val (.int d), .val (.int m), .val (.long gg), .second, .val (.int a), .unset, .unset, .unset, .unset, .unset, .unset, .unset] rfl 10 rfl ?_
    refine g_iload X0 at_10 rfl 12 rfl ?_
    refine g_istoreN X0 at_12 #[.val (.int b), .val (.int a), .val (.int c), .val (.int d), .val (.int m), .val (.long gg), .second, .val (.int a), .unset, .unset, .unset, .unset, .unset, .unset, .unset] rfl 13 rfl ?_
    exact k13_1 (b) (a) (.val (.int a)) (One.val rfl) (by first | (simp only [if_pos h270]; done) | (simp only [if_pos h270]; done) | (simp only [apply_ite Int32.toInt64, if_pos h270]; done) | (simp only [h270, if_true, if_false, true_or, or_true, true_and, and_true, not_true_eq_false, not_false_eq_true, false_or, or_false, false_and, and_false]; done) | (simp only [h270, if_true, if_false, true_or, or_true, true_and, and_true, not_true_eq_false, not_false_eq_true, false_or, or_false, false_and, and_false]; done)) (by first | (simp only [if_pos h270]; done) | (simp only [if_pos h270]; done) | (simp only [apply_ite Int32.toInt64, if_pos h270]; done) | (simp only [h270, if_true, if_false, true_or, or_true, true_and, and_true, not_true_eq_false, not_false_eq_true, false_or, or_false, false_and, and_false]; done) | (simp only [h270, if_true, if_false, true_or, or_true, true_and, and_true, not_true_eq_false, not_false_eq_true, false_or, or_false, false_and, and_false]; done))
  · skip
    exact k13_1 (a) (b) (.unset) One.u (by first | (simp only [if_neg h270]; done) | (simp only [if_neg h270]; done) | (simp only [apply_ite Int32.toInt64, if_neg h270]; done) | (simp only [h270, if_true, if_false, true_or, or_true, true_and, and_true, not_true_eq_false, not_false_eq_true, false_or, or_false, false_and, and_false]; done) | (simp only [h270, if_true, if_false, true_or, or_true, true_and, and_true, not_true_eq_false, not_false_eq_true, false_or, or_false, false_and, and_false]; done)) (by first | (simp only [if_neg h270]; done) | (simp only [if_neg h270]; done) | (simp only [apply_ite Int32.toInt64, if_neg h270]; done) | (simp only [h270, if_true, if_false, true_or, or_true, true_and, and_true, not_true_eq_false, not_false_eq_true, false_or, or_false, false_and, and_false]; done) | (simp only [h270, if_true, if_false, true_or, or_true, true_and, and_true, not_true_eq_false, not_false_eq_true, false_or, or_false, false_and, and_false]; done))
set_option maxRecDepth 65536 in
set_option maxHeartbeats 40000000 in
theorem comes_1 {Post : Tables → Env → Array Value → State → Outcome → State → Prop} (hpost : ∀ tb e args s v u, (limb_1_1.after args s (.returned v) u = true ∧ limb_1_2.after args s (.returned v) u = true ∧ True) → FrameEnd s (.returned v) u (Jvm.fieldLocs frame_1_writes args s ++ Jvm.arrayLocs frame_1_arrays args s ++ Jvm.staticLocs frame_1_statics s) 16 128 → Post tb e args s (.returned v) u) :
    ArmFor flags0 classFile x code maxLocals ret World_1 tables_1 room_1 Calls_1 rest_1 Pre_1 Post := by
  intro l hfl _ _ p e ha hc hk s m args below hf hA hF happ hP
  obtain ⟨hcalls, hrest, hpre⟩ := hP
  obtain ⟨-, -, -, hnamed, -, -, -, hat⟩ := (Spec.applies_iff hf).mp happ
  obtain ⟨hg, hn⟩ := and_e (Cond.before_iff.mp (show (Jvm.Cond.and given_1 narrow_1).before args s = true from hpre))
  obtain ⟨hcount, g0⟩ := and_e hg
  obtain ⟨q0, g1⟩ := and_e g0
  obtain ⟨q1, g2⟩ := and_e g1
  obtain ⟨q2, g3⟩ := and_e g2
  obtain ⟨q3, g4⟩ := and_e g3
  obtain ⟨q4, g5⟩ := and_e g4
  have q5 := g5
  obtain ⟨w0, w1, w2, w3, w4, w5, rfl⟩ : ∃ w0 w1 w2 w3 w4 w5 : Value, args = #[w0, w1, w2, w3, w4, w5] := by
    have hs : args.size = 6 := by simpa [Cond.value, given_1] using hcount
    obtain ⟨L⟩ := args
    match L, hs with
    | [w0, w1, w2, w3, w4, w5], _ => exact ⟨w0, w1, w2, w3, w4, w5, rfl⟩
  have hw := fun d (hd : d ∈ tables_1) => atoms_spec (ws := Jvm.Cond.code x code maxLocals ret :: tables_1) hat d (List.mem_cons_of_mem _ hd)
  have hfit : Fit s := fun {y c} hc i hi => by
    obtain ⟨ha, rfl⟩ := Array.getElem?_eq_some_iff.mp hc
    have q := List.all_eq_true.mp ((Array.all_eq_true_iff_forall_mem.mp hF) _ (Array.getElem_mem ha)) i (List.mem_range.mpr hi)
    simpa [Array.getElem?_eq_getElem hi] using q
  obtain ⟨i0, e0⟩ := is_v q0
  obtain rfl : w0 = (.int i0) := Option.some.inj e0
  obtain ⟨i1, e1⟩ := is_v q1
  obtain rfl : w1 = (.int i1) := Option.some.inj e1
  obtain ⟨i2, e2⟩ := is_v q2
  obtain rfl : w2 = (.int i2) := Option.some.inj e2
  obtain ⟨i3, e3⟩ := is_v q3
  obtain rfl : w3 = (.int i3) := Option.some.inj e3
  obtain ⟨i4, e4⟩ := is_v q4
  obtain rfl : w4 = (.int i4) := Option.some.inj e4
  obtain ⟨i5, e5⟩ := isL_v q5
  obtain rfl : w5 = (.long i5) := Option.some.inj e5
  obtain ⟨n, o, h1, h2, h3, v, L, rfl, ⟨N, hQ⟩, hq⟩ := rm0 (l := l) hw s.heap.size i0 i1 i2 i3 i4 i5 s.heap (Nat.le_refl _) p e ha hc hk s m _ below hf ((Spec.applies_iff_loose hf).mp happ).1 ⟨rfl, State.Warmed39.refl s, rfl⟩ trivial
  obtain rfl : v = some (.int 1) := hQ
  refine ⟨n, _, h1, h2, h3, hpost _ _ _ _ _ _ ⟨Cond.after_iff.mpr rfl, Cond.after_iff.mpr (eq_i res_at (Term.int_eval (1)) rfl), trivial⟩ ⟨hq.1, hq.2.1, (hq.2.2.sift fun y hy => Or.inr (N y hy)).mono (by decide) (by decide)⟩⟩
theorem main_1_1 : Claimed_1_1 := comes_1 fun _ _ _ _ _ _ h hF => ⟨h.1, hF⟩
theorem main_1_2 : Claimed_1_2 := comes_1 fun _ _ _ _ _ _ h hF => ⟨h.2.1, hF⟩
end Jvm.Pilot.@@N@@
namespace Jvm.Pilot.@@N@@
open Jvm Jvm.ClassFile Sem Op Lib Jvm.Free Jvm.Stand Jvm.Pilot.@@N@@.Jvm.D
/-! MADE BY PROGRAM (witnessworld.py) out of the Statement's table words and the real class files: 9 classes; the members and pool entries that the words name. The judged class is class 1, her method 1. -/
namespace start1
open Jvm.ClassFile
def u (s : String) : CpInfo := .utf8 (stringToUtf16 s)
/-- a pool by its gaps: so many unusable entries, then the entry; so many at the end -/
def gap : Nat → List CpInfo → List CpInfo
  | 0, r => r
  | n + 1, r => .unusable :: gap n r
def poolList (es : List (Nat × CpInfo)) (last : Nat) : List CpInfo := es.foldr (fun e r => gap e.1 (e.2 :: r)) (gap last [])
def pool (es : List (Nat × CpInfo)) (last : Nat) : Array CpInfo := ⟨poolList es last⟩
def fileOf (pool : Array CpInfo) (this : Nat) (attrs : Array Attribute := #[]) (ms : Array MethodInfo := #[]) (fl : Nat := 33) (sup : Nat := 0) (ifs : Array Nat := #[]) (fds : Array FieldInfo := #[]) : ClassFile where
  minorVersion := 0
  majorVersion := 65
  constantPool := pool
  accessFlags := fl
  thisClass := this
  superClass := sup
  interfaces := ifs
  fields := fds
  methods := ms
  attributes := attrs
def plain (name : String) (sup : Option ClassId) : Class where
  name := name
  kind := .ordinary
  loader := none
  accessFlags := 33
  super := sup
  interfaces := #[]
  cf := none
  fields := #[]
  methods := #[]
  instanceTypes := #[]
  staticTypes := #[]
  resolved := #[]
  callSites := []
  init := .initialized
  statics := none
  mirror := none

def pool0 : Array CpInfo := pool [(5, u "<init>"), (0, u "()V"), (1, .class_ 10), (1, u "java/lang/Object")] 113

def k0m0 : Method := { name := "<init>", desc := "()V", sig := { parameters := [], returnType := none }, accessFlags := 1, code := none }
/-- java/lang/Object -/
def k0 : Class := { plain "java/lang/Object" none with
  accessFlags := 33
  interfaces := #[]
  cf := some (fileOf pool0 8 #[] #[{ accessFlags := 1, nameIndex := 5, descriptorIndex := 6, attributes := #[] }] 33 0 #[] #[])
  fields := #[]
  methods := #[k0m0]
  instanceTypes := #[]
  staticTypes := #[]
  resolved := Array.replicate 124 none
  statics := none }

def pool1 : Array CpInfo := pool [(2, .class_ 4), (1, u "java/lang/Object"), (0, u "<init>"), (0, u "()V"), (0, .integer 2147483647), (0, .methodref 9 10), (0, .class_ 11), (0, .nameAndType 12 13), (0, u "com/example/test_collection_measures/testcollectionmeasures/Qrels"), (0, u "countAtLeast"), (0, u "([IJ)I"), (0, .class_ 15), (0, u "com/example/test_collection_measures/testcollectionmeasures/QrelsCountAtLeastPinLaw"), (2, u "law"), (0, u "(IIIIIJ)Z")] 5

def k1m0 : Method := { name := "<init>", desc := "()V", sig := { parameters := [], returnType := none }, accessFlags := 2, code := none }
def k1c1 : Code := { maxStack := 4, maxLocals := 15, code := code, exceptionTable := #[], attributes := #[] }
def k1m1 : Method := { name := "law", desc := "(IIIIIJ)Z", sig := { parameters := [.int, .int, .int, .int, .int, .long], returnType := some .boolean }, accessFlags := 9, code := some k1c1 }
/-- com/example/test_collection_measures/testcollectionmeasures/QrelsCountAtLeastPinLaw -/
def k1 : Class := { plain "com/example/test_collection_measures/testcollectionmeasures/QrelsCountAtLeastPinLaw" (some 0) with
  accessFlags := 49
  interfaces := #[]
  cf := some (fileOf pool1 14 #[] #[{ accessFlags := 2, nameIndex := 5, descriptorIndex := 6, attributes := #[] }, { accessFlags := 9, nameIndex := 18, descriptorIndex := 19, attributes := #[] }] 49 2 #[] #[])
  fields := #[]
  methods := #[k1m0, k1m1]
  instanceTypes := #[]
  staticTypes := #[]
  resolved := Array.replicate 25 none
  statics := none }

def pool2 : Array CpInfo := pool [(2, .class_ 4), (1, u "java/lang/Object"), (19, .class_ 26), (1, u "com/example/test_collection_measures/testcollectionmeasures/Qrels"), (0, u "gradesByTopic"), (0, u "Ljava/util/SortedMap;"), (5, u "gradesHighestFirstByTopic"), (0, u "Ljava/util/Map;"), (93, u "countAtLeast"), (0, u "([IJ)I"), (78, u "FIELDS"), (0, u "I")] 94

def k2c0 : Code := { maxStack := 4, maxLocals := 6, code := prog_29_method_11_code, exceptionTable := #[], attributes := #[] }
def k2m0 : Method := { name := "countAtLeast", desc := "([IJ)I", sig := { parameters := [(.array .int), .long], returnType := some .int }, accessFlags := 8, code := some k2c0 }
/-- com/example/test_collection_measures/testcollectionmeasures/Qrels -/
def k2 : Class := { plain "com/example/test_collection_measures/testcollectionmeasures/Qrels" (some 0) with
  accessFlags := 33
  interfaces := #[]
  cf := some (fileOf pool2 24 #[] #[{ accessFlags := 8, nameIndex := 129, descriptorIndex := 130, attributes := #[] }] 33 2 #[] #[{ accessFlags := 26, nameIndex := 209, descriptorIndex := 210, attributes := #[] }, { accessFlags := 18, nameIndex := 27, descriptorIndex := 28, attributes := #[] }, { accessFlags := 18, nameIndex := 34, descriptorIndex := 35, attributes := #[] }])
  fields := #[{ name := "FIELDS", type := .int, accessFlags := 26, slot := 0, constantValue := 0 }, { name := "gradesByTopic", type := (.object "java/util/SortedMap"), accessFlags := 18, slot := 0, constantValue := 0 }, { name := "gradesHighestFirstByTopic", type := (.object "java/util/Map"), accessFlags := 18, slot := 1, constantValue := 0 }]
  methods := #[k2m0]
  instanceTypes := #[(.object "java/util/SortedMap"), (.object "java/util/Map")]
  staticTypes := #[.int]
  resolved := Array.replicate 305 none
  statics := none }

def pool3 : Array CpInfo := pool [(1, u "java/lang/Cloneable"), (0, .class_ 1), (0, u "java/lang/Object"), (0, .class_ 3)] 3

/-- java/lang/Cloneable -/
def k3 : Class := { plain "java/lang/Cloneable" (some 0) with
  accessFlags := 1537
  interfaces := #[]
  cf := some (fileOf pool3 2 #[] #[] 1537 4 #[] #[])
  fields := #[]
  methods := #[]
  instanceTypes := #[]
  staticTypes := #[]
  resolved := Array.replicate 8 none
  statics := none }

def pool4 : Array CpInfo := pool [(1, u "java/io/Serializable"), (0, .class_ 1), (0, u "java/lang/Object"), (0, .class_ 3)] 3

/-- java/io/Serializable -/
def k4 : Class := { plain "java/io/Serializable" (some 0) with
  accessFlags := 1537
  interfaces := #[]
  cf := some (fileOf pool4 2 #[] #[] 1537 4 #[] #[])
  fields := #[]
  methods := #[]
  instanceTypes := #[]
  staticTypes := #[]
  resolved := Array.replicate 8 none
  statics := none }

/-- the primitive byte -/
def k5 : Class := { plain "byte" none with kind := .primitive 'B', accessFlags := 0x411 }
/-- [B -/
def k6 : Class := { plain "[B" (some 0) with kind := .array 5 .byte, interfaces := #[3, 4], accessFlags := 1041 }

/-- the primitive int -/
def k7 : Class := { plain "int" none with kind := .primitive 'I', accessFlags := 0x411 }
/-- [I -/
def k8 : Class := { plain "[I" (some 0) with kind := .array 7 .int, interfaces := #[3, 4], accessFlags := 1041 }

def heap : Heap := #[]
def classes : Array Class := #[k0, k1, k2, k3, k4, k5, k6, k7, k8]
def interned : List (Array UInt16 × Addr) := []
def slotsUsed : Nat := 0
def theMethod : MethodId := ⟨1, 1⟩
def args0 : Array Value := #[.int 5, .int 1, .int 1, .int 1, .int 1, .long 3]
def aboutOver (below : List Frame) : State where
  vm := { classes := classes, interned := interned.toArray }
  heap := heap
  slotsUsed := slotsUsed
  threads := #[{ frames := .invoking theMethod args0 :: below }]
def below0 : List Frame := [.native { method := ⟨0, 0⟩, args := #[] }]
def about1 : State := aboutOver below0
def p0 : Program := .bare "" "" ""
def e0 : Env := launch0.env 0 0 0
theorem w_frames : about1.frames = Frame.invoking theMethod args0 :: below0 := rfl
set_option maxRecDepth 65536 in
theorem w_args : argsFit about1.vm theMethod args0 = true := by decide +kernel
set_option maxRecDepth 65536 in
theorem w_heap : heapFits about1 = true := by decide +kernel
set_option maxRecDepth 65536 in
theorem w_runnable : about1.curStatus? = some .runnable := by decide +kernel
set_option maxRecDepth 65536 in
theorem w_alone : about1.alone = true := by decide +kernel
set_option maxRecDepth 65536 in
theorem w_named : about1.methodNamed? x = some theMethod := by decide +kernel
set_option maxRecDepth 65536 in
theorem w_hears : about1.hears theMethod below0 = true := by decide +kernel
set_option maxRecDepth 65536 in
theorem w_ripe : about1.ripe theMethod args0 below0 = true := by decide +kernel
theorem w_running : about1.status = .running := rfl
set_option maxRecDepth 65536 in
theorem w_room : about1.hasRoom e0.platform room_1 = true :=
  launch0.hasRoom_least _ room_1 (by decide +kernel) (by decide +kernel) (by decide +kernel) (by decide +kernel) (by decide +kernel) (by decide +kernel)
theorem allAtoms_all (ts : List Jvm.Cond) (a : Array Jvm.Value) (st : Jvm.State) : (allAtoms ts).before a st = ts.all (fun c => c.before a st) := by
  induction ts with
  | nil => rfl
  | cons c t ih =>
    show (Jvm.Cond.and c (allAtoms t)).before a st = _
    rw [Jvm.Cond.before_and, ih, List.all_cons]
def words1 : List Jvm.Cond := Jvm.Cond.code x code maxLocals ret :: tables_1
/-- a 'code' word, met by the world's own term for the bytes: nothing is compared byte by byte -/
theorem code_word {y : MethodName} {bytes : ByteArray} {mx : Nat} {rt : Option FieldType} {a : Array Value} {s : State} {m : MethodId} {meth : Method} {c : Code} (h1 : s.methodNamed? y = some m) (h2 : s.vm.method? m = some meth) (h3 : meth.code = some c) (h4 : c.code = bytes)
    (h5 : (c.maxLocals == mx && c.exceptionTable.isEmpty && decide (c.maxStack ≤ mostOperands) && decide (meth.sig.returnType = rt) && !meth.locks && decide (parseMethodDescriptor y.desc = some meth.sig)) = true) : (Jvm.Cond.code y bytes mx rt).before a s = true := by
  simp only [Bool.and_eq_true, beq_iff_eq, Bool.not_eq_true', decide_eq_true_eq] at h5
  obtain ⟨⟨⟨⟨⟨g1, g2⟩, g3⟩, g4⟩, g5⟩, g6⟩ := h5
  simp [Cond.before, Cond.holds, Cond.value, h1, h2, h3, h4, g1, g2, g3, g4, g5, g6]
def isCode : Jvm.Cond → Bool
  | .code _ _ _ _ => true
  | _ => false
theorem all_split {L : List Jvm.Cond} {P : Jvm.Cond → Bool} (h1 : L.all (fun c => isCode c || P c) = true) (h2 : ∀ c ∈ L.filter isCode, P c = true) : L.all P = true := by
  refine List.all_eq_true.mpr fun c hc => ?_
  have h := List.all_eq_true.mp h1 c hc
  rcases Bool.eq_false_or_eq_true (isCode c) with hi | hi
  · exact h2 c (List.mem_filter.mpr ⟨hc, hi⟩)
  · simpa [hi] using h
set_option maxRecDepth 65536 in
theorem w_c0 : (Jvm.Cond.code x code maxLocals ret).before args0 about1 = true := code_word (m := ⟨1, 1⟩) (meth := k1m1) (c := k1c1) (by decide +kernel) rfl rfl rfl (by decide +kernel)
set_option maxRecDepth 65536 in
theorem w_c1 : (Jvm.Cond.code ({ cls := "com/example/test_collection_measures/testcollectionmeasures/Qrels", name := "countAtLeast", desc := "([IJ)I" } : Jvm.MethodName) prog_29_method_11_code (6 : Nat) (Option.some Jvm.ClassFile.FieldType.int)).before args0 about1 = true := code_word (m := ⟨2, 0⟩) (meth := k2m0) (c := k2c0) (by decide +kernel) rfl rfl rfl (by decide +kernel)
def codes1 : List Jvm.Cond := [Jvm.Cond.code x code maxLocals ret, Jvm.Cond.code ({ cls := "com/example/test_collection_measures/testcollectionmeasures/Qrels", name := "countAtLeast", desc := "([IJ)I" } : Jvm.MethodName) prog_29_method_11_code (6 : Nat) (Option.some Jvm.ClassFile.FieldType.int)]
set_option maxRecDepth 65536 in
theorem codes_eq : words1.filter isCode = codes1 := rfl
theorem w_codes : ∀ c ∈ words1.filter isCode, c.before args0 about1 = true := by
  rw [codes_eq]
  intro c hc
  simp only [codes1, List.mem_cons, List.not_mem_nil, or_false] at hc
  rcases hc with rfl | rfl
  · exact w_c0
  · exact w_c1
set_option maxRecDepth 65536 in
theorem w_t1 : words1.all (fun c => isCode c || c.before args0 about1) = true := by decide +kernel
theorem w_tables : (allAtoms (Jvm.Cond.code x code maxLocals ret :: tables_1)).before args0 about1 = true := by
  rw [allAtoms_all]
  show words1.all (fun c => c.before args0 about1) = true
  refine all_split ?_ w_codes
  rw [w_t1]
set_option maxRecDepth 65536 in
theorem w_case : (Jvm.Cond.and given_1 narrow_1).before args0 about1 = true := by decide +kernel
theorem w_applies : (headSpec (Jvm.Cond.code x code maxLocals ret :: tables_1) room_1).applies x e0.platform about1 = true :=
  (Spec.applies_iff w_frames).mpr ⟨w_running, w_runnable, w_alone, w_named, w_hears, w_ripe, w_room, w_tables⟩
theorem atStart : AtStart classFile x code maxLocals ret World_1 tables_1 room_1 Calls_1 rest_1 Pre_1 launch0 p0 e0 about1 theMethod args0 below0 :=
  ⟨lists_1, trivial, launch0.admits_env _ _ _, launch0.least_env, fairChoices_fair.cas, fairChoices_fair.clock, w_frames, w_args, w_heap, w_applies, trivial, trivial, w_case⟩
end start1
theorem witness_1 : WitnessClaimed_1 := ⟨start1.p0, start1.e0, start1.about1, start1.theMethod, start1.args0, start1.below0, start1.atStart⟩
end Jvm.Pilot.@@N@@
