import JvmDerived
import JvmDerived.Pilot.@@N@@Statement
import JvmDerived.Pilot.@@N@@Code
set_option linter.unusedVariables false
set_option linter.unusedSimpArgs false

namespace Jvm.Pilot.@@N@@
open Jvm Jvm.ClassFile Sem Op Lib Jvm.Free Jvm.Stand Jvm.LawKit Jvm.RoadKit Bundle Jvm.Pilot.@@N@@.Jvm.D
/-! ## own kit: a walk forwards, in small words -/
abbrev owK : Type := Program × Env × State × MethodId × Array Value × List Frame × Method × Code
abbrev owp (k : owK) : Program := k.1
abbrev owe (k : owK) : Env := k.2.1
abbrev ows (k : owK) : State := k.2.2.1
abbrev owm (k : owK) : MethodId := k.2.2.2.1
abbrev owa (k : owK) : Array Value := k.2.2.2.2.1
abbrev owb (k : owK) : List Frame := k.2.2.2.2.2.1
abbrev owM (k : owK) : Method := k.2.2.2.2.2.2.1
abbrev owc (k : owK) : Code := k.2.2.2.2.2.2.2
/-- what stands fast through a body -/
def owC (Z : State) (y : MethodName) (B : ByteArray) (ml : Nat) (rt : Option FieldType) (k : owK) : Prop :=
  (owp k).tables.exec = Jvm.exec ∧ Z.Warmed39 (ows k).vm ∧ (ows k).vm.findClass y.cls = some (owm k).cls ∧ (owc k).code = B ∧ (owc k).maxLocals = ml ∧ (owM k).name = y.name ∧ (owM k).sig.returnType = rt ∧ (owM k).locks = false
/-- where the walk stands: the state T with the heap h; cc cells and ss slots made so far; all writes at or above n0 -/
def Sd (l : Launch) (Z : State) (n0 : Nat) (y : MethodName) (B : ByteArray) (ml : Nat) (rt : Option FieldType) (R : Room) (k : owK) (T : State) (h : Heap) (cc ss : Nat) : Prop :=
  (∃ locs, Stand (owp k) l (owe k) R (ows k) (owm k) (owa k) (owb k) (owM k) (owc k) T locs cc ss ∧ Fr n0 locs) ∧ T.heap = h ∧ owC Z y B ml rt k
/-- from here the walk ends, as Q says -/
def Go (k : owK) (n0 : Nat) (Q : Option Value → Heap → Prop) (kc ks : Nat) (T : State) (pc : Nat) (Ls : Array Slot) (st : List Value) : Prop :=
  ∃ s₂ o, Steps (owp k).tables (owe k) (owb k) (T.setTop (mkF (owm k) pc Ls st)) s₂ ∧ s₂.status = .running ∧ Ended s₂ (owb k) o ∧ ∃ v L, o = .returned v ∧ (Fr n0 L ∧ Q v s₂.heap) ∧ FrameEnd (ows k) o s₂ L kc ks
/-- the contract of a body -/
def Met (l : Launch) (Z : State) (n0 : Nat) (y : MethodName) (B : ByteArray) (ml : Nat) (rt : Option FieldType) (ws : List Jvm.Cond) (R : Room) (as : Array Value) (h0 : Heap) (Q : Option Value → Heap → Prop) (kc ks : Nat) : Prop :=
  MetFree l y (head1 (Jvm.Cond.code y B ml rt :: ws) R) (fun a U => a = as ∧ Z.Warmed39 U.vm ∧ U.heap = h0) (fun _ _ _ _ _ => True) (fun _ U o U' => ∃ v L, o = .returned v ∧ (Fr n0 L ∧ Q v U'.heap) ∧ FrameEnd U o U' L kc ks)
section Ow
variable {l : Launch} {Z : State} {n0 : Nat} {y : MethodName} {B : ByteArray} {ml : Nat} {rt : Option FieldType} {R : Room} {k : owK} {T : State} {h : Heap} {cc ss : Nat} {Q : Option Value → Heap → Prop} {kc ks : Nat} {pc : Nat} {Ls : Array Slot} {st : List Value} {a0 : Array Value}
theorem Met.of {ws : List Jvm.Cond} {as : Array Value} {h0 : Heap} {Ls : Array Slot} (hp : Jvm.plainFor y = true) (hef : Jvm.Sym.laidSlots as.toList ++ List.replicate (ml - (Jvm.Sym.laidSlots as.toList).length) .unset = Ls.toList) (body : ∀ k T, Sd l Z n0 y B ml rt R k T h0 0 0 → Go k n0 Q kc ks T 0 Ls []) : Met l Z n0 y B ml rt ws R as h0 Q kc ks := by
  refine MetFree.of_bodySF hp hisR ?_
  intro p e s m args below meth c s₁ Bd hml hP hK
  obtain ⟨rfl, hZ, hh⟩ := hP
  have hown : s.vm.findClass y.cls = some m.cls := findClass_of_methodNamed Bd.named
  have hnm := (name_of_methodNamed Bd.named Bd.method).1
  have X0 : Stand p l e R s m args below meth c s₁ [] 0 0 := Stand.of_body Bd
  have e0 : s₁.heap = h0 := by rw [← hh, Bd.state]; rfl
  obtain ⟨s2, o, h1, h2, h3, h4⟩ := body (p, e, s, m, args, below, meth, c) s₁ ⟨⟨[], X0, Fr.nil n0⟩, e0, Bd.exec, hZ, hown, Bd.bytes, hml, hnm, Bd.returns, Bd.notSynchronized⟩
  exact ⟨s2, o, (XT.entry hef).trans h1, h2, h3, h4⟩
theorem Go.of {T T' : State} {pc' : Nat} {Ls' : Array Slot} {st' : List Value} (K : Go k n0 Q kc ks T' pc' Ls' st') (f : ∀ t, Steps (owp k).tables (owe k) (owb k) (T'.setTop (mkF (owm k) pc' Ls' st')) t → Steps (owp k).tables (owe k) (owb k) (T.setTop (mkF (owm k) pc Ls st)) t) : Go k n0 Q kc ks T pc Ls st := by
  obtain ⟨s2, o, h1, h2⟩ := K; exact ⟨s2, o, f _ h1, h2⟩
theorem Go.end {v : Option Value} (X : Sd l Z n0 y B ml rt R k T h cc ss) (hk : cc ≤ kc) (hs : ss ≤ ks) (hv : rt = none → v = none) (f : ∀ fs, (∀ (f : JFrame) (acts : List Action), f.method = owm k → f.locked = none → f.entered = [] → (doReturn (owe k) (T.setTop f) acts v).1 = T.setFrames fs) → Steps (owp k).tables (owe k) (owb k) (T.setTop (mkF (owm k) pc Ls st)) (T.setFrames fs)) (hQ : Q v h) : Go k n0 Q kc ks T pc Ls st := by
  obtain ⟨⟨locs, X, N⟩, rfl, hx, hZ, hown, hby, hml, hnm, hrt, hlk⟩ := X
  obtain ⟨fs, hr, hrun, hended, hW, hsame⟩ := X.leave (v := v) (fun q => hv (by rw [← hrt]; exact q)) hlk
  exact ⟨_, _, f fs hr, hrun, hended, _, _, rfl, ⟨N, hQ⟩, ⟨_, rfl⟩, hW, hsame.mono hk hs⟩
theorem Sd.hh (X : Sd l Z n0 y B ml rt R k T h cc ss) : At T (owm k) (owc k) (owb k) := by obtain ⟨⟨_, X, _⟩, _⟩ := X; exact X.here
theorem Sd.x (X : Sd l Z n0 y B ml rt R k T h cc ss) : (owp k).tables.exec = Jvm.exec := X.2.2.1
theorem Sd.d (X : Sd l Z n0 y B ml rt R k T h cc ss) {pc : Nat} {r : Except ClassFile.DecodeError (ClassFile.Instr × Nat)} (hd : decode B pc = r) : decode (owc k).code pc = r := hb X.2.2.2.2.2.1 hd
theorem Sd.heap (X : Sd l Z n0 y B ml rt R k T h cc ss) : T.heap = h := X.2.1
/-! loads, stores, constants -/
theorem g_aloadN (X : Sd l Z n0 y B ml rt R k T h cc ss) {i : Fin 4} {v : Value} (hd : decode B pc = .ok (.aload_n i, 1)) (hl : Ls[i.val]? = some (.val v)) (hv : v.isRef = true) (pc' : Nat) (hp : pc + 1 = pc') (K : Go k n0 Q kc ks T pc' Ls (v :: st)) : Go k n0 Q kc ks T pc Ls st := by subst hp; exact K.of fun _ q => XS.aloadN X.hh X.x rfl (X.d hd) hl hv q
theorem g_aload (X : Sd l Z n0 y B ml rt R k T h cc ss) {i : Nat} {v : Value} (hd : decode B pc = .ok (.aload i, 2)) (hl : Ls[i]? = some (.val v)) (hv : v.isRef = true) (pc' : Nat) (hp : pc + 2 = pc') (K : Go k n0 Q kc ks T pc' Ls (v :: st)) : Go k n0 Q kc ks T pc Ls st := by subst hp; exact K.of fun _ q => XS.aload X.hh X.x rfl (X.d hd) hl hv q
theorem g_iloadN (X : Sd l Z n0 y B ml rt R k T h cc ss) {i : Fin 4} {v : Int32} (hd : decode B pc = .ok (.iload_n i, 1)) (hl : Ls[i.val]? = some (.val (.int v))) (pc' : Nat) (hp : pc + 1 = pc') (K : Go k n0 Q kc ks T pc' Ls (.int v :: st)) : Go k n0 Q kc ks T pc Ls st := by subst hp; exact K.of fun _ q => XS.iloadN X.hh X.x rfl (X.d hd) hl q
theorem g_iload (X : Sd l Z n0 y B ml rt R k T h cc ss) {i : Nat} {v : Int32} (hd : decode B pc = .ok (.iload i, 2)) (hl : Ls[i]? = some (.val (.int v))) (pc' : Nat) (hp : pc + 2 = pc') (K : Go k n0 Q kc ks T pc' Ls (.int v :: st)) : Go k n0 Q kc ks T pc Ls st := by subst hp; exact K.of fun _ q => XS.iload X.hh X.x rfl (X.d hd) hl q
theorem g_lloadN (X : Sd l Z n0 y B ml rt R k T h cc ss) {i : Fin 4} {v : Int64} (hd : decode B pc = .ok (.lload_n i, 1)) (hl : Ls[i.val]? = some (.val (.long v))) (pc' : Nat) (hp : pc + 1 = pc') (K : Go k n0 Q kc ks T pc' Ls (.long v :: st)) : Go k n0 Q kc ks T pc Ls st := by subst hp; exact K.of fun _ q => XT.lloadN X.hh X.x rfl (X.d hd) hl q
theorem g_lload (X : Sd l Z n0 y B ml rt R k T h cc ss) {i : Nat} {v : Int64} (hd : decode B pc = .ok (.lload i, 2)) (hl : Ls[i]? = some (.val (.long v))) (pc' : Nat) (hp : pc + 2 = pc') (K : Go k n0 Q kc ks T pc' Ls (.long v :: st)) : Go k n0 Q kc ks T pc Ls st := by subst hp; exact K.of fun _ q => XT.lload X.hh X.x rfl (X.d hd) hl q
theorem g_istoreN (X : Sd l Z n0 y B ml rt R k T h cc ss) {i : Fin 4} {v : Int32} (hd : decode B pc = .ok (.istore_n i, 1)) (L' : Array Slot) (hl : storeLocals Ls i.val (.int v) = some L') (pc' : Nat) (hp : pc + 1 = pc') (K : Go k n0 Q kc ks T pc' L' st) : Go k n0 Q kc ks T pc Ls (.int v :: st) := by subst hp; exact K.of fun _ q => XS.istoreN X.hh X.x rfl (X.d hd) rfl hl q
theorem g_istore (X : Sd l Z n0 y B ml rt R k T h cc ss) {i : Nat} {v : Int32} (hd : decode B pc = .ok (.istore i, 2)) (L' : Array Slot) (hl : storeLocals Ls i (.int v) = some L') (pc' : Nat) (hp : pc + 2 = pc') (K : Go k n0 Q kc ks T pc' L' st) : Go k n0 Q kc ks T pc Ls (.int v :: st) := by subst hp; exact K.of fun _ q => XS.istore X.hh X.x rfl (X.d hd) rfl hl q
theorem g_lstoreN (X : Sd l Z n0 y B ml rt R k T h cc ss) {i : Fin 4} {v : Int64} (hd : decode B pc = .ok (.lstore_n i, 1)) (L' : Array Slot) (hl : storeLocals Ls i.val (.long v) = some L') (pc' : Nat) (hp : pc + 1 = pc') (K : Go k n0 Q kc ks T pc' L' st) : Go k n0 Q kc ks T pc Ls (.long v :: st) := by subst hp; exact K.of fun _ q => XT.lstoreN X.hh X.x rfl (X.d hd) rfl hl q
theorem g_lstore (X : Sd l Z n0 y B ml rt R k T h cc ss) {i : Nat} {v : Int64} (hd : decode B pc = .ok (.lstore i, 2)) (L' : Array Slot) (hl : storeLocals Ls i (.long v) = some L') (pc' : Nat) (hp : pc + 2 = pc') (K : Go k n0 Q kc ks T pc' L' st) : Go k n0 Q kc ks T pc Ls (.long v :: st) := by subst hp; exact K.of fun _ q => XT.lstore X.hh X.x rfl (X.d hd) rfl hl q
theorem g_astoreN (X : Sd l Z n0 y B ml rt R k T h cc ss) {i : Fin 4} {v : Value} (hd : decode B pc = .ok (.astore_n i, 1)) (hv : v.isRef = true) (L' : Array Slot) (hl : storeLocals Ls i.val v = some L') (pc' : Nat) (hp : pc + 1 = pc') (K : Go k n0 Q kc ks T pc' L' st) : Go k n0 Q kc ks T pc Ls (v :: st) := by subst hp; exact K.of fun _ q => XS.astoreN X.hh X.x rfl (X.d hd) rfl hv hl q
theorem g_astore (X : Sd l Z n0 y B ml rt R k T h cc ss) {i : Nat} {v : Value} (hd : decode B pc = .ok (.astore i, 2)) (hv : v.isRef = true) (L' : Array Slot) (hl : storeLocals Ls i v = some L') (pc' : Nat) (hp : pc + 2 = pc') (K : Go k n0 Q kc ks T pc' L' st) : Go k n0 Q kc ks T pc Ls (v :: st) := by subst hp; exact K.of fun _ q => XS.astore X.hh X.x rfl (X.d hd) rfl hv hl q
theorem g_iconst (X : Sd l Z n0 y B ml rt R k T h cc ss) {i : Int} (v : Int32) (hd : decode B pc = .ok (.iconst i, 1)) (hv : Int32.ofInt i = v) (pc' : Nat) (hp : pc + 1 = pc') (K : Go k n0 Q kc ks T pc' Ls (.int v :: st)) : Go k n0 Q kc ks T pc Ls st := by subst hp; exact K.of fun _ q => XT.iconstV X.hh X.x rfl v (X.d hd) hv q
theorem g_bipush (X : Sd l Z n0 y B ml rt R k T h cc ss) {i : Int} (v : Int32) (hd : decode B pc = .ok (.bipush i, 2)) (hv : (Int8.ofInt i).toInt32 = v) (pc' : Nat) (hp : pc + 2 = pc') (K : Go k n0 Q kc ks T pc' Ls (.int v :: st)) : Go k n0 Q kc ks T pc Ls st := by subst hp; exact K.of fun _ q => XT.bipushV X.hh X.x rfl v (X.d hd) hv q
theorem g_sipush (X : Sd l Z n0 y B ml rt R k T h cc ss) {i : Int} (v : Int32) (hd : decode B pc = .ok (.sipush i, 3)) (hv : (Int16.ofInt i).toInt32 = v) (pc' : Nat) (hp : pc + 3 = pc') (K : Go k n0 Q kc ks T pc' Ls (.int v :: st)) : Go k n0 Q kc ks T pc Ls st := by subst hp; exact K.of fun _ q => XT.sipushV X.hh X.x rfl v (X.d hd) hv q
theorem g_lconst (X : Sd l Z n0 y B ml rt R k T h cc ss) {i : Fin 2} (v : Int64) (hd : decode B pc = .ok (.lconst i, 1)) (hv : Int64.ofNat i = v) (pc' : Nat) (hp : pc + 1 = pc') (K : Go k n0 Q kc ks T pc' Ls (.long v :: st)) : Go k n0 Q kc ks T pc Ls st := by subst hp; exact K.of fun _ q => XT.lconstV X.hh X.x rfl v (X.d hd) hv q
theorem g_null (X : Sd l Z n0 y B ml rt R k T h cc ss) (hd : decode B pc = .ok (.aconst_null, 1)) (pc' : Nat) (hp : pc + 1 = pc') (K : Go k n0 Q kc ks T pc' Ls (.null :: st)) : Go k n0 Q kc ks T pc Ls st := by subst hp; exact K.of fun _ q => XS.aconstNull X.hh X.x rfl (X.d hd) q
theorem g_iinc (X : Sd l Z n0 y B ml rt R k T h cc ss) {i : Nat} {cst : Int} {x : Int32} (v : Int32) (hd : decode B pc = .ok (.iinc i cst, 3)) (hv : Int32.ofInt cst = v) (hl : Ls[i]? = some (.val (.int x))) (L' : Array Slot) (hl' : storeLocals Ls i (.int (x + v)) = some L') (pc' : Nat) (hp : pc + 3 = pc') (K : Go k n0 Q kc ks T pc' L' st) : Go k n0 Q kc ks T pc Ls st := by subst hp; exact K.of fun _ q => XT.iincV X.hh X.x rfl v (X.d hd) hv hl hl' q
/-! arithmetic -/
theorem g_iadd (X : Sd l Z n0 y B ml rt R k T h cc ss) {a b : Int32} (hd : decode B pc = .ok (.iadd, 1)) (pc' : Nat) (hp : pc + 1 = pc') (K : Go k n0 Q kc ks T pc' Ls (.int (a + b) :: st)) : Go k n0 Q kc ks T pc Ls (.int b :: .int a :: st) := by subst hp; exact K.of fun _ q => XS.iadd X.hh X.x rfl (X.d hd) rfl q
theorem g_isub (X : Sd l Z n0 y B ml rt R k T h cc ss) {a b : Int32} (hd : decode B pc = .ok (.isub, 1)) (pc' : Nat) (hp : pc + 1 = pc') (K : Go k n0 Q kc ks T pc' Ls (.int (a - b) :: st)) : Go k n0 Q kc ks T pc Ls (.int b :: .int a :: st) := by subst hp; exact K.of fun _ q => XS.isub X.hh X.x rfl (X.d hd) rfl q
theorem g_imul (X : Sd l Z n0 y B ml rt R k T h cc ss) {a b : Int32} (hd : decode B pc = .ok (.imul, 1)) (pc' : Nat) (hp : pc + 1 = pc') (K : Go k n0 Q kc ks T pc' Ls (.int (a * b) :: st)) : Go k n0 Q kc ks T pc Ls (.int b :: .int a :: st) := by subst hp; exact K.of fun _ q => XS.imul X.hh X.x rfl (X.d hd) rfl q
theorem g_idiv (X : Sd l Z n0 y B ml rt R k T h cc ss) {a b : Int32} (hd : decode B pc = .ok (.idiv, 1)) (hb : b ≠ 0) (pc' : Nat) (hp : pc + 1 = pc') (K : Go k n0 Q kc ks T pc' Ls (.int (a / b) :: st)) : Go k n0 Q kc ks T pc Ls (.int b :: .int a :: st) := by subst hp; exact K.of fun _ q => XS.idiv X.hh X.x rfl (X.d hd) rfl hb q
theorem g_irem (X : Sd l Z n0 y B ml rt R k T h cc ss) {a b : Int32} (hd : decode B pc = .ok (.irem, 1)) (hb : b ≠ 0) (pc' : Nat) (hp : pc + 1 = pc') (K : Go k n0 Q kc ks T pc' Ls (.int (a % b) :: st)) : Go k n0 Q kc ks T pc Ls (.int b :: .int a :: st) := by
  subst hp; obtain ⟨⟨locs, Y, N⟩, eh, hc⟩ := X
  exact K.of fun _ q => iremM Y hc.1 (g := mkF (owm k) pc Ls (.int b :: .int a :: st)) rfl (Jvm.hb hc.2.2.2.1 hd) rfl hb q
theorem g_iand (X : Sd l Z n0 y B ml rt R k T h cc ss) {a b : Int32} (hd : decode B pc = .ok (.iand, 1)) (pc' : Nat) (hp : pc + 1 = pc') (K : Go k n0 Q kc ks T pc' Ls (.int (a &&& b) :: st)) : Go k n0 Q kc ks T pc Ls (.int b :: .int a :: st) := by subst hp; exact K.of fun _ q => XS.iand X.hh X.x rfl (X.d hd) rfl q
theorem g_ior (X : Sd l Z n0 y B ml rt R k T h cc ss) {a b : Int32} (hd : decode B pc = .ok (.ior, 1)) (pc' : Nat) (hp : pc + 1 = pc') (K : Go k n0 Q kc ks T pc' Ls (.int (a ||| b) :: st)) : Go k n0 Q kc ks T pc Ls (.int b :: .int a :: st) := by subst hp; exact K.of fun _ q => XS.ior X.hh X.x rfl (X.d hd) rfl q
theorem g_ixor (X : Sd l Z n0 y B ml rt R k T h cc ss) {a b : Int32} (hd : decode B pc = .ok (.ixor, 1)) (pc' : Nat) (hp : pc + 1 = pc') (K : Go k n0 Q kc ks T pc' Ls (.int (a ^^^ b) :: st)) : Go k n0 Q kc ks T pc Ls (.int b :: .int a :: st) := by subst hp; exact K.of fun _ q => XS.ixor X.hh X.x rfl (X.d hd) rfl q
theorem g_ishl (X : Sd l Z n0 y B ml rt R k T h cc ss) {a b : Int32} (hd : decode B pc = .ok (.ishl, 1)) (pc' : Nat) (hp : pc + 1 = pc') (K : Go k n0 Q kc ks T pc' Ls (.int (a <<< (b &&& 31)) :: st)) : Go k n0 Q kc ks T pc Ls (.int b :: .int a :: st) := by subst hp; exact K.of fun _ q => XS.ishl X.hh X.x rfl (X.d hd) rfl q
theorem g_ishr (X : Sd l Z n0 y B ml rt R k T h cc ss) {a b : Int32} (hd : decode B pc = .ok (.ishr, 1)) (pc' : Nat) (hp : pc + 1 = pc') (K : Go k n0 Q kc ks T pc' Ls (.int (a >>> (b &&& 31)) :: st)) : Go k n0 Q kc ks T pc Ls (.int b :: .int a :: st) := by subst hp; exact K.of fun _ q => XS.ishr X.hh X.x rfl (X.d hd) rfl q
theorem g_iushr (X : Sd l Z n0 y B ml rt R k T h cc ss) {a b : Int32} (hd : decode B pc = .ok (.iushr, 1)) (pc' : Nat) (hp : pc + 1 = pc') (K : Go k n0 Q kc ks T pc' Ls (.int ((a.toUInt32 >>> (b &&& 31).toUInt32).toInt32) :: st)) : Go k n0 Q kc ks T pc Ls (.int b :: .int a :: st) := by subst hp; exact K.of fun _ q => XS.iushr X.hh X.x rfl (X.d hd) rfl q
theorem g_ineg (X : Sd l Z n0 y B ml rt R k T h cc ss) {a : Int32} (hd : decode B pc = .ok (.ineg, 1)) (pc' : Nat) (hp : pc + 1 = pc') (K : Go k n0 Q kc ks T pc' Ls (.int (-a) :: st)) : Go k n0 Q kc ks T pc Ls (.int a :: st) := by subst hp; exact K.of fun _ q => XS.ineg X.hh X.x rfl (X.d hd) rfl q
theorem g_ladd (X : Sd l Z n0 y B ml rt R k T h cc ss) {a b : Int64} (hd : decode B pc = .ok (.ladd, 1)) (pc' : Nat) (hp : pc + 1 = pc') (K : Go k n0 Q kc ks T pc' Ls (.long (a + b) :: st)) : Go k n0 Q kc ks T pc Ls (.long b :: .long a :: st) := by subst hp; exact K.of fun _ q => XS.ladd X.hh X.x rfl (X.d hd) rfl q
theorem g_lsub (X : Sd l Z n0 y B ml rt R k T h cc ss) {a b : Int64} (hd : decode B pc = .ok (.lsub, 1)) (pc' : Nat) (hp : pc + 1 = pc') (K : Go k n0 Q kc ks T pc' Ls (.long (a - b) :: st)) : Go k n0 Q kc ks T pc Ls (.long b :: .long a :: st) := by subst hp; exact K.of fun _ q => XS.lsub X.hh X.x rfl (X.d hd) rfl q
theorem g_land (X : Sd l Z n0 y B ml rt R k T h cc ss) {a b : Int64} (hd : decode B pc = .ok (.land, 1)) (pc' : Nat) (hp : pc + 1 = pc') (K : Go k n0 Q kc ks T pc' Ls (.long (a &&& b) :: st)) : Go k n0 Q kc ks T pc Ls (.long b :: .long a :: st) := by subst hp; exact K.of fun _ q => XS.land X.hh X.x rfl (X.d hd) rfl q
theorem g_lushr (X : Sd l Z n0 y B ml rt R k T h cc ss) {a : Int64} {b : Int32} (hd : decode B pc = .ok (.lushr, 1)) (pc' : Nat) (hp : pc + 1 = pc') (K : Go k n0 Q kc ks T pc' Ls (.long ((a.toUInt64 >>> (b &&& 0x3f).toInt64.toUInt64).toInt64) :: st)) : Go k n0 Q kc ks T pc Ls (.int b :: .long a :: st) := by subst hp; exact K.of fun _ q => XS.lushr X.hh X.x rfl (X.d hd) rfl q
theorem g_i2l (X : Sd l Z n0 y B ml rt R k T h cc ss) {a : Int32} (hd : decode B pc = .ok (.i2l, 1)) (pc' : Nat) (hp : pc + 1 = pc') (K : Go k n0 Q kc ks T pc' Ls (.long a.toInt64 :: st)) : Go k n0 Q kc ks T pc Ls (.int a :: st) := by subst hp; exact K.of fun _ q => XS.i2l X.hh X.x rfl (X.d hd) rfl q
theorem g_l2i (X : Sd l Z n0 y B ml rt R k T h cc ss) {a : Int64} (hd : decode B pc = .ok (.l2i, 1)) (pc' : Nat) (hp : pc + 1 = pc') (K : Go k n0 Q kc ks T pc' Ls (.int a.toInt32 :: st)) : Go k n0 Q kc ks T pc Ls (.long a :: st) := by subst hp; exact K.of fun _ q => XS.l2i X.hh X.x rfl (X.d hd) rfl q
theorem g_i2b (X : Sd l Z n0 y B ml rt R k T h cc ss) {a : Int32} (hd : decode B pc = .ok (.i2b, 1)) (pc' : Nat) (hp : pc + 1 = pc') (K : Go k n0 Q kc ks T pc' Ls (.int a.toInt8.toInt32 :: st)) : Go k n0 Q kc ks T pc Ls (.int a :: st) := by subst hp; exact K.of fun _ q => XS.i2b X.hh X.x rfl (X.d hd) rfl q
theorem g_i2c (X : Sd l Z n0 y B ml rt R k T h cc ss) {a : Int32} (hd : decode B pc = .ok (.i2c, 1)) (pc' : Nat) (hp : pc + 1 = pc') (K : Go k n0 Q kc ks T pc' Ls (.int a.toUInt32.toUInt16.toUInt32.toInt32 :: st)) : Go k n0 Q kc ks T pc Ls (.int a :: st) := by subst hp; exact K.of fun _ q => XS.i2c X.hh X.x rfl (X.d hd) rfl q
theorem g_lcmp (X : Sd l Z n0 y B ml rt R k T h cc ss) {a b : Int64} (hd : decode B pc = .ok (.lcmp, 1)) (pc' : Nat) (hp : pc + 1 = pc') (K : Go k n0 Q kc ks T pc' Ls (.int (XT.cmpL a b) :: st)) : Go k n0 Q kc ks T pc Ls (.long b :: .long a :: st) := by subst hp; exact K.of fun _ q => XT.lcmp X.hh X.x rfl (X.d hd) rfl q
/-! the stack -/
theorem g_dup (X : Sd l Z n0 y B ml rt R k T h cc ss) {v : Value} (hd : decode B pc = .ok (.dup, 1)) (hc : v.category = 1) (pc' : Nat) (hp : pc + 1 = pc') (K : Go k n0 Q kc ks T pc' Ls (v :: v :: st)) : Go k n0 Q kc ks T pc Ls (v :: st) := by subst hp; exact K.of fun _ q => XS.dup X.hh X.x rfl (X.d hd) rfl hc q
theorem g_pop (X : Sd l Z n0 y B ml rt R k T h cc ss) {v : Value} (hd : decode B pc = .ok (.pop, 1)) (hc : v.category = 1) (pc' : Nat) (hp : pc + 1 = pc') (K : Go k n0 Q kc ks T pc' Ls st) : Go k n0 Q kc ks T pc Ls (v :: st) := by subst hp; exact K.of fun _ q => XS.pop X.hh X.x rfl (X.d hd) rfl hc q
theorem g_dupX1 (X : Sd l Z n0 y B ml rt R k T h cc ss) {v w : Value} (hd : decode B pc = .ok (.dup_x1, 1)) (hc : v.category = 1) (hc2 : w.category = 1) (pc' : Nat) (hp : pc + 1 = pc') (K : Go k n0 Q kc ks T pc' Ls (v :: w :: v :: st)) : Go k n0 Q kc ks T pc Ls (v :: w :: st) := by subst hp; exact K.of fun _ q => XS.dupX1 X.hh X.x rfl (X.d hd) rfl hc hc2 q
theorem g_dup2 (X : Sd l Z n0 y B ml rt R k T h cc ss) {v w : Value} (hd : decode B pc = .ok (.dup2, 1)) (hc : v.category = 1) (hc2 : w.category = 1) (pc' : Nat) (hp : pc + 1 = pc') (K : Go k n0 Q kc ks T pc' Ls (v :: w :: v :: w :: st)) : Go k n0 Q kc ks T pc Ls (v :: w :: st) := by subst hp; exact K.of fun _ q => XT.dup2 X.hh X.x rfl (X.d hd) rfl hc hc2 q
/-! jumps -/
theorem g_goto (X : Sd l Z n0 y B ml rt R k T h cc ss) {o : Int} (hd : decode B pc = .ok (.goto o, 3)) (pc' : Nat) (ho : 0 ≤ (pc : Int) + o) (hp : ((pc : Int) + o).toNat = pc') (K : Go k n0 Q kc ks T pc' Ls st) : Go k n0 Q kc ks T pc Ls st := K.of fun _ q => XS.goto X.hh X.x rfl rfl (X.d hd) ho hp q
theorem g_if (X : Sd l Z n0 y B ml rt R k T h cc ss) {cd : ClassFile.Cond} {a : Int32} {o : Int} {C : Prop} (hc : ifCond.holds cd a = true ↔ C) (hd : decode B pc = .ok (.ifCond cd o, 3)) (pT : Nat) (ho : 0 ≤ (pc : Int) + o) (hT : ((pc : Int) + o).toNat = pT) (pF : Nat) (hF : pc + 3 = pF) (K1 : C → Go k n0 Q kc ks T pT Ls st) (K2 : ¬ C → Go k n0 Q kc ks T pF Ls st) : Go k n0 Q kc ks T pc Ls (.int a :: st) := by
  subst hF
  cases q : ifCond.holds cd a with
  | true => exact (K1 (hc.mp q)).of fun _ z => XS.ifYes X.hh X.x rfl rfl (X.d hd) rfl q ho hT z
  | false => exact (K2 (fun z => by rw [hc.mpr z] at q; cases q)).of fun _ z => XS.ifNo X.hh X.x rfl (X.d hd) rfl q z
theorem g_icmp (X : Sd l Z n0 y B ml rt R k T h cc ss) {cd : ClassFile.Cond} {a b : Int32} {o : Int} {C : Prop} (hc : if_icmp.holds cd a b = true ↔ C) (hd : decode B pc = .ok (.if_icmp cd o, 3)) (pT : Nat) (ho : 0 ≤ (pc : Int) + o) (hT : ((pc : Int) + o).toNat = pT) (pF : Nat) (hF : pc + 3 = pF) (K1 : C → Go k n0 Q kc ks T pT Ls st) (K2 : ¬ C → Go k n0 Q kc ks T pF Ls st) : Go k n0 Q kc ks T pc Ls (.int b :: .int a :: st) := by
  subst hF
  cases q : if_icmp.holds cd a b with
  | true => exact (K1 (hc.mp q)).of fun _ z => XS.icmpYes X.hh X.x rfl rfl (X.d hd) rfl q ho hT z
  | false => exact (K2 (fun z => by rw [hc.mpr z] at q; cases q)).of fun _ z => XS.icmpNo X.hh X.x rfl (X.d hd) rfl q z
/-- the same, told the other way round: the jump is taken where C fails -/
theorem g_ifN (X : Sd l Z n0 y B ml rt R k T h cc ss) {cd : ClassFile.Cond} {a : Int32} {o : Int} {C : Prop} (hc : ifCond.holds cd a = true ↔ ¬ C) (hd : decode B pc = .ok (.ifCond cd o, 3)) (pT : Nat) (ho : 0 ≤ (pc : Int) + o) (hT : ((pc : Int) + o).toNat = pT) (pF : Nat) (hF : pc + 3 = pF) (K1 : C → Go k n0 Q kc ks T pF Ls st) (K2 : ¬ C → Go k n0 Q kc ks T pT Ls st) : Go k n0 Q kc ks T pc Ls (.int a :: st) :=
  g_if X hc hd pT ho hT pF hF K2 fun q => K1 (Classical.not_not.mp q)
theorem g_icmpN (X : Sd l Z n0 y B ml rt R k T h cc ss) {cd : ClassFile.Cond} {a b : Int32} {o : Int} {C : Prop} (hc : if_icmp.holds cd a b = true ↔ ¬ C) (hd : decode B pc = .ok (.if_icmp cd o, 3)) (pT : Nat) (ho : 0 ≤ (pc : Int) + o) (hT : ((pc : Int) + o).toNat = pT) (pF : Nat) (hF : pc + 3 = pF) (K1 : C → Go k n0 Q kc ks T pF Ls st) (K2 : ¬ C → Go k n0 Q kc ks T pT Ls st) : Go k n0 Q kc ks T pc Ls (.int b :: .int a :: st) :=
  g_icmp X hc hd pT ho hT pF hF K2 fun q => K1 (Classical.not_not.mp q)
theorem z_eq {a : Int32} : ifCond.holds .eq a = true ↔ a = 0 := by simp [ifCond.holds]
theorem z_ne {a : Int32} : ifCond.holds .ne a = true ↔ ¬ a = 0 := by simp [ifCond.holds]
theorem z_lt {a : Int32} : ifCond.holds .lt a = true ↔ a < 0 := by simp [ifCond.holds]
theorem z_ge {a : Int32} : ifCond.holds .ge a = true ↔ ¬ a < 0 := by simp [ifCond.holds, Int32.not_lt]
theorem z_gt {a : Int32} : ifCond.holds .gt a = true ↔ 0 < a := by simp [ifCond.holds]
theorem z_le {a : Int32} : ifCond.holds .le a = true ↔ ¬ 0 < a := by simp [ifCond.holds, Int32.not_lt]
theorem i_eq {a b : Int32} : if_icmp.holds .eq a b = true ↔ a = b := by simp [if_icmp.holds]
theorem i_ne {a b : Int32} : if_icmp.holds .ne a b = true ↔ ¬ a = b := by simp [if_icmp.holds]
theorem i_lt {a b : Int32} : if_icmp.holds .lt a b = true ↔ a < b := by simp [if_icmp.holds]
theorem i_ge {a b : Int32} : if_icmp.holds .ge a b = true ↔ ¬ a < b := by simp [if_icmp.holds, Int32.not_lt]
theorem i_gt {a b : Int32} : if_icmp.holds .gt a b = true ↔ b < a := by simp [if_icmp.holds]
theorem i_le {a b : Int32} : if_icmp.holds .le a b = true ↔ ¬ b < a := by simp [if_icmp.holds, Int32.not_lt]
theorem l_of {b : Bool} {C : Prop} (h1 : C → b = true) (h2 : ¬ C → b = false) : b = true ↔ C := ⟨fun q => Classical.byContradiction fun z => Bool.noConfusion ((h2 z).symm.trans q), h1⟩
theorem l_eq {a b : Int64} : ifCond.holds .eq (XT.cmpL a b) = true ↔ a = b := l_of XT.ll_eq_t XT.ll_eq_f
theorem l_ne {a b : Int64} : ifCond.holds .ne (XT.cmpL a b) = true ↔ ¬ a = b := l_of XT.ll_ne_t (fun q => XT.ll_ne_f (Classical.not_not.mp q))
theorem l_lt {a b : Int64} : ifCond.holds .lt (XT.cmpL a b) = true ↔ a < b := l_of XT.ll_lt_t XT.ll_lt_f
theorem l_ge {a b : Int64} : ifCond.holds .ge (XT.cmpL a b) = true ↔ ¬ a < b := l_of XT.ll_ge_t (fun q => XT.ll_ge_f (Classical.not_not.mp q))
theorem l_gt {a b : Int64} : ifCond.holds .gt (XT.cmpL a b) = true ↔ b < a := l_of XT.ll_gt_t XT.ll_gt_f
theorem l_le {a b : Int64} : ifCond.holds .le (XT.cmpL a b) = true ↔ ¬ b < a := l_of XT.ll_le_t (fun q => XT.ll_le_f (Classical.not_not.mp q))
theorem g_nullY (X : Sd l Z n0 y B ml rt R k T h cc ss) {o : Int} (hd : decode B pc = .ok (.ifnull o, 3)) (pc' : Nat) (ho : 0 ≤ (pc : Int) + o) (hp : ((pc : Int) + o).toNat = pc') (K : Go k n0 Q kc ks T pc' Ls st) : Go k n0 Q kc ks T pc Ls (.null :: st) := K.of fun _ q => XS.ifnullYes X.hh X.x rfl rfl (X.d hd) rfl ho hp q
theorem g_nullN (X : Sd l Z n0 y B ml rt R k T h cc ss) {o : Int} {a : Addr} (hd : decode B pc = .ok (.ifnull o, 3)) (pc' : Nat) (hp : pc + 3 = pc') (K : Go k n0 Q kc ks T pc' Ls st) : Go k n0 Q kc ks T pc Ls (.ref a :: st) := by subst hp; exact K.of fun _ q => XS.ifnullNo X.hh X.x rfl (X.d hd) rfl q
theorem g_nonnullY (X : Sd l Z n0 y B ml rt R k T h cc ss) {o : Int} {a : Addr} (hd : decode B pc = .ok (.ifnonnull o, 3)) (pc' : Nat) (ho : 0 ≤ (pc : Int) + o) (hp : ((pc : Int) + o).toNat = pc') (K : Go k n0 Q kc ks T pc' Ls st) : Go k n0 Q kc ks T pc Ls (.ref a :: st) := K.of fun _ q => XS.ifnonnullYes X.hh X.x rfl rfl (X.d hd) rfl ho hp q
theorem g_nonnullN (X : Sd l Z n0 y B ml rt R k T h cc ss) {o : Int} (hd : decode B pc = .ok (.ifnonnull o, 3)) (pc' : Nat) (hp : pc + 3 = pc') (K : Go k n0 Q kc ks T pc' Ls st) : Go k n0 Q kc ks T pc Ls (.null :: st) := by subst hp; exact K.of fun _ q => XS.ifnonnullNo X.hh X.x rfl (X.d hd) rfl q
theorem g_acmpY (X : Sd l Z n0 y B ml rt R k T h cc ss) {cd : ClassFile.ACond} {v w : Value} {o : Int} (hd : decode B pc = .ok (.if_acmp cd o, 3)) (hv : v.isRef = true) (hw : w.isRef = true) (hc : XT.acmp cd v w = true) (pc' : Nat) (ho : 0 ≤ (pc : Int) + o) (hp : ((pc : Int) + o).toNat = pc') (K : Go k n0 Q kc ks T pc' Ls st) : Go k n0 Q kc ks T pc Ls (w :: v :: st) := K.of fun _ q => XT.acmpYes X.hh X.x rfl rfl (X.d hd) rfl hv hw hc ho hp q
theorem g_acmpN (X : Sd l Z n0 y B ml rt R k T h cc ss) {cd : ClassFile.ACond} {v w : Value} {o : Int} (hd : decode B pc = .ok (.if_acmp cd o, 3)) (hv : v.isRef = true) (hw : w.isRef = true) (hc : XT.acmp cd v w = false) (pc' : Nat) (hp : pc + 3 = pc') (K : Go k n0 Q kc ks T pc' Ls st) : Go k n0 Q kc ks T pc Ls (w :: v :: st) := by subst hp; exact K.of fun _ q => XT.acmpNo X.hh X.x rfl (X.d hd) rfl hv hw hc q
theorem a_eq {a b : Addr} : XT.acmp .eq (.ref a) (.ref b) = true ↔ a = b := by simp [XT.acmp]
theorem a_ne {a b : Addr} : XT.acmp .ne (.ref a) (.ref b) = true ↔ ¬ a = b := by simp [XT.acmp]
theorem g_acmp (X : Sd l Z n0 y B ml rt R k T h cc ss) {cd : ClassFile.ACond} {a b : Addr} {o : Int} {C : Prop} (hc : XT.acmp cd (.ref a) (.ref b) = true ↔ C) (hd : decode B pc = .ok (.if_acmp cd o, 3)) (pT : Nat) (ho : 0 ≤ (pc : Int) + o) (hT : ((pc : Int) + o).toNat = pT) (pF : Nat) (hF : pc + 3 = pF) (K1 : C → Go k n0 Q kc ks T pT Ls st) (K2 : ¬ C → Go k n0 Q kc ks T pF Ls st) : Go k n0 Q kc ks T pc Ls (.ref b :: .ref a :: st) := by
  cases q : XT.acmp cd (.ref a) (.ref b) with
  | true => exact g_acmpY X hd rfl rfl q pT ho hT (K1 (hc.mp q))
  | false => exact g_acmpN X hd rfl rfl q pF hF (K2 (fun z => by rw [hc.mpr z] at q; cases q))
theorem g_acmpNN (X : Sd l Z n0 y B ml rt R k T h cc ss) {cd : ClassFile.ACond} {a b : Addr} {o : Int} {C : Prop} (hc : XT.acmp cd (.ref a) (.ref b) = true ↔ ¬ C) (hd : decode B pc = .ok (.if_acmp cd o, 3)) (pT : Nat) (ho : 0 ≤ (pc : Int) + o) (hT : ((pc : Int) + o).toNat = pT) (pF : Nat) (hF : pc + 3 = pF) (K1 : C → Go k n0 Q kc ks T pF Ls st) (K2 : ¬ C → Go k n0 Q kc ks T pT Ls st) : Go k n0 Q kc ks T pc Ls (.ref b :: .ref a :: st) :=
  g_acmp X hc hd pT ho hT pF hF K2 fun q => K1 (Classical.not_not.mp q)
/-! constants of the pool -/
theorem g_ldcI (X : Sd l Z n0 y B ml rt R k T h cc ss) {i : Nat} {v : Int32} (w : (Jvm.Cond.constant y.cls i v).before a0 Z = true) (hd : decode B pc = .ok (.ldc i, 2)) (pc' : Nat) (hp : pc + 2 = pc') (K : Go k n0 Q kc ks T pc' Ls (.int v :: st)) : Go k n0 Q kc ks T pc Ls st := by
  subst hp; obtain ⟨⟨locs, Y, N⟩, eh, hx, hZ, hown, hby, -⟩ := X
  exact K.of fun _ q => Y.ldcI hx hown (mv hZ w) rfl (Jvm.hb hby hd) q
theorem g_ldc2J (X : Sd l Z n0 y B ml rt R k T h cc ss) {i : Nat} {v : Int64} (w : (Jvm.Cond.constantLong y.cls i v).before a0 Z = true) (hd : decode B pc = .ok (.ldc2_w i, 3)) (pc' : Nat) (hp : pc + 3 = pc') (K : Go k n0 Q kc ks T pc' Ls (.long v :: st)) : Go k n0 Q kc ks T pc Ls st := by
  subst hp; obtain ⟨⟨locs, Y, N⟩, eh, hx, hZ, hown, hby, -⟩ := X
  exact K.of fun _ q => Y.ldc2J hx hown (mv hZ w) rfl (Jvm.hb hby hd) q
/-! returns -/
theorem g_retI (X : Sd l Z n0 y B ml (some .int) R k T h cc ss) {z : Int32} (hd : decode B pc = .ok (.ireturn, 1)) (hk : cc ≤ kc) (hs : ss ≤ ks) (hQ : Q (some (.int z)) h) : Go k n0 Q kc ks T pc Ls [.int z] :=
  Go.end X hk hs (fun q => nomatch q) (fun fs hr => by obtain ⟨⟨locs, Y, N⟩, eh, hx, hZ, hown, hby, hml, hnm, hrt, hlk⟩ := X; exact Y.ireturnOut hx hrt rfl (Or.inl rfl) (Jvm.hb hby hd) hr) hQ
theorem g_retN (X : Sd l Z n0 y B ml rt R k T h cc ss) {z : Int32} {t : FieldType} (hrt : rt = some t) (ht : t = .boolean ∨ t = .byte ∨ t = .char ∨ t = .short) (hd : decode B pc = .ok (.ireturn, 1)) (hk : cc ≤ kc) (hs : ss ≤ ks) (hQ : Q (some (.int (nar t z))) h) : Go k n0 Q kc ks T pc Ls [.int z] :=
  Go.end X hk hs (fun q => by rw [hrt] at q; cases q) (fun fs hr => by obtain ⟨⟨locs, Y, N⟩, eh, hx, hZ, hown, hby, hml, hnm, hrt', hlk⟩ := X; exact retN Y hx (hrt'.trans hrt) ht (Jvm.hb hby hd) hr) hQ
theorem g_retZ (X : Sd l Z n0 y B ml (some .boolean) R k T h cc ss) {z : Int32} (hd : decode B pc = .ok (.ireturn, 1)) (hk : cc ≤ kc) (hs : ss ≤ ks) (hQ : Q (some (.int (z &&& 1))) h) : Go k n0 Q kc ks T pc Ls [.int z] := g_retN X rfl (Or.inl rfl) hd hk hs hQ
theorem g_retL (X : Sd l Z n0 y B ml (some .long) R k T h cc ss) {z : Int64} (hd : decode B pc = .ok (.lreturn, 1)) (hk : cc ≤ kc) (hs : ss ≤ ks) (hQ : Q (some (.long z)) h) : Go k n0 Q kc ks T pc Ls [.long z] :=
  Go.end X hk hs (fun q => nomatch q) (fun fs hr => by obtain ⟨⟨locs, Y, N⟩, eh, hx, hZ, hown, hby, hml, hnm, hrt, hlk⟩ := X; exact Y.lreturnOut hx hrt (Jvm.hb hby hd) hr) hQ
theorem g_retA (X : Sd l Z n0 y B ml rt R k T h cc ss) {v : Value} {t : FieldType} (hrt : rt = some t) (ht : t.isReference = true) (hv : v.isRef = true) (hd : decode B pc = .ok (.areturn, 1)) (hk : cc ≤ kc) (hs : ss ≤ ks) (hQ : Q (some v) h) : Go k n0 Q kc ks T pc Ls [v] :=
  Go.end X hk hs (fun q => by rw [hrt] at q; cases q) (fun fs hr => by obtain ⟨⟨locs, Y, N⟩, eh, hx, hZ, hown, hby, hml, hnm, hrt', hlk⟩ := X; exact Y.areturnOut hx hv (hrt'.trans hrt) ht (Jvm.hb hby hd) hr) hQ
theorem g_ret (X : Sd l Z n0 y B ml none R k T h cc ss) (hd : decode B pc = .ok (.return_, 1)) (hk : cc ≤ kc) (hs : ss ≤ ks) (hQ : Q none h) : Go k n0 Q kc ks T pc Ls [] :=
  Go.end X hk hs (fun _ => rfl) (fun fs hr => by obtain ⟨⟨locs, Y, N⟩, eh, hx, hZ, hown, hby, hml, hnm, hrt, hlk⟩ := X; exact Y.returnOut hx hrt (Jvm.hb hby hd) hr) hQ
/-! objects -/
theorem g_new (X : Sd l Z n0 y B ml rt R k T h cc ss) {i n : Nat} {C : String} (w : (Jvm.Cond.classLink y.cls i C).before a0 Z = true) (wi : (Jvm.Cond.instantiable C n).before a0 Z = true) (wz : (Jvm.Cond.initialized C).before a0 Z = true) (hd : decode B pc = .ok (.new i, 3)) (hc : cc + 1 ≤ R.cells) (hl : ss + n ≤ R.slots) (pc' : Nat) (hp : pc + 3 = pc')
    (K : ∀ T' h' a, Sd l Z n0 y B ml rt R k T' h' (cc + 1) (ss + n) → a = h.size → Ext h h' → Exa Z h' a C → (∀ {O nm d : String} {ty : FieldType}, Laid Z a0 C O nm d → parseFieldDescriptor d = some ty → Fld Z h' a O nm d (defaultValue ty)) → Go k n0 Q kc ks T' pc' Ls (.ref a :: st)) : Go k n0 Q kc ks T pc Ls st := by
  subst hp; obtain ⟨⟨locs, Y, N⟩, eh, hx, hZ, hown, hby, hr⟩ := X
  obtain ⟨T2, h2, X2, e2, E2, A2, D2, -, st2⟩ := newO Y hx hZ hown w wi wz eh (g := mkF (owm k) pc Ls st) rfl (Jvm.hb hby hd) hc hl
  exact (K T2 h2 h.size ⟨⟨locs, X2, N⟩, e2, hx, hZ, hown, hby, hr⟩ rfl E2 A2 D2).of st2
theorem g_getF (X : Sd l Z n0 y B ml rt R k T h cc ss) {i : Nat} {R0 O n d : String} (w : (Jvm.Cond.fieldLink y.cls i R0 n d).before a0 Z = true) (via : Via Z R0 O n d) {a : Addr} {v : Value} (F : Fld Z h a O n d v) (hd : decode B pc = .ok (.getfield i, 3)) (pc' : Nat) (hp : pc + 3 = pc')
    (K : ∀ T', Sd l Z n0 y B ml rt R k T' h cc ss → Go k n0 Q kc ks T' pc' Ls (v :: st)) : Go k n0 Q kc ks T pc Ls (.ref a :: st) := by
  subst hp; obtain ⟨⟨locs, Y, N⟩, eh, hx, hZ, hown, hby, hr⟩ := X
  obtain ⟨T2, X2, e2, st2⟩ := getF Y hx hZ hown (host := "") (Or.inl w) via eh F (g := mkF (owm k) pc Ls (.ref a :: st)) rfl rfl (Jvm.hb hby hd)
  exact (K T2 ⟨⟨locs, X2, N⟩, e2, hx, hZ, hown, hby, hr⟩).of st2
theorem g_getFH (X : Sd l Z n0 y B ml rt R k T h cc ss) {i : Nat} {R0 O n d host : String} (w : (Jvm.Cond.fieldLinkNest y.cls i R0 n d host).before a0 Z = true) (via : Via Z R0 O n d) {a : Addr} {v : Value} (F : Fld Z h a O n d v) (hd : decode B pc = .ok (.getfield i, 3)) (pc' : Nat) (hp : pc + 3 = pc')
    (K : ∀ T', Sd l Z n0 y B ml rt R k T' h cc ss → Go k n0 Q kc ks T' pc' Ls (v :: st)) : Go k n0 Q kc ks T pc Ls (.ref a :: st) := by
  subst hp; obtain ⟨⟨locs, Y, N⟩, eh, hx, hZ, hown, hby, hr⟩ := X
  obtain ⟨T2, X2, e2, st2⟩ := getF Y hx hZ hown (Or.inr w) via eh F (g := mkF (owm k) pc Ls (.ref a :: st)) rfl rfl (Jvm.hb hby hd)
  exact (K T2 ⟨⟨locs, X2, N⟩, e2, hx, hZ, hown, hby, hr⟩).of st2
theorem g_getS (X : Sd l Z n0 y B ml rt R k T h cc ss) {i : Nat} {R0 O n d : String} (w : (Jvm.Cond.fieldLink y.cls i R0 n d).before a0 Z = true) (via : Via Z R0 O n d) {v : Value} (F : Sta Z h O n d v) (hd : decode B pc = .ok (.getstatic i, 3)) (pc' : Nat) (hp : pc + 3 = pc')
    (K : ∀ T', Sd l Z n0 y B ml rt R k T' h cc ss → Go k n0 Q kc ks T' pc' Ls (v :: st)) : Go k n0 Q kc ks T pc Ls st := by
  subst hp; obtain ⟨⟨locs, Y, N⟩, eh, hx, hZ, hown, hby, hr⟩ := X
  obtain ⟨T2, X2, e2, st2⟩ := getS2 Y hx hZ hown (host := "") (Or.inl w) via eh F (g := mkF (owm k) pc Ls st) rfl (Jvm.hb hby hd)
  exact (K T2 ⟨⟨locs, X2, N⟩, e2, hx, hZ, hown, hby, hr⟩).of st2
/-- a final field in a constructor of its class -/
theorem g_putFin (X : Sd l Z n0 y B ml rt R k T h cc ss) {i kk : Nat} {O n d C : String} (w : (Jvm.Cond.fieldLink y.cls i O n d).before a0 Z = true) {a : Addr} {v old : Value} (F : Fld Z h a O n d old) (E : Exa Z h a C) (L : (Jvm.Cond.laysFinal C O n d).before a0 Z = true) (ho : y.cls = O) (hi : y.name = "<init>") (wi : (Jvm.Cond.instantiable C kk).before a0 Z = true)
    (g0 : n0 ≤ a) (ty : FieldType) (hty : parseFieldDescriptor d = some ty) (hn : narrow ty v = v) (hf : fits ty v = true) (hd : decode B pc = .ok (.putfield i, 3)) (pc' : Nat) (hp : pc + 3 = pc')
    (K : ∀ T' h', Sd l Z n0 y B ml rt R k T' h' cc ss → Wr h h' a (Jvm.RoadKit.slotOf Z O n d) v → Go k n0 Q kc ks T' pc' Ls st) : Go k n0 Q kc ks T pc Ls (v :: .ref a :: st) := by
  subst hp; obtain ⟨⟨locs, Y, N⟩, eh, hx, hZ, hown, hby, hml, hnm, hr⟩ := X
  obtain ⟨T2, h2, X2, e2, W2, st2⟩ := putF Y hx hZ hown (host := "") (Or.inl w) Via.refl eh F E (Or.inr ⟨L, ho, hnm.trans hi⟩) wi hty hn hf (g := mkF (owm k) pc Ls (v :: .ref a :: st)) rfl rfl (Jvm.hb hby hd)
  exact (K T2 h2 ⟨⟨_, X2, Fr.snoc X2 N g0⟩, e2, hx, hZ, hown, hby, hml, hnm, hr⟩ W2).of st2
theorem g_putF (X : Sd l Z n0 y B ml rt R k T h cc ss) {i kk : Nat} {R0 O n d C : String} (w : (Jvm.Cond.fieldLink y.cls i R0 n d).before a0 Z = true) (via : Via Z R0 O n d) {a : Addr} {v old : Value} (F : Fld Z h a O n d old) (E : Exa Z h a C) (L : (Jvm.Cond.lays C O n d).before a0 Z = true) (wi : (Jvm.Cond.instantiable C kk).before a0 Z = true)
    (g0 : n0 ≤ a) (ty : FieldType) (hty : parseFieldDescriptor d = some ty) (hn : narrow ty v = v) (hf : fits ty v = true) (hd : decode B pc = .ok (.putfield i, 3)) (pc' : Nat) (hp : pc + 3 = pc')
    (K : ∀ T' h', Sd l Z n0 y B ml rt R k T' h' cc ss → Wr h h' a (Jvm.RoadKit.slotOf Z O n d) v → Go k n0 Q kc ks T' pc' Ls st) : Go k n0 Q kc ks T pc Ls (v :: .ref a :: st) := by
  subst hp; obtain ⟨⟨locs, Y, N⟩, eh, hx, hZ, hown, hby, hr⟩ := X
  obtain ⟨T2, h2, X2, e2, W2, st2⟩ := putF Y hx hZ hown (host := "") (Or.inl w) via eh F E (Or.inl L) wi hty hn hf (g := mkF (owm k) pc Ls (v :: .ref a :: st)) rfl rfl (Jvm.hb hby hd)
  exact (K T2 h2 ⟨⟨_, X2, Fr.snoc X2 N g0⟩, e2, hx, hZ, hown, hby, hr⟩ W2).of st2
theorem g_putFinN (X : Sd l Z n0 y B ml rt R k T h cc ss) {i kk : Nat} {O n d C : String} (w : (Jvm.Cond.fieldLink y.cls i O n d).before a0 Z = true) {a : Addr} {v old : Value} (v' : Value) (F : Fld Z h a O n d old) (E : Exa Z h a C) (L : (Jvm.Cond.laysFinal C O n d).before a0 Z = true) (ho : y.cls = O) (hi : y.name = "<init>") (wi : (Jvm.Cond.instantiable C kk).before a0 Z = true)
    (g0 : n0 ≤ a) (ty : FieldType) (hty : parseFieldDescriptor d = some ty) (hn : narrow ty v = v') (hf : fits ty v' = true) (hd : decode B pc = .ok (.putfield i, 3)) (pc' : Nat) (hp : pc + 3 = pc')
    (K : ∀ T' h', Sd l Z n0 y B ml rt R k T' h' cc ss → Wr h h' a (Jvm.RoadKit.slotOf Z O n d) v' → Go k n0 Q kc ks T' pc' Ls st) : Go k n0 Q kc ks T pc Ls (v :: .ref a :: st) := by
  subst hp; obtain ⟨⟨locs, Y, N⟩, eh, hx, hZ, hown, hby, hml, hnm, hr⟩ := X
  obtain ⟨T2, h2, X2, e2, W2, st2⟩ := putFN Y hx hZ hown w Via.refl eh F E (Or.inr ⟨L, ho, hnm.trans hi⟩) wi hty hn hf (g := mkF (owm k) pc Ls (v :: .ref a :: st)) rfl rfl (Jvm.hb hby hd)
  exact (K T2 h2 ⟨⟨_, X2, Fr.snoc X2 N g0⟩, e2, hx, hZ, hown, hby, hml, hnm, hr⟩ W2).of st2
theorem g_initO (X : Sd l Z n0 y B ml rt R k T h cc ss) {i : Nat} {a : Addr} (w1 : (Jvm.Cond.methodLink y.cls i Lib.objectInit).before a0 Z = true) (w2 : (Jvm.Cond.instanceMethod Lib.objectInit).before a0 Z = true) (w3 : (Jvm.Cond.code Lib.objectInit ⟨#[0xb1]⟩ 1 none).before a0 Z = true) (hsz : Ls.size = ml) (hf : 1 ≤ R.frames) (hl : (st.map fun v => v.category).sum + 12 ≤ R.locals) (hd : decode B pc = .ok (.invokespecial i, 3)) (pc' : Nat) (hp : pc + 3 = pc')
    (K : ∀ T', Sd l Z n0 y B ml rt R k T' h cc ss → Go k n0 Q kc ks T' pc' Ls st) : Go k n0 Q kc ks T pc Ls (.ref a :: st) := by
  subst hp; obtain ⟨⟨locs, Y, N⟩, eh, hx, hZ, hown, hby, hml, hr⟩ := X
  obtain ⟨T2, X2, e2, st2⟩ := initO Y hx hZ hown w1 w2 w3 eh (g := mkF (owm k) pc Ls (.ref a :: st)) rfl (hsz.trans hml.symm) rfl (Jvm.hb hby hd) hf (W := (st.map fun v => v.category).sum) (by show 2 * 0 + _ ≤ _; omega) hl
  exact (K T2 ⟨⟨locs, X2, N⟩, e2, hx, hZ, hown, hby, hml, hr⟩).of st2
/-! calls -/
theorem g_callS (X : Sd l Z n0 y B ml rt R k T h cc ss) {i : Nat} {z : MethodName} {Bz : ByteArray} {mz : Nat} {rz : Option FieldType} {rm : Room} {Qz : Option Value → Heap → Prop} (argsL rest : List Value) {ps : List FieldType} {pr : Option FieldType} (M : Met l Z n0 z Bz mz rz [] rm argsL.toArray h Qz rm.cells rm.slots)
    (w1 : (Jvm.Cond.methodLink y.cls i z).before a0 Z = true) (w2 : (Jvm.Cond.static z).before a0 Z = true) (w3 : (Jvm.Cond.initialized z.cls).before a0 Z = true) (w4 : (Jvm.Cond.code z Bz mz rz).before a0 Z = true) (hy : z.cls ≠ "java/lang/invoke/MethodHandle" ∧ z.cls ≠ "java/lang/invoke/VarHandle") (pd : parseMethodDescriptor z.desc = some ⟨ps, pr⟩) (hlen : argsL.length = ps.length)
    (hsz : Ls.size = ml) (hf : rm.frames + 1 ≤ R.frames) (hlo : (rest.map fun v => v.category).sum + (mz + 11) + rm.locals ≤ R.locals) (hc : cc + rm.cells ≤ R.cells) (hs : ss + rm.slots ≤ R.slots) (hd : decode B pc = .ok (.invokestatic i, 3)) (hst : st = argsL.reverse ++ rest) (pc' : Nat) (hp : pc + 3 = pc')
    (K : ∀ v T' h', Sd l Z n0 y B ml rt R k T' h' (cc + rm.cells) (ss + rm.slots) → Qz v h' → Go k n0 Q kc ks T' pc' Ls (v.toList ++ rest)) : Go k n0 Q kc ks T pc Ls st := by
  subst hp; obtain ⟨⟨locs, Y, N⟩, eh, hx, hZ, hown, hby, hml, hr⟩ := X
  obtain ⟨v, _, ⟨T', L', c', n'⟩, -, X', ⟨Lc, hQ, l1, y1, z1⟩, stp⟩ := Jvm.LawKit.callS Y hx (y := z) hown (mvT hZ w1) (mvT hZ w2) (mvT hZ w3) (mvT hZ w4) hy (backOf (W := (rest.map fun v => v.category).sum) (Q := fun v h L => Fr n0 L ∧ Qz v h) M hZ w4 w3 hf hlo) (g := mkF (owm k) pc Ls st) rfl (hsz.trans hml.symm) (argsL := argsL) (rest := rest) (lenOf pd hlen) hst (by show 2 * 0 + _ ≤ _; omega) (Jvm.hb hby hd) (fun _ _ => ⟨rfl, eh, hc, hs⟩)
  dsimp only [Pt.U, Pt.locs, Pt.cells, Pt.slots] at X' l1 y1 z1 stp hQ
  subst l1 y1 z1
  exact (K v T' _ ⟨⟨_, X', N.app hQ.1⟩, rfl, hx, hZ, hown, hby, hml, hr⟩ hQ.2).of stp
theorem g_callI (X : Sd l Z n0 y B ml rt R k T h cc ss) {i : Nat} {z : MethodName} {Bz : ByteArray} {mz : Nat} {rm : Room} {Qz : Option Value → Heap → Prop} (a : Addr) (argsL rest : List Value) {ps : List FieldType} {pr : Option FieldType} (M : Met l Z n0 z Bz mz none [] rm (Value.ref a :: argsL).toArray h Qz rm.cells rm.slots) (hi : z.name = "<init>")
    (w1 : (Jvm.Cond.methodLink y.cls i z).before a0 Z = true) (w2 : (Jvm.Cond.instanceMethod z).before a0 Z = true) (w3 : (Jvm.Cond.initialized z.cls).before a0 Z = true) (w4 : (Jvm.Cond.code z Bz mz none).before a0 Z = true) (hy : z.cls ≠ "java/lang/invoke/MethodHandle" ∧ z.cls ≠ "java/lang/invoke/VarHandle") (pd : parseMethodDescriptor z.desc = some ⟨ps, pr⟩) (hlen : argsL.length = ps.length)
    (hsz : Ls.size = ml) (hf : rm.frames + 1 ≤ R.frames) (hlo : (rest.map fun v => v.category).sum + (mz + 11) + rm.locals ≤ R.locals) (hc : cc + rm.cells ≤ R.cells) (hs : ss + rm.slots ≤ R.slots) (hd : decode B pc = .ok (.invokespecial i, 3)) (hst : st = argsL.reverse ++ .ref a :: rest) (pc' : Nat) (hp : pc + 3 = pc')
    (K : ∀ v T' h', Sd l Z n0 y B ml rt R k T' h' (cc + rm.cells) (ss + rm.slots) → Qz v h' → Go k n0 Q kc ks T' pc' Ls (v.toList ++ rest)) : Go k n0 Q kc ks T pc Ls st := by
  subst hp; obtain ⟨⟨locs, Y, N⟩, eh, hx, hZ, hown, hby, hml, hr⟩ := X
  obtain ⟨v, _, ⟨T', L', c', n'⟩, -, X', ⟨Lc, hQ, l1, y1, z1⟩, stp⟩ := Y.specialBack hx (y := z) hi hown (mvT hZ w1) (mvT hZ w2) (mvT hZ w4) hy (backOf (W := (rest.map fun v => v.category).sum) (Q := fun v h L => Fr n0 L ∧ Qz v h) M hZ w4 w3 hf hlo) (g := mkF (owm k) pc Ls st) rfl (hsz.trans hml.symm) (Steps.refl _) (a := a) (argsL := argsL) (rest := rest) (lenOf pd hlen) hst (by show 2 * 0 + _ ≤ _; omega) (Jvm.hb hby hd) (fun _ _ => ⟨rfl, eh, hc, hs⟩)
  dsimp only [Pt.U, Pt.locs, Pt.cells, Pt.slots] at X' l1 y1 z1 stp hQ
  subst l1 y1 z1
  exact (K v T' _ ⟨⟨_, X', N.app hQ.1⟩, rfl, hx, hZ, hown, hby, hml, hr⟩ hQ.2).of fun _ q => stp.trans q
/-- an instance method, found where it is named -/
theorem g_callV (X : Sd l Z n0 y B ml rt R k T h cc ss) {i : Nat} {z : MethodName} {C : String} {Bz : ByteArray} {mz : Nat} {rz : Option FieldType} {rm : Room} {Qz : Option Value → Heap → Prop} (a : Addr) (argsL rest : List Value) {ps : List FieldType} {pr : Option FieldType} (M : Met l Z n0 z Bz mz rz [] rm (Value.ref a :: argsL).toArray h Qz rm.cells rm.slots) (E : Exa Z h a C)
    (w1 : (Jvm.Cond.methodLink y.cls i z).before a0 Z = true) (w2 : (Jvm.Cond.declares z).before a0 Z = true) (w5 : (Jvm.Cond.selects C z z).before a0 Z = true) (w6 : (Jvm.Cond.instanceMethod z).before a0 Z = true) (w3 : (Jvm.Cond.initialized z.cls).before a0 Z = true) (w4 : (Jvm.Cond.code z Bz mz rz).before a0 Z = true) (hy : z.cls ≠ "java/lang/invoke/MethodHandle" ∧ z.cls ≠ "java/lang/invoke/VarHandle") (pd : parseMethodDescriptor z.desc = some ⟨ps, pr⟩) (hlen : argsL.length = ps.length)
    (hsz : Ls.size = ml) (hf : rm.frames + 1 ≤ R.frames) (hlo : (rest.map fun v => v.category).sum + (mz + 11) + rm.locals ≤ R.locals) (hc : cc + rm.cells ≤ R.cells) (hs : ss + rm.slots ≤ R.slots) (hd : decode B pc = .ok (.invokevirtual i, 3)) (hst : st = argsL.reverse ++ .ref a :: rest) (pc' : Nat) (hp : pc + 3 = pc')
    (K : ∀ v T' h', Sd l Z n0 y B ml rt R k T' h' (cc + rm.cells) (ss + rm.slots) → Qz v h' → Go k n0 Q kc ks T' pc' Ls (v.toList ++ rest)) : Go k n0 Q kc ks T pc Ls st := by
  subst hp; obtain ⟨⟨locs, Y, N⟩, eh, hx, hZ, hown, hby, hml, hr⟩ := X
  obtain ⟨cq, kq, qa, qb, qc⟩ := isOf hZ eh E
  obtain ⟨v, _, ⟨T', L', c', n'⟩, -, X', ⟨Lc, hQ, l1, y1, z1⟩, stp⟩ := Y.virtualBack hx (y := z) (z := z) hown (mvT hZ w1) (mvT hZ w2) (notFace_of_selects (args := #[]) (mvT hZ w5)) (mvT hZ w5) (mvT hZ w6) hy (backOf (W := (rest.map fun v => v.category).sum) (Q := fun v h L => Fr n0 L ∧ Qz v h) M hZ w4 w3 hf hlo) qa qc (g := mkF (owm k) pc Ls st) rfl (hsz.trans hml.symm) (Steps.refl _) (argsL := argsL) (rest := rest) (lenOf pd hlen) hst (by show 2 * 0 + _ ≤ _; omega) (Jvm.hb hby hd) (fun _ _ => ⟨rfl, eh, hc, hs⟩)
  dsimp only [Pt.U, Pt.locs, Pt.cells, Pt.slots] at X' l1 y1 z1 stp hQ
  subst l1 y1 z1
  exact (K v T' _ ⟨⟨_, X', N.app hQ.1⟩, rfl, hx, hZ, hown, hby, hml, hr⟩ hQ.2).of fun _ q => stp.trans q
/-- a private instance method by invokevirtual -/
theorem g_callP (X : Sd l Z n0 y B ml rt R k T h cc ss) {i : Nat} {z : MethodName} {C : String} {Bz : ByteArray} {mz : Nat} {rz : Option FieldType} {rm : Room} {Qz : Option Value → Heap → Prop} (a : Addr) (argsL rest : List Value) {ps : List FieldType} {pr : Option FieldType} (M : Met l Z n0 z Bz mz rz [] rm (Value.ref a :: argsL).toArray h Qz rm.cells rm.slots) (E : Exa Z h a C)
    (w1 : (Jvm.Cond.methodLink y.cls i z).before a0 Z = true) (w2 : (Jvm.Cond.privateMethod z).before a0 Z = true) (w5 : (Jvm.Cond.selects z.cls z z).before a0 Z = true) (w6 : (Jvm.Cond.instanceMethod z).before a0 Z = true) (w3 : (Jvm.Cond.initialized z.cls).before a0 Z = true) (w4 : (Jvm.Cond.code z Bz mz rz).before a0 Z = true) (hy : z.cls ≠ "java/lang/invoke/MethodHandle" ∧ z.cls ≠ "java/lang/invoke/VarHandle") (pd : parseMethodDescriptor z.desc = some ⟨ps, pr⟩) (hlen : argsL.length = ps.length)
    (hsz : Ls.size = ml) (hf : rm.frames + 1 ≤ R.frames) (hlo : (rest.map fun v => v.category).sum + (mz + 11) + rm.locals ≤ R.locals) (hc : cc + rm.cells ≤ R.cells) (hs : ss + rm.slots ≤ R.slots) (hd : decode B pc = .ok (.invokevirtual i, 3)) (hst : st = argsL.reverse ++ .ref a :: rest) (pc' : Nat) (hp : pc + 3 = pc')
    (K : ∀ v T' h', Sd l Z n0 y B ml rt R k T' h' (cc + rm.cells) (ss + rm.slots) → Qz v h' → Go k n0 Q kc ks T' pc' Ls (v.toList ++ rest)) : Go k n0 Q kc ks T pc Ls st := by
  subst hp; obtain ⟨⟨locs, Y, N⟩, eh, hx, hZ, hown, hby, hml, hr⟩ := X
  obtain ⟨cl, qa, qb⟩ := E.cell
  obtain ⟨v, _, ⟨T', L', c', n'⟩, -, X', ⟨Lc, hQ, l1, y1, z1⟩, stp⟩ := Y.privateBack hx (y := z) hown (mvT hZ w1) (mvT hZ w6) (mvT hZ w5) (Cond.privateMethod_at (mvP (args := #[]) hZ w2)) (mvT hZ w4) hy (backOf (W := (rest.map fun v => v.category).sum) (Q := fun v h L => Fr n0 L ∧ Qz v h) M hZ w4 w3 hf hlo) (g := mkF (owm k) pc Ls st) rfl (hsz.trans hml.symm) (Steps.refl _) (by rw [eh]; exact qa) qb (argsL := argsL) (rest := rest) (lenOf pd hlen) hst (by show 2 * 0 + _ ≤ _; omega) (Jvm.hb hby hd) (fun _ _ => ⟨rfl, eh, hc, hs⟩)
  dsimp only [Pt.U, Pt.locs, Pt.cells, Pt.slots] at X' l1 y1 z1 stp hQ
  subst l1 y1 z1
  exact (K v T' _ ⟨⟨_, X', N.app hQ.1⟩, rfl, hx, hZ, hown, hby, hml, hr⟩ hQ.2).of fun _ q => stp.trans q
/-! arrays: n places, f says what each holds -/
def AI (Z : State) (h : Heap) (a : Addr) (ty : FieldType) (n : Nat) (f : Nat → Value) : Prop := ∃ c : Cell, Arr Z h a c ty ∧ c.slots.size = n ∧ n < 2147483648 ∧ ∀ i, i < n → c.slots[i]? = some (f i)
theorem AI.lt {a : Addr} {ty : FieldType} {n : Nat} {f : Nat → Value} (A : AI Z h a ty n f) : a < h.size := by obtain ⟨c, A, -⟩ := A; exact A.lt
theorem AI.ext {h' : Heap} {a : Addr} {ty : FieldType} {n : Nat} {f : Nat → Value} (A : AI Z h a ty n f) (E : Ext h h') : AI Z h' a ty n f := by obtain ⟨c, A, r⟩ := A; exact ⟨c, A.ext E, r⟩
theorem AI.other {h' : Heap} {a b : Addr} {sl : Nat} {v : Value} {ty : FieldType} {n : Nat} {f : Nat → Value} (A : AI Z h a ty n f) (W : Wr h h' b sl v) (q : a ≠ b) : AI Z h' a ty n f := by obtain ⟨c, A, r⟩ := A; exact ⟨c, A.other W q, r⟩
theorem AI.keep {h' : Heap} {ws : List Addr} {a : Addr} {ty : FieldType} {n : Nat} {f : Nat → Value} (A : AI Z h a ty n f) (K : Keep h h' ws) (q : a ∉ ws) : AI Z h' a ty n f := by obtain ⟨c, A, r⟩ := A; exact ⟨c, ⟨K.2.1 a c A.1 q, A.2⟩, r⟩
theorem AI.to {a : Addr} {ty : FieldType} {n : Nat} {f g : Nat → Value} (A : AI Z h a ty n f) (e : ∀ i, i < n → f i = g i) : AI Z h a ty n g := by obtain ⟨c, A, r1, r2, r3⟩ := A; exact ⟨c, A, r1, r2, fun i hi => by rw [r3 i hi, e i hi]⟩
theorem AI.set {h' : Heap} {a : Addr} {ty : FieldType} {n i : Nat} {v : Value} {f : Nat → Value} (A : AI Z h a ty n f) (W : Wr h h' a i v) : AI Z h' a ty n (fun j => if j = i then v else f j) := by
  obtain ⟨c, A, r1, r2, r3⟩ := A
  refine ⟨_, A.same W, by rw [sz_set]; exact r1, r2, fun j hj => ?_⟩
  obtain ⟨c', q1, -, q3, -⟩ := W
  cases A.1.symm.trans q1
  by_cases e : j = i
  · subst e; simp [Cell.setSlot, r1, hj]
  · have e' : ¬ i = j := fun z => e z.symm
    simp [Cell.setSlot, Array.getElem?_setIfInBounds, e', e, r3 j hj]
theorem AI.new {a : Addr} {ty : FieldType} {cA : ClassId} {m : Int32} (A : Arr Z h a (newA cA ty m) ty) (q : ¬ m < 0) {n : Nat} (e : m.toInt = n) : AI Z h a ty n (fun _ => defaultValue ty) := by
  have e1 : m.toNatClampNeg = n := by simp [Int32.toNatClampNeg, e]
  have e2 : n < 2147483648 := by have := m.toInt_lt; omega
  refine ⟨_, A, by rw [sz_new]; exact e1, e2, fun i hi => ?_⟩
  simp [newA, e1, hi]
theorem ix_of {j : Int32} {i n : Nat} (hj : j.toInt = i) (hi : i < n) : ¬ (j < 0 ∨ n ≤ j.toNatClampNeg) ∧ j.toNatClampNeg = i := by
  have e1 : j.toNatClampNeg = i := by simp [Int32.toNatClampNeg, hj]
  refine ⟨fun q => ?_, e1⟩
  rcases q with q | q
  · rw [Int32.lt_iff_toInt_lt, hj] at q; simp at q; omega
  · omega
theorem g_iaload (X : Sd l Z n0 y B ml rt R k T h cc ss) {a : Addr} {n : Nat} {f : Nat → Value} (A : AI Z h a .int n f) {j : Int32} (i : Nat) (hj : j.toInt = i) (hi : i < n) (v : Value) (hv : f i = v) (hd : decode B pc = .ok (.iaload, 1)) (pc' : Nat) (hp : pc + 1 = pc') (K : Go k n0 Q kc ks T pc' Ls (v :: st)) : Go k n0 Q kc ks T pc Ls (.int j :: .ref a :: st) := by
  subst hp hv; obtain ⟨⟨locs, Y, N⟩, eh, hx, hZ, hown, hby, hr⟩ := X
  obtain ⟨c, A, r1, r2, r3⟩ := A; obtain ⟨q1, q2⟩ := ix_of hj hi
  exact K.of fun t q => Y.iaload hx (by rw [eh]; exact A.1) (State.isArrayOf_alike hZ.alike A.2.1) A.2.2 (by rw [r1]; exact q1) (by rw [q2]; exact r3 i hi) (g := mkF (owm k) pc Ls (.int j :: .ref a :: st)) rfl rfl (Jvm.hb hby hd) t q
theorem g_baload (X : Sd l Z n0 y B ml rt R k T h cc ss) {a : Addr} {n : Nat} {f : Nat → Value} (A : AI Z h a .byte n f) {j : Int32} (i : Nat) (hj : j.toInt = i) (hi : i < n) (v : Value) (hv : f i = v) (hd : decode B pc = .ok (.baload, 1)) (pc' : Nat) (hp : pc + 1 = pc') (K : Go k n0 Q kc ks T pc' Ls (v :: st)) : Go k n0 Q kc ks T pc Ls (.int j :: .ref a :: st) := by
  subst hp hv; obtain ⟨⟨locs, Y, N⟩, eh, hx, hZ, hown, hby, hr⟩ := X
  obtain ⟨c, A, r1, r2, r3⟩ := A; obtain ⟨q1, q2⟩ := ix_of hj hi
  exact K.of fun t q => Y.baloadBytes hx (by rw [eh]; exact A.1) (State.isArrayOf_alike hZ.alike A.2.1) A.2.2 (by rw [r1]; exact q1) (by rw [q2]; exact r3 i hi) (g := mkF (owm k) pc Ls (.int j :: .ref a :: st)) rfl rfl (Jvm.hb hby hd) t q
theorem g_laload (X : Sd l Z n0 y B ml rt R k T h cc ss) {a : Addr} {n : Nat} {f : Nat → Value} (A : AI Z h a .long n f) {j : Int32} (i : Nat) (hj : j.toInt = i) (hi : i < n) (v : Value) (hv : f i = v) (hd : decode B pc = .ok (.laload, 1)) (pc' : Nat) (hp : pc + 1 = pc') (K : Go k n0 Q kc ks T pc' Ls (v :: st)) : Go k n0 Q kc ks T pc Ls (.int j :: .ref a :: st) := by
  subst hp hv; obtain ⟨⟨locs, Y, N⟩, eh, hx, hZ, hown, hby, hr⟩ := X
  obtain ⟨c, A, r1, r2, r3⟩ := A; obtain ⟨q1, q2⟩ := ix_of hj hi
  exact K.of fun t q => Y.laload hx (by rw [eh]; exact A.1) (State.isArrayOf_alike hZ.alike A.2.1) A.2.2 (by rw [r1]; exact q1) (by rw [q2]; exact r3 i hi) (g := mkF (owm k) pc Ls (.int j :: .ref a :: st)) rfl rfl (Jvm.hb hby hd) t q
theorem g_aaload (X : Sd l Z n0 y B ml rt R k T h cc ss) {a : Addr} {ty : FieldType} {n : Nat} {f : Nat → Value} (A : AI Z h a ty n f) (hty : ty.isReference = true) {j : Int32} (i : Nat) (hj : j.toInt = i) (hi : i < n) (v : Value) (hv : f i = v) (hd : decode B pc = .ok (.aaload, 1)) (pc' : Nat) (hp : pc + 1 = pc') (K : Go k n0 Q kc ks T pc' Ls (v :: st)) : Go k n0 Q kc ks T pc Ls (.int j :: .ref a :: st) := by
  subst hp hv; obtain ⟨⟨locs, Y, N⟩, eh, hx, hZ, hown, hby, hr⟩ := X
  obtain ⟨c, A, r1, r2, r3⟩ := A; obtain ⟨q1, q2⟩ := ix_of hj hi
  exact K.of fun t q => Y.aaload hx (by rw [eh]; exact A.1) (State.isArrayOf_alike hZ.alike A.2.1) hty A.2.2 (by rw [r1]; exact q1) (by rw [q2]; exact r3 i hi) (g := mkF (owm k) pc Ls (.int j :: .ref a :: st)) rfl rfl (Jvm.hb hby hd) t q
theorem g_alen (X : Sd l Z n0 y B ml rt R k T h cc ss) {a : Addr} {ty : FieldType} {n : Nat} {f : Nat → Value} (A : AI Z h a ty n f) (v : Int32) (hv : v.toInt = n) (hd : decode B pc = .ok (.arraylength, 1)) (pc' : Nat) (hp : pc + 1 = pc') (K : Go k n0 Q kc ks T pc' Ls (.int v :: st)) : Go k n0 Q kc ks T pc Ls (.ref a :: st) := by
  subst hp; obtain ⟨⟨locs, Y, N⟩, eh, hx, hZ, hown, hby, hr⟩ := X
  obtain ⟨c, A, r1, r2, r3⟩ := A
  have ev : c.slots.size.toInt32 = v := by
    rw [r1]; apply Int32.toInt_inj.mp; rw [hv]
    show (Int32.ofNat n).toInt = _
    rw [Int32.toInt_ofNat_of_lt (by omega)]
  exact K.of fun t q => Y.arraylength hx (by rw [eh]; exact A.1) (State.isArrayOf_alike hZ.alike A.2.1) (g := mkF (owm k) pc Ls (.ref a :: st)) rfl rfl (Jvm.hb hby hd) t (by rw [ev]; exact q)
theorem g_newP (X : Sd l Z n0 y B ml rt R k T h cc ss) {aty : ArrayType} (w : (Jvm.Cond.arrayClass (newarray.typeOf aty)).before a0 Z = true) {m : Int32} (n cap : Nat) (hm : m.toInt = n) (hn : n ≤ cap) (hb : cap * 8 ≤ 536870912) (hd : decode B pc = .ok (.newarray aty, 2)) (hc : cc + 1 ≤ R.cells) (hl : ss + cap ≤ R.slots) (pc' : Nat) (hp : pc + 2 = pc')
    (K : ∀ T' h' a, Sd l Z n0 y B ml rt R k T' h' (cc + 1) (ss + cap) → a = h.size → Ext h h' → AI Z h' a (newarray.typeOf aty) n (fun _ => defaultValue (newarray.typeOf aty)) → Go k n0 Q kc ks T' pc' Ls (.ref a :: st)) : Go k n0 Q kc ks T pc Ls (.int m :: st) := by
  subst hp; obtain ⟨⟨locs, Y, N⟩, eh, hx, hZ, hown, hby, hr⟩ := X
  have q : ¬ m < 0 := by
    have e : (0 : Int32).toInt = 0 := by decide
    rw [Int32.lt_iff_toInt_lt, hm]; omega
  have e1 : m.toNatClampNeg = n := by simp [Int32.toNatClampNeg, hm]
  obtain ⟨T2, h2, cA, X2, e2, E2, A2, st2⟩ := newP Y hx hZ w eh (g := mkF (owm k) pc Ls (.int m :: st)) rfl (Jvm.hb hby hd) rfl q (cap := cap) (by omega) hb hc hl
  exact (K T2 h2 h.size ⟨⟨locs, X2, N⟩, e2, hx, hZ, hown, hby, hr⟩ rfl E2 (AI.new A2 q hm)).of st2
theorem g_iastore (X : Sd l Z n0 y B ml rt R k T h cc ss) {a : Addr} {n : Nat} {f : Nat → Value} (A : AI Z h a .int n f) {j x : Int32} (i : Nat) (hj : j.toInt = i) (hi : i < n) (g0 : n0 ≤ a) (hd : decode B pc = .ok (.iastore, 1)) (pc' : Nat) (hp : pc + 1 = pc')
    (K : ∀ T' h', Sd l Z n0 y B ml rt R k T' h' cc ss → Wr h h' a i (.int x) → Go k n0 Q kc ks T' pc' Ls st) : Go k n0 Q kc ks T pc Ls (.int x :: .int j :: .ref a :: st) := by
  subst hp; obtain ⟨⟨locs, Y, N⟩, eh, hx, hZ, hown, hby, hr⟩ := X
  obtain ⟨c, A, r1, r2, r3⟩ := A; obtain ⟨q1, q2⟩ := ix_of hj hi
  obtain ⟨T2, h2, X2, e2, W2, st2⟩ := stI Y hx hZ eh A (j := j) (x := x) (by rw [r1]; exact q1) (g := mkF (owm k) pc Ls (.int x :: .int j :: .ref a :: st)) rfl rfl (Jvm.hb hby hd)
  rw [q2] at X2 W2
  exact (K T2 h2 ⟨⟨_, X2, Fr.snoc X2 N g0⟩, e2, hx, hZ, hown, hby, hr⟩ W2).of st2
theorem g_lastore (X : Sd l Z n0 y B ml rt R k T h cc ss) {a : Addr} {n : Nat} {f : Nat → Value} (A : AI Z h a .long n f) {j : Int32} {x : Int64} (i : Nat) (hj : j.toInt = i) (hi : i < n) (g0 : n0 ≤ a) (hd : decode B pc = .ok (.lastore, 1)) (pc' : Nat) (hp : pc + 1 = pc')
    (K : ∀ T' h', Sd l Z n0 y B ml rt R k T' h' cc ss → Wr h h' a i (.long x) → Go k n0 Q kc ks T' pc' Ls st) : Go k n0 Q kc ks T pc Ls (.long x :: .int j :: .ref a :: st) := by
  subst hp; obtain ⟨⟨locs, Y, N⟩, eh, hx, hZ, hown, hby, hr⟩ := X
  obtain ⟨c, A, r1, r2, r3⟩ := A; obtain ⟨q1, q2⟩ := ix_of hj hi
  obtain ⟨T2, h2, X2, e2, W2, st2⟩ := stJ Y hx hZ eh A (j := j) (x := x) (by rw [r1]; exact q1) (g := mkF (owm k) pc Ls (.long x :: .int j :: .ref a :: st)) rfl rfl (Jvm.hb hby hd)
  rw [q2] at X2 W2
  exact (K T2 h2 ⟨⟨_, X2, Fr.snoc X2 N g0⟩, e2, hx, hZ, hown, hby, hr⟩ W2).of st2
theorem g_bastore (X : Sd l Z n0 y B ml rt R k T h cc ss) {a : Addr} {n : Nat} {f : Nat → Value} (A : AI Z h a .byte n f) {j x : Int32} (i : Nat) (hj : j.toInt = i) (hi : i < n) (g0 : n0 ≤ a) (hd : decode B pc = .ok (.bastore, 1)) (pc' : Nat) (hp : pc + 1 = pc')
    (K : ∀ T' h', Sd l Z n0 y B ml rt R k T' h' cc ss → Wr h h' a i (.int x.toInt8.toInt32) → Go k n0 Q kc ks T' pc' Ls st) : Go k n0 Q kc ks T pc Ls (.int x :: .int j :: .ref a :: st) := by
  subst hp; obtain ⟨⟨locs, Y, N⟩, eh, hx, hZ, hown, hby, hr⟩ := X
  obtain ⟨c, A, r1, r2, r3⟩ := A; obtain ⟨q1, q2⟩ := ix_of hj hi
  obtain ⟨T2, h2, X2, e2, W2, st2⟩ := stB Y hx hZ eh A (j := j) (x := x) (by rw [r1]; exact q1) (g := mkF (owm k) pc Ls (.int x :: .int j :: .ref a :: st)) rfl rfl (Jvm.hb hby hd)
  rw [q2] at X2 W2
  exact (K T2 h2 ⟨⟨_, X2, Fr.snoc X2 N g0⟩, e2, hx, hZ, hown, hby, hr⟩ W2).of st2
/-! arrays of references of the class C -/
def AR (Z : State) (h : Heap) (a : Addr) (C : String) (n : Nat) (f : Nat → Value) : Prop := ∃ c : Cell, Arr Z h a c (.object C) ∧ Ovr Z c.cls C ∧ c.slots.size = n ∧ n < 2147483648 ∧ ∀ i, i < n → c.slots[i]? = some (f i)
theorem AR.ai {a : Addr} {C : String} {n : Nat} {f : Nat → Value} (A : AR Z h a C n f) : AI Z h a (.object C) n f := by obtain ⟨c, A, -, r⟩ := A; exact ⟨c, A, r⟩
theorem AR.lt {a : Addr} {C : String} {n : Nat} {f : Nat → Value} (A : AR Z h a C n f) : a < h.size := A.ai.lt
theorem AR.ext {h' : Heap} {a : Addr} {C : String} {n : Nat} {f : Nat → Value} (A : AR Z h a C n f) (E : Ext h h') : AR Z h' a C n f := by obtain ⟨c, A, r⟩ := A; exact ⟨c, A.ext E, r⟩
theorem AR.other {h' : Heap} {a b : Addr} {sl : Nat} {v : Value} {C : String} {n : Nat} {f : Nat → Value} (A : AR Z h a C n f) (W : Wr h h' b sl v) (q : a ≠ b) : AR Z h' a C n f := by obtain ⟨c, A, r⟩ := A; exact ⟨c, A.other W q, r⟩
theorem AR.keep {h' : Heap} {ws : List Addr} {a : Addr} {C : String} {n : Nat} {f : Nat → Value} (A : AR Z h a C n f) (K : Keep h h' ws) (q : a ∉ ws) : AR Z h' a C n f := by obtain ⟨c, A, r⟩ := A; exact ⟨c, ⟨K.2.1 a c A.1 q, A.2⟩, r⟩
theorem AR.to {a : Addr} {C : String} {n : Nat} {f g : Nat → Value} (A : AR Z h a C n f) (e : ∀ i, i < n → f i = g i) : AR Z h a C n g := by obtain ⟨c, A, r0, r1, r2, r3⟩ := A; exact ⟨c, A, r0, r1, r2, fun i hi => by rw [r3 i hi, e i hi]⟩
theorem AR.set {h' : Heap} {a : Addr} {C : String} {n i : Nat} {v : Value} {f : Nat → Value} (A : AR Z h a C n f) (W : Wr h h' a i v) : AR Z h' a C n (fun j => if j = i then v else f j) := by
  obtain ⟨c, A, r0, r1, r2, r3⟩ := A
  refine ⟨_, A.same W, r0, by rw [sz_set]; exact r1, r2, fun j hj => ?_⟩
  obtain ⟨c', q1, -, q3, -⟩ := W
  cases A.1.symm.trans q1
  by_cases e : j = i
  · subst e; simp [Cell.setSlot, r1, hj]
  · have e' : ¬ i = j := fun z => e z.symm
    simp [Cell.setSlot, Array.getElem?_setIfInBounds, e', e, r3 j hj]
theorem g_newR (X : Sd l Z n0 y B ml rt R k T h cc ss) {i : Nat} {C : String} (w1 : (Jvm.Cond.classLink y.cls i C).before a0 Z = true) (w2 : (Jvm.Cond.arrayOver (.object C)).before a0 Z = true) {m : Int32} (n cap : Nat) (hm : m.toInt = n) (hn : n ≤ cap) (hb : cap * 8 ≤ 536870912) (hd : decode B pc = .ok (.anewarray i, 3)) (hc : cc + 1 ≤ R.cells) (hl : ss + cap ≤ R.slots) (pc' : Nat) (hp : pc + 3 = pc')
    (K : ∀ T' h' a, Sd l Z n0 y B ml rt R k T' h' (cc + 1) (ss + cap) → a = h.size → Ext h h' → AR Z h' a C n (fun _ => .null) → Go k n0 Q kc ks T' pc' Ls (.ref a :: st)) : Go k n0 Q kc ks T pc Ls (.int m :: st) := by
  subst hp; obtain ⟨⟨locs, Y, N⟩, eh, hx, hZ, hown, hby, hr⟩ := X
  have q : ¬ m < 0 := by
    have e : (0 : Int32).toInt = 0 := by decide
    rw [Int32.lt_iff_toInt_lt, hm]; omega
  have e1 : m.toNatClampNeg = n := by simp [Int32.toNatClampNeg, hm]
  obtain ⟨T2, h2, cA, X2, e2, E2, A2, O2, st2⟩ := newR Y hx hZ hown w1 w2 eh (g := mkF (owm k) pc Ls (.int m :: st)) rfl (Jvm.hb hby hd) rfl q (cap := cap) (by omega) hb hc hl
  obtain ⟨c, A3, r1, r2, r3⟩ := AI.new A2 q hm
  cases A2.1.symm.trans A3.1
  exact (K T2 h2 h.size ⟨⟨locs, X2, N⟩, e2, hx, hZ, hown, hby, hr⟩ rfl E2 ⟨_, A2, O2, r1, r2, r3⟩).of st2
theorem g_aastore (X : Sd l Z n0 y B ml rt R k T h cc ss) {a b : Addr} {C : String} {n : Nat} {f : Nat → Value} (A : AR Z h a C n f) {j : Int32} (i : Nat) (hj : j.toInt = i) (hi : i < n) (I : Ins Z h b C true) (g0 : n0 ≤ a) (hd : decode B pc = .ok (.aastore, 1)) (pc' : Nat) (hp : pc + 1 = pc')
    (K : ∀ T' h', Sd l Z n0 y B ml rt R k T' h' cc ss → Wr h h' a i (.ref b) → Go k n0 Q kc ks T' pc' Ls st) : Go k n0 Q kc ks T pc Ls (.ref b :: .int j :: .ref a :: st) := by
  subst hp; obtain ⟨⟨locs, Y, N⟩, eh, hx, hZ, hown, hby, hr⟩ := X
  obtain ⟨c, A, r0, r1, r2, r3⟩ := A; obtain ⟨q1, q2⟩ := ix_of hj hi
  obtain ⟨T2, h2, X2, e2, W2, st2⟩ := stR Y hx hZ eh A (j := j) (v := .ref b) (by rw [r1]; exact q1) rfl (Sto.of A r0 I) (g := mkF (owm k) pc Ls (.ref b :: .int j :: .ref a :: st)) rfl rfl (Jvm.hb hby hd)
  rw [q2] at X2 W2
  exact (K T2 h2 ⟨⟨_, X2, Fr.snoc X2 N g0⟩, e2, hx, hZ, hown, hby, hr⟩ W2).of st2
theorem g_inst1 (X : Sd l Z n0 y B ml rt R k T h cc ss) {i : Nat} {C : String} {a : Addr} (w : (Jvm.Cond.classLink y.cls i C).before a0 Z = true) (I : Ins Z h a C true) (hd : decode B pc = .ok (.instanceof i, 3)) (pc' : Nat) (hp : pc + 3 = pc')
    (K : ∀ T', Sd l Z n0 y B ml rt R k T' h cc ss → Go k n0 Q kc ks T' pc' Ls (.int 1 :: st)) : Go k n0 Q kc ks T pc Ls (.ref a :: st) := by
  subst hp; obtain ⟨⟨locs, Y, N⟩, eh, hx, hZ, hown, hby, hr⟩ := X
  obtain ⟨T2, X2, e2, st2⟩ := instY Y hx hZ hown w eh I (g := mkF (owm k) pc Ls (.ref a :: st)) rfl rfl (Jvm.hb hby hd)
  exact (K T2 ⟨⟨locs, X2, N⟩, e2, hx, hZ, hown, hby, hr⟩).of st2
theorem g_inst0 (X : Sd l Z n0 y B ml rt R k T h cc ss) {i : Nat} {C D : String} {a : Addr} (w : (Jvm.Cond.classLink y.cls i C).before a0 Z = true) (E : Exa Z h a D) (F : ∃ c t, Z.vm.findClass D = some c ∧ Z.vm.findClass C = some t ∧ Z.vm.assignable c t = false) (hd : decode B pc = .ok (.instanceof i, 3)) (pc' : Nat) (hp : pc + 3 = pc')
    (K : ∀ T', Sd l Z n0 y B ml rt R k T' h cc ss → Go k n0 Q kc ks T' pc' Ls (.int 0 :: st)) : Go k n0 Q kc ks T pc Ls (.ref a :: st) := by
  subst hp; obtain ⟨⟨locs, Y, N⟩, eh, hx, hZ, hown, hby, hr⟩ := X
  obtain ⟨T2, X2, e2, st2⟩ := instNo Y hx hZ hown w eh E F (g := mkF (owm k) pc Ls (.ref a :: st)) rfl rfl (Jvm.hb hby hd)
  exact (K T2 ⟨⟨locs, X2, N⟩, e2, hx, hZ, hown, hby, hr⟩).of st2
theorem g_instN (X : Sd l Z n0 y B ml rt R k T h cc ss) {i : Nat} (hd : decode B pc = .ok (.instanceof i, 3)) (pc' : Nat) (hp : pc + 3 = pc') (K : Go k n0 Q kc ks T pc' Ls (.int 0 :: st)) : Go k n0 Q kc ks T pc Ls (.null :: st) := by
  subst hp; obtain ⟨⟨locs, Y, N⟩, eh, hx, hZ, hown, hby, hr⟩ := X
  exact K.of fun t q => Y.instanceofNull hx (g := mkF (owm k) pc Ls (.null :: st)) rfl rfl (Jvm.hb hby hd) t q
theorem g_cast (X : Sd l Z n0 y B ml rt R k T h cc ss) {i : Nat} {C : String} {a : Addr} (w : (Jvm.Cond.classLink y.cls i C).before a0 Z = true) (I : Ins Z h a C true) (hd : decode B pc = .ok (.checkcast i, 3)) (pc' : Nat) (hp : pc + 3 = pc')
    (K : ∀ T', Sd l Z n0 y B ml rt R k T' h cc ss → Go k n0 Q kc ks T' pc' Ls (.ref a :: st)) : Go k n0 Q kc ks T pc Ls (.ref a :: st) := by
  subst hp; obtain ⟨⟨locs, Y, N⟩, eh, hx, hZ, hown, hby, hr⟩ := X
  obtain ⟨T2, X2, e2, st2⟩ := castY Y hx hZ hown w eh I (g := mkF (owm k) pc Ls (.ref a :: st)) rfl rfl (Jvm.hb hby hd)
  exact (K T2 ⟨⟨locs, X2, N⟩, e2, hx, hZ, hown, hby, hr⟩).of st2
end Ow
theorem own_i0 : (0 : Int32).toInt = 0 := by decide
theorem own_i1 : (1 : Int32).toInt = 1 := by decide
theorem own_b1 : ((1 : Int32) &&& 1) = 1 := by decide
theorem own_b0 : ((0 : Int32) &&& 1) = 0 := by decide
theorem own_one : (some (Value.int ((1 : Int32) &&& 1))) = some (.int 1) := congrArg (fun z => some (Value.int z)) own_b1
theorem w0 {Z : State} {a0 : Array Value} (hw : ∀ d ∈ tables_1, d.before a0 Z = true) : (Jvm.Cond.arrayClass Jvm.ClassFile.FieldType.byte).before a0 Z = true := hw _ (List.mem_of_getElem? (i := 0) rfl)
theorem w1 {Z : State} {a0 : Array Value} (hw : ∀ d ∈ tables_1, d.before a0 Z = true) : (Jvm.Cond.methodLink "com/example/test_collection_measures/testcollectionmeasures/InputFileIsDecimalPinLaw" (7 : Nat) ({ cls := "com/example/test_collection_measures/testcollectionmeasures/InputFileIsDecimalPinLaw", name := "gen", desc := "(JJI)B" } : Jvm.MethodName)).before a0 Z = true := hw _ (List.mem_of_getElem? (i := 1) rfl)
theorem w2 {Z : State} {a0 : Array Value} (hw : ∀ d ∈ tables_1, d.before a0 Z = true) : (Jvm.Cond.static ({ cls := "com/example/test_collection_measures/testcollectionmeasures/InputFileIsDecimalPinLaw", name := "gen", desc := "(JJI)B" } : Jvm.MethodName)).before a0 Z = true := hw _ (List.mem_of_getElem? (i := 2) rfl)
theorem w3 {Z : State} {a0 : Array Value} (hw : ∀ d ∈ tables_1, d.before a0 Z = true) : (Jvm.Cond.initialized "com/example/test_collection_measures/testcollectionmeasures/InputFileIsDecimalPinLaw").before a0 Z = true := hw _ (List.mem_of_getElem? (i := 3) rfl)
theorem w4 {Z : State} {a0 : Array Value} (hw : ∀ d ∈ tables_1, d.before a0 Z = true) : (Jvm.Cond.code ({ cls := "com/example/test_collection_measures/testcollectionmeasures/InputFileIsDecimalPinLaw", name := "gen", desc := "(JJI)B" } : Jvm.MethodName) method_3_code (7 : Nat) (Option.some Jvm.ClassFile.FieldType.byte)).before a0 Z = true := hw _ (List.mem_of_getElem? (i := 4) rfl)
theorem w5 {Z : State} {a0 : Array Value} (hw : ∀ d ∈ tables_1, d.before a0 Z = true) : (Jvm.Cond.constant "com/example/test_collection_measures/testcollectionmeasures/InputFileIsDecimalPinLaw" (13 : Nat) (2147483647 : Int32)).before a0 Z = true := hw _ (List.mem_of_getElem? (i := 5) rfl)
theorem w6 {Z : State} {a0 : Array Value} (hw : ∀ d ∈ tables_1, d.before a0 Z = true) : (Jvm.Cond.methodLink "com/example/test_collection_measures/testcollectionmeasures/InputFileIsDecimalPinLaw" (14 : Nat) ({ cls := "com/example/test_collection_measures/testcollectionmeasures/InputFileIsDecimalPinLaw", name := "step", desc := "(I[BII)I" } : Jvm.MethodName)).before a0 Z = true := hw _ (List.mem_of_getElem? (i := 6) rfl)
theorem w7 {Z : State} {a0 : Array Value} (hw : ∀ d ∈ tables_1, d.before a0 Z = true) : (Jvm.Cond.static ({ cls := "com/example/test_collection_measures/testcollectionmeasures/InputFileIsDecimalPinLaw", name := "step", desc := "(I[BII)I" } : Jvm.MethodName)).before a0 Z = true := hw _ (List.mem_of_getElem? (i := 7) rfl)
theorem w8 {Z : State} {a0 : Array Value} (hw : ∀ d ∈ tables_1, d.before a0 Z = true) : (Jvm.Cond.code ({ cls := "com/example/test_collection_measures/testcollectionmeasures/InputFileIsDecimalPinLaw", name := "step", desc := "(I[BII)I" } : Jvm.MethodName) method_5_code (5 : Nat) (Option.some Jvm.ClassFile.FieldType.int)).before a0 Z = true := hw _ (List.mem_of_getElem? (i := 8) rfl)
theorem w9 {Z : State} {a0 : Array Value} (hw : ∀ d ∈ tables_1, d.before a0 Z = true) : (Jvm.Cond.methodLink "com/example/test_collection_measures/testcollectionmeasures/InputFileIsDecimalPinLaw" (24 : Nat) ({ cls := "com/example/test_collection_measures/testcollectionmeasures/InputFileIsDecimalPinLaw", name := "kind", desc := "(B)I" } : Jvm.MethodName)).before a0 Z = true := hw _ (List.mem_of_getElem? (i := 9) rfl)
theorem w10 {Z : State} {a0 : Array Value} (hw : ∀ d ∈ tables_1, d.before a0 Z = true) : (Jvm.Cond.static ({ cls := "com/example/test_collection_measures/testcollectionmeasures/InputFileIsDecimalPinLaw", name := "kind", desc := "(B)I" } : Jvm.MethodName)).before a0 Z = true := hw _ (List.mem_of_getElem? (i := 10) rfl)
theorem w11 {Z : State} {a0 : Array Value} (hw : ∀ d ∈ tables_1, d.before a0 Z = true) : (Jvm.Cond.code ({ cls := "com/example/test_collection_measures/testcollectionmeasures/InputFileIsDecimalPinLaw", name := "kind", desc := "(B)I" } : Jvm.MethodName) method_4_code (1 : Nat) (Option.some Jvm.ClassFile.FieldType.int)).before a0 Z = true := hw _ (List.mem_of_getElem? (i := 11) rfl)
theorem w12 {Z : State} {a0 : Array Value} (hw : ∀ d ∈ tables_1, d.before a0 Z = true) : (Jvm.Cond.methodLink "com/example/test_collection_measures/testcollectionmeasures/InputFileIsDecimalPinLaw" (18 : Nat) ({ cls := "com/example/test_collection_measures/testcollectionmeasures/InputFile", name := "isDecimal", desc := "([BII)Z" } : Jvm.MethodName)).before a0 Z = true := hw _ (List.mem_of_getElem? (i := 12) rfl)
theorem w13 {Z : State} {a0 : Array Value} (hw : ∀ d ∈ tables_1, d.before a0 Z = true) : (Jvm.Cond.static ({ cls := "com/example/test_collection_measures/testcollectionmeasures/InputFile", name := "isDecimal", desc := "([BII)Z" } : Jvm.MethodName)).before a0 Z = true := hw _ (List.mem_of_getElem? (i := 13) rfl)
theorem w14 {Z : State} {a0 : Array Value} (hw : ∀ d ∈ tables_1, d.before a0 Z = true) : (Jvm.Cond.initialized "com/example/test_collection_measures/testcollectionmeasures/InputFile").before a0 Z = true := hw _ (List.mem_of_getElem? (i := 14) rfl)
theorem w15 {Z : State} {a0 : Array Value} (hw : ∀ d ∈ tables_1, d.before a0 Z = true) : (Jvm.Cond.code ({ cls := "com/example/test_collection_measures/testcollectionmeasures/InputFile", name := "isDecimal", desc := "([BII)Z" } : Jvm.MethodName) prog_13_method_11_code (7 : Nat) (Option.some Jvm.ClassFile.FieldType.boolean)).before a0 Z = true := hw _ (List.mem_of_getElem? (i := 15) rfl)
theorem w16 {Z : State} {a0 : Array Value} (hw : ∀ d ∈ tables_1, d.before a0 Z = true) : (Jvm.Cond.methodLink "com/example/test_collection_measures/testcollectionmeasures/InputFile" (178 : Nat) ({ cls := "com/example/test_collection_measures/testcollectionmeasures/InputFile", name := "signEnd", desc := "([BII)I" } : Jvm.MethodName)).before a0 Z = true := hw _ (List.mem_of_getElem? (i := 16) rfl)
theorem w17 {Z : State} {a0 : Array Value} (hw : ∀ d ∈ tables_1, d.before a0 Z = true) : (Jvm.Cond.static ({ cls := "com/example/test_collection_measures/testcollectionmeasures/InputFile", name := "signEnd", desc := "([BII)I" } : Jvm.MethodName)).before a0 Z = true := hw _ (List.mem_of_getElem? (i := 17) rfl)
theorem w18 {Z : State} {a0 : Array Value} (hw : ∀ d ∈ tables_1, d.before a0 Z = true) : (Jvm.Cond.code ({ cls := "com/example/test_collection_measures/testcollectionmeasures/InputFile", name := "signEnd", desc := "([BII)I" } : Jvm.MethodName) prog_13_method_12_code (4 : Nat) (Option.some Jvm.ClassFile.FieldType.int)).before a0 Z = true := hw _ (List.mem_of_getElem? (i := 18) rfl)
theorem w19 {Z : State} {a0 : Array Value} (hw : ∀ d ∈ tables_1, d.before a0 Z = true) : (Jvm.Cond.methodLink "com/example/test_collection_measures/testcollectionmeasures/InputFile" (182 : Nat) ({ cls := "com/example/test_collection_measures/testcollectionmeasures/InputFile", name := "digitsEnd", desc := "([BII)I" } : Jvm.MethodName)).before a0 Z = true := hw _ (List.mem_of_getElem? (i := 19) rfl)
theorem w20 {Z : State} {a0 : Array Value} (hw : ∀ d ∈ tables_1, d.before a0 Z = true) : (Jvm.Cond.static ({ cls := "com/example/test_collection_measures/testcollectionmeasures/InputFile", name := "digitsEnd", desc := "([BII)I" } : Jvm.MethodName)).before a0 Z = true := hw _ (List.mem_of_getElem? (i := 20) rfl)
theorem w21 {Z : State} {a0 : Array Value} (hw : ∀ d ∈ tables_1, d.before a0 Z = true) : (Jvm.Cond.code ({ cls := "com/example/test_collection_measures/testcollectionmeasures/InputFile", name := "digitsEnd", desc := "([BII)I" } : Jvm.MethodName) prog_13_method_13_code (4 : Nat) (Option.some Jvm.ClassFile.FieldType.int)).before a0 Z = true := hw _ (List.mem_of_getElem? (i := 21) rfl)
theorem pd0 : parseMethodDescriptor "(B)I" = some ⟨[.byte], some .int⟩ := by decide +kernel
theorem pd1 : parseMethodDescriptor "([BII)I" = some ⟨[(.array .byte), .int, .int], some .int⟩ := by decide +kernel
theorem pd2 : parseMethodDescriptor "(JJI)B" = some ⟨[.long, .long, .int], some .byte⟩ := by decide +kernel
theorem pd3 : parseMethodDescriptor "(I[BII)I" = some ⟨[.int, (.array .byte), .int, .int], some .int⟩ := by decide +kernel
theorem pd4 : parseMethodDescriptor "([BII)Z" = some ⟨[(.array .byte), .int, .int], some .boolean⟩ := by decide +kernel
theorem pn0 : Jvm.plainFor (⟨"com/example/test_collection_measures/testcollectionmeasures/InputFileIsDecimalPinLaw", "gen", "(JJI)B"⟩ : MethodName) = true := by first | exact plainFor_of_name (by first | (simp [Jvm.plainName, overriddenIn]; done) | decide +kernel) | decide +kernel
theorem pn1 : Jvm.plainFor (⟨"com/example/test_collection_measures/testcollectionmeasures/InputFileIsDecimalPinLaw", "kind", "(B)I"⟩ : MethodName) = true := by first | exact plainFor_of_name (by first | (simp [Jvm.plainName, overriddenIn]; done) | decide +kernel) | decide +kernel
theorem pn2 : Jvm.plainFor (⟨"com/example/test_collection_measures/testcollectionmeasures/InputFileIsDecimalPinLaw", "step", "(I[BII)I"⟩ : MethodName) = true := by first | exact plainFor_of_name (by first | (simp [Jvm.plainName, overriddenIn]; done) | decide +kernel) | decide +kernel
theorem pn3 : Jvm.plainFor (⟨"com/example/test_collection_measures/testcollectionmeasures/InputFile", "signEnd", "([BII)I"⟩ : MethodName) = true := by first | exact plainFor_of_name (by first | (simp [Jvm.plainName, overriddenIn]; done) | decide +kernel) | decide +kernel
theorem pn4 : Jvm.plainFor (⟨"com/example/test_collection_measures/testcollectionmeasures/InputFile", "digitsEnd", "([BII)I"⟩ : MethodName) = true := by first | exact plainFor_of_name (by first | (simp [Jvm.plainName, overriddenIn]; done) | decide +kernel) | decide +kernel
theorem pn5 : Jvm.plainFor (⟨"com/example/test_collection_measures/testcollectionmeasures/InputFile", "isDecimal", "([BII)Z"⟩ : MethodName) = true := by first | exact plainFor_of_name (by first | (simp [Jvm.plainName, overriddenIn]; done) | decide +kernel) | decide +kernel
theorem pn6 : Jvm.plainFor (⟨"com/example/test_collection_measures/testcollectionmeasures/InputFileIsDecimalPinLaw", "law", "(JJII)Z"⟩ : MethodName) = true := by first | exact plainFor_of_name (by first | (simp [Jvm.plainName, overriddenIn]; done) | decide +kernel) | decide +kernel
abbrev isD (c : Int32) : Prop := ¬ c < 48 ∧ ¬ 57 < c
def kd (c : Int32) : Int32 := if isD c then 0 else if c = 43 ∨ c = 45 then 1 else if c = 46 then 2 else if c = 101 ∨ c = 69 then 3 else 4
def dlt (s c : Int32) : Int32 :=
  if s = 0 then (if c = 1 then 1 else if c = 0 then 2 else 8)
  else if s = 1 then (if c = 0 then 2 else 8)
  else if s = 2 then (if c = 0 then 2 else if c = 2 then 3 else if c = 3 then 5 else 8)
  else if s = 3 then (if c = 0 then 4 else 8)
  else if s = 4 then (if c = 0 then 4 else if c = 3 then 5 else 8)
  else if s = 5 then (if c = 1 then 6 else if c = 0 then 7 else 8)
  else if s = 6 then (if c = 0 then 7 else 8)
  else if s = 7 then (if c = 0 then 7 else 8)
  else 8
def stp (f : Nat → Int32) (e : Nat) (s : Int32) (i : Nat) : Int32 := if i < e then dlt s (kd (f i)) else s
def runN (f : Nat → Int32) (e : Nat) : Nat → Nat → Int32 → Int32
  | 0, _, s => s
  | n + 1, i, s => runN f e n (i + 1) (stp f e s i)
def dGo (f : Nat → Int32) (e : Nat) : Nat → Nat → Nat
  | 0, i => i
  | n + 1, i => if i < e ∧ isD (f i) then dGo f e n (i + 1) else i
def dEnd (f : Nat → Int32) (e i : Nat) : Nat := dGo f e (e - i) i
def sEnd (f : Nat → Int32) (e i : Nat) : Nat := if i < e ∧ (f i = 43 ∨ f i = 45) then i + 1 else i
theorem dEnd_step {f : Nat → Int32} {e i : Nat} (h : i < e) (hd : isD (f i)) : dEnd f e i = dEnd f e (i + 1) := by
  unfold dEnd
  have q : e - i = (e - (i + 1)) + 1 := by omega
  rw [q, dGo, if_pos ⟨h, hd⟩]
theorem dEnd_stop {f : Nat → Int32} {e i : Nat} (h : ¬ (i < e ∧ isD (f i))) : dEnd f e i = i := by
  unfold dEnd
  cases e - i with
  | zero => rfl
  | succ n => rw [dGo, if_neg h]
theorem dEnd_ge {f : Nat → Int32} {e : Nat} : ∀ (n i : Nat), n = e - i → i ≤ dEnd f e i ∧ (i ≤ e → dEnd f e i ≤ e) := by
  intro n; induction n with
  | zero => intro i h; have q : dEnd f e i = i := dEnd_stop (by omega); rw [q]; exact ⟨Nat.le_refl _, id⟩
  | succ n ih =>
    intro i h
    by_cases c : i < e ∧ isD (f i)
    · rw [dEnd_step c.1 c.2]; have := ih (i + 1) (by omega); exact ⟨by omega, fun q => this.2 (by omega)⟩
    · rw [dEnd_stop c]; exact ⟨Nat.le_refl _, id⟩
def acc (s : Int32) : Prop := s = 2 ∨ s = 4 ∨ s = 7
def tail2 (f : Nat → Int32) (e j : Nat) : Prop := if j < e ∧ (f j = 101 ∨ f j = 69) then (¬ dEnd f e (sEnd f e (j + 1)) = sEnd f e (j + 1) ∧ dEnd f e (sEnd f e (j + 1)) = e) else j = e
def tail1 (f : Nat → Int32) (e j : Nat) : Prop := if j < e ∧ f j = 46 then (¬ dEnd f e (j + 1) = j + 1 ∧ tail2 f e (dEnd f e (j + 1))) else tail2 f e j
def dec (f : Nat → Int32) (e i : Nat) : Prop := ¬ dEnd f e (sEnd f e i) = sEnd f e i ∧ tail1 f e (dEnd f e (sEnd f e i))
section
variable {f : Nat → Int32} {e : Nat}
theorem run_end : ∀ (n i : Nat) (s : Int32), e ≤ i → runN f e n i s = s := by
  intro n; induction n with
  | zero => intro i s _; rfl
  | succ n ih => intro i s h; rw [runN, ih _ _ (by omega)]; unfold stp; rw [if_neg (by omega)]
theorem dlt8 (c : Int32) : dlt 8 c = 8 := by unfold dlt; simp
theorem run8 : ∀ (n i : Nat), runN f e n i 8 = 8 := by
  intro n; induction n with
  | zero => intro i; rfl
  | succ n ih => intro i; rw [runN]; unfold stp; split <;> simp only [dlt8, ih]
theorem nacc8 : ¬ acc 8 := by unfold acc; decide
/-- kinds -/
theorem kd0 {c : Int32} (h : isD c) : kd c = 0 := by unfold kd; rw [if_pos h]
theorem kd_cases (c : Int32) : (isD c ∧ kd c = 0 ∧ ¬ (c = 43 ∨ c = 45) ∧ ¬ c = 46 ∧ ¬ (c = 101 ∨ c = 69)) ∨ (¬ isD c ∧ (c = 43 ∨ c = 45) ∧ kd c = 1 ∧ ¬ c = 46 ∧ ¬ (c = 101 ∨ c = 69)) ∨ (¬ isD c ∧ ¬ (c = 43 ∨ c = 45) ∧ c = 46 ∧ kd c = 2 ∧ ¬ (c = 101 ∨ c = 69)) ∨ (¬ isD c ∧ ¬ (c = 43 ∨ c = 45) ∧ ¬ c = 46 ∧ (c = 101 ∨ c = 69) ∧ kd c = 3) ∨ (¬ isD c ∧ ¬ (c = 43 ∨ c = 45) ∧ ¬ c = 46 ∧ ¬ (c = 101 ∨ c = 69) ∧ kd c = 4) := by
  by_cases h1 : isD c
  · refine Or.inl ⟨h1, kd0 h1, ?_, ?_, ?_⟩
    · rintro (rfl | rfl) <;> exact absurd h1 (by decide)
    · rintro rfl; exact absurd h1 (by decide)
    · rintro (rfl | rfl) <;> exact absurd h1 (by decide)
  · refine Or.inr ?_
    by_cases h2 : c = 43 ∨ c = 45
    · refine Or.inl ⟨h1, h2, by unfold kd; rw [if_neg h1, if_pos h2], ?_, ?_⟩ <;> rcases h2 with rfl | rfl <;> decide
    · refine Or.inr ?_
      by_cases h3 : c = 46
      · refine Or.inl ⟨h1, h2, h3, by unfold kd; rw [if_neg h1, if_neg h2, if_pos h3], ?_⟩; subst h3; decide
      · refine Or.inr ?_
        by_cases h4 : c = 101 ∨ c = 69
        · exact Or.inl ⟨h1, h2, h3, h4, by unfold kd; rw [if_neg h1, if_neg h2, if_neg h3, if_pos h4]⟩
        · exact Or.inr ⟨h1, h2, h3, h4, by unfold kd; rw [if_neg h1, if_neg h2, if_neg h3, if_neg h4]⟩
theorem kd_ne0 {c : Int32} (h : ¬ isD c) : ¬ kd c = 0 := by
  rcases kd_cases c with q | q | q | q | q
  · exact absurd q.1 h
  · rw [q.2.2.1]; decide
  · rw [q.2.2.2.1]; decide
  · rw [q.2.2.2.2]; decide
  · rw [q.2.2.2.2]; decide
theorem kd_ne1 {c : Int32} (h : ¬ (c = 43 ∨ c = 45)) : ¬ kd c = 1 := by
  rcases kd_cases c with q | q | q | q | q
  · rw [q.2.1]; decide
  · exact absurd q.2.1 h
  · rw [q.2.2.2.1]; decide
  · rw [q.2.2.2.2]; decide
  · rw [q.2.2.2.2]; decide
theorem run_s {n i : Nat} {s t : Int32} (h : i < e) (ht : dlt s (kd (f i)) = t) : runN f e (n + 1) i s = runN f e n (i + 1) t := by
  rw [runN]; unfold stp; rw [if_pos h, ht]
theorem acc7 : ∀ (n i : Nat), e - i ≤ n → i ≤ e → (acc (runN f e n i 7) ↔ dEnd f e i = e) := by
  intro n; induction n with
  | zero => intro i h h2; rw [dEnd_stop (by omega)]; exact ⟨fun _ => by omega, fun _ => Or.inr (Or.inr rfl)⟩
  | succ n ih =>
    intro i h h2
    by_cases c : i < e
    · by_cases d : isD (f i)
      · rw [run_s (t := 7) c (by rw [kd0 d]; decide), dEnd_step c d]; exact ih _ (by omega) (by omega)
      · have k : ¬ kd (f i) = 0 := kd_ne0 d
        rw [run_s (t := 8) c (by unfold dlt; simp [k]), run8, dEnd_stop (fun q => d q.2)]
        exact ⟨fun q => absurd q nacc8, fun q => by omega⟩
    · rw [run_end _ _ _ (by omega), dEnd_stop (by omega)]; exact ⟨fun _ => by omega, fun _ => Or.inr (Or.inr rfl)⟩
theorem acc6 (n i : Nat) (h : e - i ≤ n) (h2 : i ≤ e) : acc (runN f e n i 6) ↔ (¬ dEnd f e i = i ∧ dEnd f e i = e) := by
  by_cases c : i < e
  · obtain ⟨n, rfl⟩ : ∃ m, n = m + 1 := ⟨n - 1, by omega⟩
    by_cases d : isD (f i)
    · rw [run_s (t := 7) c (by rw [kd0 d]; decide), dEnd_step c d, acc7 _ _ (by omega) (by omega)]
      have := (dEnd_ge (f := f) (e := e) _ (i + 1) rfl).1
      exact ⟨fun q => ⟨by omega, q⟩, fun q => q.2⟩
    · have k : ¬ kd (f i) = 0 := kd_ne0 d
      rw [run_s (t := 8) c (by unfold dlt; simp [k]), run8, dEnd_stop (fun q => d q.2)]
      exact ⟨fun q => absurd q nacc8, fun q => absurd rfl q.1⟩
  · rw [run_end _ _ _ (by omega), dEnd_stop (by omega)]; exact ⟨fun q => absurd q (by unfold acc; decide), fun q => absurd rfl q.1⟩
theorem acc5 (n i : Nat) (h : e - i ≤ n) (h2 : i ≤ e) : acc (runN f e n i 5) ↔ (¬ dEnd f e (sEnd f e i) = sEnd f e i ∧ dEnd f e (sEnd f e i) = e) := by
  by_cases c : i < e
  · obtain ⟨n, rfl⟩ : ∃ m, n = m + 1 := ⟨n - 1, by omega⟩
    rcases kd_cases (f i) with q | q | q | q | q
    · rw [run_s (t := 7) c (by rw [q.2.1]; decide), acc7 _ _ (by omega) (by omega)]
      have e1 : sEnd f e i = i := by unfold sEnd; rw [if_neg (fun z => q.2.2.1 z.2)]
      rw [e1, dEnd_step c q.1]
      have := (dEnd_ge (f := f) (e := e) _ (i + 1) rfl).1
      exact ⟨fun q => ⟨by omega, q⟩, fun q => q.2⟩
    · rw [run_s (t := 6) c (by rw [q.2.2.1]; decide), acc6 _ _ (by omega) (by omega)]
      have e1 : sEnd f e i = i + 1 := by unfold sEnd; rw [if_pos ⟨c, q.2.1⟩]
      rw [e1]
    all_goals
      have e1 : sEnd f e i = i := by unfold sEnd; rw [if_neg (fun z => q.2.1 z.2)]
      have k1 : ¬ kd (f i) = 0 := kd_ne0 q.1
      have k2 : ¬ kd (f i) = 1 := kd_ne1 q.2.1
      rw [run_s (t := 8) c (by unfold dlt; simp [k1, k2]), run8, e1, dEnd_stop (fun z => q.1 z.2)]
      exact ⟨fun q => absurd q nacc8, fun q => absurd rfl q.1⟩
  · have e1 : sEnd f e i = i := by unfold sEnd; rw [if_neg (fun z => c z.1)]
    rw [run_end _ _ _ (by omega), e1, dEnd_stop (by omega)]; exact ⟨fun q => absurd q (by unfold acc; decide), fun q => absurd rfl q.1⟩
theorem acc4 : ∀ (n i : Nat), e - i ≤ n → i ≤ e → (acc (runN f e n i 4) ↔ tail2 f e (dEnd f e i)) := by
  intro n; induction n with
  | zero => intro i h h2; rw [dEnd_stop (by omega)]; unfold tail2; rw [if_neg (by omega)]; exact ⟨fun _ => by omega, fun _ => Or.inr (Or.inl rfl)⟩
  | succ n ih =>
    intro i h h2
    by_cases c : i < e
    · rcases kd_cases (f i) with q | q | q | q | q
      · rw [run_s (t := 4) c (by rw [q.2.1]; decide), dEnd_step c q.1]; exact ih _ (by omega) (by omega)
      · rw [run_s (t := 8) c (by rw [q.2.2.1]; decide), run8, dEnd_stop (fun z => q.1 z.2)]; unfold tail2; rw [if_neg (fun z => q.2.2.2.2 z.2)]
        exact ⟨fun q => absurd q nacc8, fun q => by omega⟩
      · rw [run_s (t := 8) c (by rw [q.2.2.2.1]; decide), run8, dEnd_stop (fun z => q.1 z.2)]; unfold tail2; rw [if_neg (fun z => q.2.2.2.2 z.2)]
        exact ⟨fun q => absurd q nacc8, fun q => by omega⟩
      · rw [run_s (t := 5) c (by rw [q.2.2.2.2]; decide), dEnd_stop (fun z => q.1 z.2), acc5 _ _ (by omega) (by omega)]; unfold tail2; rw [if_pos ⟨c, q.2.2.2.1⟩]
      · rw [run_s (t := 8) c (by rw [q.2.2.2.2]; decide), run8, dEnd_stop (fun z => q.1 z.2)]; unfold tail2; rw [if_neg (fun z => q.2.2.2.1 z.2)]
        exact ⟨fun q => absurd q nacc8, fun q => by omega⟩
    · rw [run_end _ _ _ (by omega), dEnd_stop (by omega)]; unfold tail2; rw [if_neg (by omega)]; exact ⟨fun _ => by omega, fun _ => Or.inr (Or.inl rfl)⟩
theorem acc3 (n i : Nat) (h : e - i ≤ n) (h2 : i ≤ e) : acc (runN f e n i 3) ↔ (¬ dEnd f e i = i ∧ tail2 f e (dEnd f e i)) := by
  by_cases c : i < e
  · obtain ⟨n, rfl⟩ : ∃ m, n = m + 1 := ⟨n - 1, by omega⟩
    by_cases d : isD (f i)
    · rw [run_s (t := 4) c (by rw [kd0 d]; decide), dEnd_step c d, acc4 _ _ (by omega) (by omega)]
      have := (dEnd_ge (f := f) (e := e) _ (i + 1) rfl).1
      exact ⟨fun q => ⟨by omega, q⟩, fun q => q.2⟩
    · have k : ¬ kd (f i) = 0 := kd_ne0 d
      rw [run_s (t := 8) c (by unfold dlt; simp [k]), run8, dEnd_stop (fun q => d q.2)]
      exact ⟨fun q => absurd q nacc8, fun q => absurd rfl q.1⟩
  · rw [run_end _ _ _ (by omega), dEnd_stop (by omega)]; exact ⟨fun q => absurd q (by unfold acc; decide), fun q => absurd rfl q.1⟩
theorem acc2 : ∀ (n i : Nat), e - i ≤ n → i ≤ e → (acc (runN f e n i 2) ↔ tail1 f e (dEnd f e i)) := by
  intro n; induction n with
  | zero => intro i h h2; rw [dEnd_stop (by omega)]; unfold tail1 tail2; rw [if_neg (by omega), if_neg (by omega)]; exact ⟨fun _ => by omega, fun _ => Or.inl rfl⟩
  | succ n ih =>
    intro i h h2
    by_cases c : i < e
    · rcases kd_cases (f i) with q | q | q | q | q
      · rw [run_s (t := 2) c (by rw [q.2.1]; decide), dEnd_step c q.1]; exact ih _ (by omega) (by omega)
      · rw [run_s (t := 8) c (by rw [q.2.2.1]; decide), run8, dEnd_stop (fun z => q.1 z.2)]; unfold tail1 tail2; rw [if_neg (fun z => q.2.2.2.1 z.2), if_neg (fun z => q.2.2.2.2 z.2)]
        exact ⟨fun q => absurd q nacc8, fun q => by omega⟩
      · rw [run_s (t := 3) c (by rw [q.2.2.2.1]; decide), dEnd_stop (fun z => q.1 z.2), acc3 _ _ (by omega) (by omega)]; unfold tail1; rw [if_pos ⟨c, q.2.2.1⟩]
      · rw [run_s (t := 5) c (by rw [q.2.2.2.2]; decide), dEnd_stop (fun z => q.1 z.2), acc5 _ _ (by omega) (by omega)]; unfold tail1 tail2; rw [if_neg (fun z => q.2.2.1 z.2), if_pos ⟨c, q.2.2.2.1⟩]
      · rw [run_s (t := 8) c (by rw [q.2.2.2.2]; decide), run8, dEnd_stop (fun z => q.1 z.2)]; unfold tail1 tail2; rw [if_neg (fun z => q.2.2.1 z.2), if_neg (fun z => q.2.2.2.1 z.2)]
        exact ⟨fun q => absurd q nacc8, fun q => by omega⟩
    · rw [run_end _ _ _ (by omega), dEnd_stop (by omega)]; unfold tail1 tail2; rw [if_neg (by omega), if_neg (by omega)]; exact ⟨fun _ => by omega, fun _ => Or.inl rfl⟩
theorem acc1 (n i : Nat) (h : e - i ≤ n) (h2 : i ≤ e) : acc (runN f e n i 1) ↔ (¬ dEnd f e i = i ∧ tail1 f e (dEnd f e i)) := by
  by_cases c : i < e
  · obtain ⟨n, rfl⟩ : ∃ m, n = m + 1 := ⟨n - 1, by omega⟩
    by_cases d : isD (f i)
    · rw [run_s (t := 2) c (by rw [kd0 d]; decide), dEnd_step c d, acc2 _ _ (by omega) (by omega)]
      have := (dEnd_ge (f := f) (e := e) _ (i + 1) rfl).1
      exact ⟨fun q => ⟨by omega, q⟩, fun q => q.2⟩
    · have k : ¬ kd (f i) = 0 := kd_ne0 d
      rw [run_s (t := 8) c (by unfold dlt; simp [k]), run8, dEnd_stop (fun q => d q.2)]
      exact ⟨fun q => absurd q nacc8, fun q => absurd rfl q.1⟩
  · rw [run_end _ _ _ (by omega), dEnd_stop (by omega)]; exact ⟨fun q => absurd q (by unfold acc; decide), fun q => absurd rfl q.1⟩
theorem acc0 (n i : Nat) (h : e - i ≤ n) (h2 : i ≤ e) : acc (runN f e n i 0) ↔ dec f e i := by
  unfold dec
  by_cases c : i < e
  · obtain ⟨n, rfl⟩ : ∃ m, n = m + 1 := ⟨n - 1, by omega⟩
    rcases kd_cases (f i) with q | q | q | q | q
    · rw [run_s (t := 2) c (by rw [q.2.1]; decide), acc2 _ _ (by omega) (by omega)]
      have e1 : sEnd f e i = i := by unfold sEnd; rw [if_neg (fun z => q.2.2.1 z.2)]
      rw [e1, dEnd_step c q.1]
      have := (dEnd_ge (f := f) (e := e) _ (i + 1) rfl).1
      exact ⟨fun q => ⟨by omega, q⟩, fun q => q.2⟩
    · rw [run_s (t := 1) c (by rw [q.2.2.1]; decide), acc1 _ _ (by omega) (by omega)]
      have e1 : sEnd f e i = i + 1 := by unfold sEnd; rw [if_pos ⟨c, q.2.1⟩]
      rw [e1]
    all_goals
      have e1 : sEnd f e i = i := by unfold sEnd; rw [if_neg (fun z => q.2.1 z.2)]
      have k1 : ¬ kd (f i) = 0 := kd_ne0 q.1
      have k2 : ¬ kd (f i) = 1 := kd_ne1 q.2.1
      rw [run_s (t := 8) c (by unfold dlt; simp [k1, k2]), run8, e1, dEnd_stop (fun z => q.1 z.2)]
      exact ⟨fun q => absurd q nacc8, fun q => absurd rfl q.1⟩
  · have e1 : sEnd f e i = i := by unfold sEnd; rw [if_neg (fun z => c z.1)]
    rw [run_end _ _ _ (by omega), e1, dEnd_stop (by omega)]; exact ⟨fun q => absurd q (by unfold acc; decide), fun q => absurd rfl q.1⟩
end
theorem own_dstep {f : Nat → Int32} {e i j : Nat} {w : Int32} (hw : w.toInt = (j : Int) + 1) (h : j < e) (hd : isD (f j)) (i3 : dEnd f e j = dEnd f e i) : dEnd f e w.toInt.toNat = dEnd f e i := by
  have q : w.toInt.toNat = j + 1 := by omega
  rw [q, ← i3, dEnd_step h hd]
theorem own_inc {v : Int32} {m : Nat} (h : v.toInt = m) (hb : m < 2147483647) : (v + 1).toInt = m + 1 := by
  have := c_iadd v 1; have r := rng32 (v + 1); have e : (1 : Int32).toInt = 1 := by decide
  omega
theorem own_add {v w : Int32} {m n : Nat} (h : v.toInt = m) (h2 : w.toInt = n) (hb : m + n < 2147483648) : (v + w).toInt = ((m + n : Nat) : Int) := by
  have := c_iadd v w; have r := rng32 (v + w)
  omega
theorem own_lt {v w : Int32} {m n : Nat} (h : v.toInt = m) (h2 : w.toInt = n) (q : v < w) : m < n := by rw [Int32.lt_iff_toInt_lt] at q; omega
theorem own_ge {v w : Int32} {m n : Nat} (h : v.toInt = m) (h2 : w.toInt = n) (q : ¬ v < w) : ¬ m < n := by rw [Int32.lt_iff_toInt_lt] at q; omega
theorem own_eq {v w : Int32} {m n : Nat} (h : v.toInt = m) (h2 : w.toInt = n) (q : v = w) : m = n := by subst q; omega
theorem own_ne {v w : Int32} {m n : Nat} (h : v.toInt = m) (h2 : w.toInt = n) (q : ¬ v = w) : ¬ m = n := fun z => q (Int32.toInt_inj.mp (by omega))
theorem own_start {s v : Int32} (h : (s &&& (2147483647 : Int32)) % (9 : Int32) = v) : ∃ n : Nat, v.toInt = n ∧ n ≤ 8 := by
  subst h
  have q := c_and s 2147483647 (by decide)
  have q2 := (c_irem (s &&& 2147483647) 9 9 (by decide)).1 q.1
  exact ⟨((s &&& 2147483647) % 9).toInt.toNat, by omega, by omega⟩
theorem own_sub {v : Int32} {n : Nat} (h : v.toInt = n) (h2 : n ≤ 8) : ((9 : Int32) - v).toInt = 9 - n := by
  have q := c_isub 9 v; have r := rng32 ((9 : Int32) - v); have e : (9 : Int32).toInt = 9 := by decide
  omega
theorem own_nz {v : Int32} {n : Nat} (h : v.toInt = n) (h2 : n ≤ 8) : (9 : Int32) - v ≠ 0 := fun q => by
  have e := own_sub h h2; rw [q] at e; have e0 : (0 : Int32).toInt = 0 := by decide
  omega
theorem own_end {e v w : Int32} {n : Nat} (h : v.toInt = n) (h2 : n ≤ 8) (hw : v + ((e &&& (2147483647 : Int32)) % ((9 : Int32) - v)) = w) : ∃ m : Nat, w.toInt = m ∧ n ≤ m ∧ m ≤ 8 := by
  have d := own_sub h h2
  have q := c_and e 2147483647 (by decide)
  have r := (c_iremV (e &&& 2147483647) (9 - v)).1 q.1 (by omega)
  have a := c_iadd v ((e &&& 2147483647) % (9 - v)); rw [hw] at a
  have rr := rng32 w
  exact ⟨w.toInt.toNat, by omega, by omega, by omega⟩
def own_f8 (a b c d e f g h : Int32) (i : Nat) : Int32 := if i = 0 then a else if i = 1 then b else if i = 2 then c else if i = 3 then d else if i = 4 then e else if i = 5 then f else if i = 6 then g else h
theorem own_fin {f : Nat → Int32} {e s : Nat} {t v z : Int32} (k : acc t ↔ dec f e s) (hv : v = if t = (2 : Int32) then (1 : Int32) else (if t = (4 : Int32) then (1 : Int32) else (if t = (7 : Int32) then (1 : Int32) else (0 : Int32)))) (h1 : z = 1 ∨ z = 0) (h2 : z = 1 ↔ dec f e s) : z = v := by
  rw [← k] at h2; unfold acc at h2
  by_cases a1 : t = 2
  · simp [a1] at hv h2; rw [hv, h2]
  · by_cases a2 : t = 4
    · simp [a2] at hv h2; rw [hv, h2]
    · by_cases a3 : t = 7
      · simp [a3] at hv h2; rw [hv, h2]
      · simp [a1, a2, a3] at hv h2; rcases h1 with h1 | h1
        · exact absurd h1 h2
        · rw [hv, h1]
theorem d1_0 : decode method_3_code 0 = .ok (.lload_n 0, 1) := by decide +kernel
theorem d1_1 : decode method_3_code 1 = .ok (.bipush 8, 2) := by decide +kernel
theorem d1_3 : decode method_3_code 3 = .ok (.iload 4, 2) := by decide +kernel
theorem d1_5 : decode method_3_code 5 = .ok (.imul, 1) := by decide +kernel
theorem d1_6 : decode method_3_code 6 = .ok (.lushr, 1) := by decide +kernel
theorem d1_7 : decode method_3_code 7 = .ok (.l2i, 1) := by decide +kernel
theorem d1_8 : decode method_3_code 8 = .ok (.sipush 255, 3) := by decide +kernel
theorem d1_11 : decode method_3_code 11 = .ok (.iand, 1) := by decide +kernel
theorem d1_12 : decode method_3_code 12 = .ok (.istore 5, 2) := by decide +kernel
theorem d1_14 : decode method_3_code 14 = .ok (.iload 5, 2) := by decide +kernel
theorem d1_16 : decode method_3_code 16 = .ok (.bipush 7, 2) := by decide +kernel
theorem d1_18 : decode method_3_code 18 = .ok (.iand, 1) := by decide +kernel
theorem d1_19 : decode method_3_code 19 = .ok (.istore 6, 2) := by decide +kernel
theorem d1_21 : decode method_3_code 21 = .ok (.iload 6, 2) := by decide +kernel
theorem d1_23 : decode method_3_code 23 = .ok (.iconst 1, 1) := by decide +kernel
theorem d1_24 : decode method_3_code 24 = .ok (.if_icmp .gt 15, 3) := by decide +kernel
theorem d1_27 : decode method_3_code 27 = .ok (.bipush 48, 2) := by decide +kernel
theorem d1_29 : decode method_3_code 29 = .ok (.iload 5, 2) := by decide +kernel
theorem d1_31 : decode method_3_code 31 = .ok (.iconst 3, 1) := by decide +kernel
theorem d1_32 : decode method_3_code 32 = .ok (.iushr, 1) := by decide +kernel
theorem d1_33 : decode method_3_code 33 = .ok (.bipush 10, 2) := by decide +kernel
theorem d1_35 : decode method_3_code 35 = .ok (.irem, 1) := by decide +kernel
theorem d1_36 : decode method_3_code 36 = .ok (.iadd, 1) := by decide +kernel
theorem d1_37 : decode method_3_code 37 = .ok (.i2b, 1) := by decide +kernel
theorem d1_38 : decode method_3_code 38 = .ok (.ireturn, 1) := by decide +kernel
theorem d1_39 : decode method_3_code 39 = .ok (.iload 6, 2) := by decide +kernel
theorem d1_41 : decode method_3_code 41 = .ok (.iconst 2, 1) := by decide +kernel
theorem d1_42 : decode method_3_code 42 = .ok (.if_icmp .ne 6, 3) := by decide +kernel
theorem d1_45 : decode method_3_code 45 = .ok (.bipush 43, 2) := by decide +kernel
theorem d1_47 : decode method_3_code 47 = .ok (.ireturn, 1) := by decide +kernel
theorem d1_48 : decode method_3_code 48 = .ok (.iload 6, 2) := by decide +kernel
theorem d1_50 : decode method_3_code 50 = .ok (.iconst 3, 1) := by decide +kernel
theorem d1_51 : decode method_3_code 51 = .ok (.if_icmp .ne 6, 3) := by decide +kernel
theorem d1_54 : decode method_3_code 54 = .ok (.bipush 45, 2) := by decide +kernel
theorem d1_56 : decode method_3_code 56 = .ok (.ireturn, 1) := by decide +kernel
theorem d1_57 : decode method_3_code 57 = .ok (.iload 6, 2) := by decide +kernel
theorem d1_59 : decode method_3_code 59 = .ok (.iconst 4, 1) := by decide +kernel
theorem d1_60 : decode method_3_code 60 = .ok (.if_icmp .ne 6, 3) := by decide +kernel
theorem d1_63 : decode method_3_code 63 = .ok (.bipush 46, 2) := by decide +kernel
theorem d1_65 : decode method_3_code 65 = .ok (.ireturn, 1) := by decide +kernel
theorem d1_66 : decode method_3_code 66 = .ok (.iload 6, 2) := by decide +kernel
theorem d1_68 : decode method_3_code 68 = .ok (.iconst 5, 1) := by decide +kernel
theorem d1_69 : decode method_3_code 69 = .ok (.if_icmp .ne 19, 3) := by decide +kernel
theorem d1_72 : decode method_3_code 72 = .ok (.iload 5, 2) := by decide +kernel
theorem d1_74 : decode method_3_code 74 = .ok (.bipush 8, 2) := by decide +kernel
theorem d1_76 : decode method_3_code 76 = .ok (.iand, 1) := by decide +kernel
theorem d1_77 : decode method_3_code 77 = .ok (.ifCond .eq 8, 3) := by decide +kernel
theorem d1_80 : decode method_3_code 80 = .ok (.bipush 69, 2) := by decide +kernel
theorem d1_82 : decode method_3_code 82 = .ok (.goto 5, 3) := by decide +kernel
theorem d1_85 : decode method_3_code 85 = .ok (.bipush 101, 2) := by decide +kernel
theorem d1_87 : decode method_3_code 87 = .ok (.ireturn, 1) := by decide +kernel
theorem d1_88 : decode method_3_code 88 = .ok (.lload_n 2, 1) := by decide +kernel
theorem d1_89 : decode method_3_code 89 = .ok (.bipush 8, 2) := by decide +kernel
theorem d1_91 : decode method_3_code 91 = .ok (.iload 4, 2) := by decide +kernel
theorem d1_93 : decode method_3_code 93 = .ok (.imul, 1) := by decide +kernel
theorem d1_94 : decode method_3_code 94 = .ok (.lushr, 1) := by decide +kernel
theorem d1_95 : decode method_3_code 95 = .ok (.l2i, 1) := by decide +kernel
theorem d1_96 : decode method_3_code 96 = .ok (.i2b, 1) := by decide +kernel
theorem d1_97 : decode method_3_code 97 = .ok (.ireturn, 1) := by decide +kernel
abbrev Q1 (a : Int64) (b : Int64) (i : Int32)  (h0 : Heap) : Option Value → Heap → Prop := fun v h => (∃ z : Int32, v = some (.int z)) ∧ h0 = h
set_option maxRecDepth 65536 in
set_option maxHeartbeats 40000000 in
theorem rm1 {l : Launch} {Z : State} {a0 : Array Value} (hw : ∀ d ∈ tables_1, d.before a0 Z = true) (n0 : Nat) (a : Int64) (b : Int64) (i : Int32)  (h0 : Heap)  :
    Met l Z n0 (⟨"com/example/test_collection_measures/testcollectionmeasures/InputFileIsDecimalPinLaw", "gen", "(JJI)B"⟩ : MethodName) method_3_code 7 (some .byte) [] ({ frames := 0, cells := 0, slots := 0, locals := 0 } : Room) #[(.long a), (.long b), (.int i)] h0 (Q1 a b i h0) 0 0 := by
  refine Met.of pn0 (Ls := #[.val (.long a), .second, .val (.long b), .second, .val (.int i), .unset, .unset]) rfl (fun k T0 X0 => ?_)
  refine g_lloadN X0 d1_0 rfl 1 rfl ?_
  refine g_bipush X0 (8 : Int32) d1_1 rfl 3 rfl ?_
  refine g_iload X0 d1_3 rfl 5 rfl ?_
  refine g_imul X0 d1_5 6 rfl ?_
  refine g_lushr X0 d1_6 7 rfl ?_
  refine g_l2i X0 d1_7 8 rfl ?_
  refine g_sipush X0 (255 : Int32) d1_8 rfl 11 rfl ?_
  refine g_iand X0 d1_11 12 rfl ?_
  refine g_istore X0 d1_12 #[.val (.long a), .second, .val (.long b), .second, .val (.int i), .val (.int (((a.toUInt64 >>> (((8 : Int32) * i) &&& 0x3f).toInt64.toUInt64).toInt64).toInt32 &&& (255 : Int32))), .unset] rfl 14 rfl ?_
  generalize hv1 : (((a.toUInt64 >>> (((8 : Int32) * i) &&& 0x3f).toInt64.toUInt64).toInt64).toInt32 &&& (255 : Int32)) = v1
  refine g_iload X0 d1_14 rfl 16 rfl ?_
  refine g_bipush X0 (7 : Int32) d1_16 rfl 18 rfl ?_
  refine g_iand X0 d1_18 19 rfl ?_
  refine g_istore X0 d1_19 #[.val (.long a), .second, .val (.long b), .second, .val (.int i), .val (.int v1), .val (.int (v1 &&& (7 : Int32)))] rfl 21 rfl ?_
  refine g_iload X0 d1_21 rfl 23 rfl ?_
  refine g_iconst X0 (1 : Int32) d1_23 rfl 24 rfl ?_
  refine g_icmp X0 i_gt d1_24 39 (by decide) (by decide) 27 rfl (fun h2 => ?_) (fun h2 => ?_)
  · skip
    refine g_iload X0 d1_39 rfl 41 rfl ?_
    refine g_iconst X0 (2 : Int32) d1_41 rfl 42 rfl ?_
    refine g_icmpN X0 i_ne d1_42 48 (by decide) (by decide) 45 rfl (fun h3 => ?_) (fun h3 => ?_)
    · skip
      refine g_bipush X0 (43 : Int32) d1_45 rfl 47 rfl ?_
      exact g_retN X0 rfl (by simp) d1_47 (by decide) (by decide) ⟨⟨_, rfl⟩, rfl⟩
    · skip
      refine g_iload X0 d1_48 rfl 50 rfl ?_
      refine g_iconst X0 (3 : Int32) d1_50 rfl 51 rfl ?_
      refine g_icmpN X0 i_ne d1_51 57 (by decide) (by decide) 54 rfl (fun h4 => ?_) (fun h4 => ?_)
      · skip
        refine g_bipush X0 (45 : Int32) d1_54 rfl 56 rfl ?_
        exact g_retN X0 rfl (by simp) d1_56 (by decide) (by decide) ⟨⟨_, rfl⟩, rfl⟩
      · skip
        refine g_iload X0 d1_57 rfl 59 rfl ?_
        refine g_iconst X0 (4 : Int32) d1_59 rfl 60 rfl ?_
        refine g_icmpN X0 i_ne d1_60 66 (by decide) (by decide) 63 rfl (fun h5 => ?_) (fun h5 => ?_)
        · skip
          refine g_bipush X0 (46 : Int32) d1_63 rfl 65 rfl ?_
          exact g_retN X0 rfl (by simp) d1_65 (by decide) (by decide) ⟨⟨_, rfl⟩, rfl⟩
        · skip
          refine g_iload X0 d1_66 rfl 68 rfl ?_
          refine g_iconst X0 (5 : Int32) d1_68 rfl 69 rfl ?_
          refine g_icmpN X0 i_ne d1_69 88 (by decide) (by decide) 72 rfl (fun h6 => ?_) (fun h6 => ?_)
          · skip
            refine g_iload X0 d1_72 rfl 74 rfl ?_
            refine g_bipush X0 (8 : Int32) d1_74 rfl 76 rfl ?_
            refine g_iand X0 d1_76 77 rfl ?_
            have k87_1 : ∀ (v7 : Int32), (Q1 a b i h0) (some (.int (nar .byte v7))) h0 → Go k n0 (Q1 a b i h0) 0 0 T0 87 #[.val (.long a), .second, .val (.long b), .second, .val (.int i), .val (.int v1), .val (.int (v1 &&& (7 : Int32)))] [(.int v7)] := by
              intro v7 hQ
              exact g_retN X0 rfl (by simp) d1_87 (by decide) (by decide) hQ
            refine g_if X0 z_eq d1_77 85 (by decide) (by decide) 80 rfl (fun h8 => ?_) (fun h8 => ?_)
            · skip
              refine g_bipush X0 (101 : Int32) d1_85 rfl 87 rfl ?_
              exact k87_1 ((101 : Int32)) ⟨⟨_, rfl⟩, rfl⟩
            · skip
              refine g_bipush X0 (69 : Int32) d1_80 rfl 82 rfl ?_
              refine g_goto X0 d1_82 87 (by decide) (by decide) ?_
              exact k87_1 ((69 : Int32)) ⟨⟨_, rfl⟩, rfl⟩
          · skip
            refine g_lloadN X0 d1_88 rfl 89 rfl ?_
            refine g_bipush X0 (8 : Int32) d1_89 rfl 91 rfl ?_
            refine g_iload X0 d1_91 rfl 93 rfl ?_
            refine g_imul X0 d1_93 94 rfl ?_
            refine g_lushr X0 d1_94 95 rfl ?_
            refine g_l2i X0 d1_95 96 rfl ?_
            refine g_i2b X0 d1_96 97 rfl ?_
            exact g_retN X0 rfl (by simp) d1_97 (by decide) (by decide) ⟨⟨_, rfl⟩, rfl⟩
  · skip
    refine g_bipush X0 (48 : Int32) d1_27 rfl 29 rfl ?_
    refine g_iload X0 d1_29 rfl 31 rfl ?_
    refine g_iconst X0 (3 : Int32) d1_31 rfl 32 rfl ?_
    refine g_iushr X0 d1_32 33 rfl ?_
    refine g_bipush X0 (10 : Int32) d1_33 rfl 35 rfl ?_
    refine g_irem X0 d1_35 (by decide) 36 rfl ?_
    refine g_iadd X0 d1_36 37 rfl ?_
    refine g_i2b X0 d1_37 38 rfl ?_
    exact g_retN X0 rfl (by simp) d1_38 (by decide) (by decide) ⟨⟨_, rfl⟩, rfl⟩
theorem d2_0 : decode method_4_code 0 = .ok (.iload_n 0, 1) := by decide +kernel
theorem d2_1 : decode method_4_code 1 = .ok (.bipush 48, 2) := by decide +kernel
theorem d2_3 : decode method_4_code 3 = .ok (.if_icmp .lt 11, 3) := by decide +kernel
theorem d2_6 : decode method_4_code 6 = .ok (.iload_n 0, 1) := by decide +kernel
theorem d2_7 : decode method_4_code 7 = .ok (.bipush 57, 2) := by decide +kernel
theorem d2_9 : decode method_4_code 9 = .ok (.if_icmp .gt 5, 3) := by decide +kernel
theorem d2_12 : decode method_4_code 12 = .ok (.iconst 0, 1) := by decide +kernel
theorem d2_13 : decode method_4_code 13 = .ok (.ireturn, 1) := by decide +kernel
theorem d2_14 : decode method_4_code 14 = .ok (.iload_n 0, 1) := by decide +kernel
theorem d2_15 : decode method_4_code 15 = .ok (.bipush 43, 2) := by decide +kernel
theorem d2_17 : decode method_4_code 17 = .ok (.if_icmp .eq 9, 3) := by decide +kernel
theorem d2_20 : decode method_4_code 20 = .ok (.iload_n 0, 1) := by decide +kernel
theorem d2_21 : decode method_4_code 21 = .ok (.bipush 45, 2) := by decide +kernel
theorem d2_23 : decode method_4_code 23 = .ok (.if_icmp .ne 5, 3) := by decide +kernel
theorem d2_26 : decode method_4_code 26 = .ok (.iconst 1, 1) := by decide +kernel
theorem d2_27 : decode method_4_code 27 = .ok (.ireturn, 1) := by decide +kernel
theorem d2_28 : decode method_4_code 28 = .ok (.iload_n 0, 1) := by decide +kernel
theorem d2_29 : decode method_4_code 29 = .ok (.bipush 46, 2) := by decide +kernel
theorem d2_31 : decode method_4_code 31 = .ok (.if_icmp .ne 5, 3) := by decide +kernel
theorem d2_34 : decode method_4_code 34 = .ok (.iconst 2, 1) := by decide +kernel
theorem d2_35 : decode method_4_code 35 = .ok (.ireturn, 1) := by decide +kernel
theorem d2_36 : decode method_4_code 36 = .ok (.iload_n 0, 1) := by decide +kernel
theorem d2_37 : decode method_4_code 37 = .ok (.bipush 101, 2) := by decide +kernel
theorem d2_39 : decode method_4_code 39 = .ok (.if_icmp .eq 9, 3) := by decide +kernel
theorem d2_42 : decode method_4_code 42 = .ok (.iload_n 0, 1) := by decide +kernel
theorem d2_43 : decode method_4_code 43 = .ok (.bipush 69, 2) := by decide +kernel
theorem d2_45 : decode method_4_code 45 = .ok (.if_icmp .ne 5, 3) := by decide +kernel
theorem d2_48 : decode method_4_code 48 = .ok (.iconst 3, 1) := by decide +kernel
theorem d2_49 : decode method_4_code 49 = .ok (.ireturn, 1) := by decide +kernel
theorem d2_50 : decode method_4_code 50 = .ok (.iconst 4, 1) := by decide +kernel
theorem d2_51 : decode method_4_code 51 = .ok (.ireturn, 1) := by decide +kernel
abbrev Q2 (c : Int32)  (h0 : Heap) : Option Value → Heap → Prop := fun v h => v = some (.int (kd c)) ∧ h0 = h
set_option maxRecDepth 65536 in
set_option maxHeartbeats 40000000 in
theorem rm2 {l : Launch} {Z : State} {a0 : Array Value} (hw : ∀ d ∈ tables_1, d.before a0 Z = true) (n0 : Nat) (c : Int32)  (h0 : Heap)  :
    Met l Z n0 (⟨"com/example/test_collection_measures/testcollectionmeasures/InputFileIsDecimalPinLaw", "kind", "(B)I"⟩ : MethodName) method_4_code 1 (some .int) [] ({ frames := 0, cells := 0, slots := 0, locals := 0 } : Room) #[(.int c)] h0 (Q2 c h0) 0 0 := by
  refine Met.of pn1 (Ls := #[.val (.int c)]) rfl (fun k T0 X0 => ?_)
  refine g_iloadN X0 d2_0 rfl 1 rfl ?_
  refine g_bipush X0 (48 : Int32) d2_1 rfl 3 rfl ?_
  refine g_icmp X0 i_lt d2_3 14 (by decide) (by decide) 6 rfl (fun h1 => ?_) (fun h1 => ?_)
  · skip
    refine g_iloadN X0 d2_14 rfl 15 rfl ?_
    refine g_bipush X0 (43 : Int32) d2_15 rfl 17 rfl ?_
    have k26_2 : (Q2 c h0) (some (.int (1 : Int32))) h0 → Go k n0 (Q2 c h0) 0 0 T0 26 #[.val (.int c)] [] := by
      intro  hQ
      refine g_iconst X0 (1 : Int32) d2_26 rfl 27 rfl ?_
      exact g_retI X0 d2_27 (by decide) (by decide) hQ
    refine g_icmp X0 i_eq d2_17 26 (by decide) (by decide) 20 rfl (fun h2 => ?_) (fun h2 => ?_)
    · skip
      exact k26_2  ⟨by simp [kd, isD, h1, h2], rfl⟩
    · skip
      refine g_iloadN X0 d2_20 rfl 21 rfl ?_
      refine g_bipush X0 (45 : Int32) d2_21 rfl 23 rfl ?_
      refine g_icmpN X0 i_ne d2_23 28 (by decide) (by decide) 26 rfl (fun h3 => ?_) (fun h3 => ?_)
      · skip
        exact k26_2  ⟨by simp [kd, isD, h1, h2, h3], rfl⟩
      · skip
        refine g_iloadN X0 d2_28 rfl 29 rfl ?_
        refine g_bipush X0 (46 : Int32) d2_29 rfl 31 rfl ?_
        refine g_icmpN X0 i_ne d2_31 36 (by decide) (by decide) 34 rfl (fun h4 => ?_) (fun h4 => ?_)
        · skip
          refine g_iconst X0 (2 : Int32) d2_34 rfl 35 rfl ?_
          exact g_retI X0 d2_35 (by decide) (by decide) ⟨by simp [kd, isD, h1, h2, h3, h4], rfl⟩
        · skip
          refine g_iloadN X0 d2_36 rfl 37 rfl ?_
          refine g_bipush X0 (101 : Int32) d2_37 rfl 39 rfl ?_
          have k48_3 : (Q2 c h0) (some (.int (3 : Int32))) h0 → Go k n0 (Q2 c h0) 0 0 T0 48 #[.val (.int c)] [] := by
            intro  hQ
            refine g_iconst X0 (3 : Int32) d2_48 rfl 49 rfl ?_
            exact g_retI X0 d2_49 (by decide) (by decide) hQ
          refine g_icmp X0 i_eq d2_39 48 (by decide) (by decide) 42 rfl (fun h5 => ?_) (fun h5 => ?_)
          · skip
            exact k48_3  ⟨by simp [kd, isD, h1, h2, h3, h4, h5], rfl⟩
          · skip
            refine g_iloadN X0 d2_42 rfl 43 rfl ?_
            refine g_bipush X0 (69 : Int32) d2_43 rfl 45 rfl ?_
            refine g_icmpN X0 i_ne d2_45 50 (by decide) (by decide) 48 rfl (fun h6 => ?_) (fun h6 => ?_)
            · skip
              exact k48_3  ⟨by simp [kd, isD, h1, h2, h3, h4, h5, h6], rfl⟩
            · skip
              refine g_iconst X0 (4 : Int32) d2_50 rfl 51 rfl ?_
              exact g_retI X0 d2_51 (by decide) (by decide) ⟨by simp [kd, isD, h1, h2, h3, h4, h5, h6], rfl⟩
  · skip
    refine g_iloadN X0 d2_6 rfl 7 rfl ?_
    refine g_bipush X0 (57 : Int32) d2_7 rfl 9 rfl ?_
    refine g_icmp X0 i_gt d2_9 14 (by decide) (by decide) 12 rfl (fun h7 => ?_) (fun h7 => ?_)
    · skip
      refine g_iloadN X0 d2_14 rfl 15 rfl ?_
      refine g_bipush X0 (43 : Int32) d2_15 rfl 17 rfl ?_
      have k26_4 : (Q2 c h0) (some (.int (1 : Int32))) h0 → Go k n0 (Q2 c h0) 0 0 T0 26 #[.val (.int c)] [] := by
        intro  hQ
        refine g_iconst X0 (1 : Int32) d2_26 rfl 27 rfl ?_
        exact g_retI X0 d2_27 (by decide) (by decide) hQ
      refine g_icmp X0 i_eq d2_17 26 (by decide) (by decide) 20 rfl (fun h8 => ?_) (fun h8 => ?_)
      · skip
        exact k26_4  ⟨by simp [kd, isD, h1, h7, h8], rfl⟩
      · skip
        refine g_iloadN X0 d2_20 rfl 21 rfl ?_
        refine g_bipush X0 (45 : Int32) d2_21 rfl 23 rfl ?_
        refine g_icmpN X0 i_ne d2_23 28 (by decide) (by decide) 26 rfl (fun h9 => ?_) (fun h9 => ?_)
        · skip
          exact k26_4  ⟨by simp [kd, isD, h1, h7, h8, h9], rfl⟩
        · skip
          refine g_iloadN X0 d2_28 rfl 29 rfl ?_
          refine g_bipush X0 (46 : Int32) d2_29 rfl 31 rfl ?_
          refine g_icmpN X0 i_ne d2_31 36 (by decide) (by decide) 34 rfl (fun h10 => ?_) (fun h10 => ?_)
          · skip
            refine g_iconst X0 (2 : Int32) d2_34 rfl 35 rfl ?_
            exact g_retI X0 d2_35 (by decide) (by decide) ⟨by simp [kd, isD, h1, h7, h8, h9, h10], rfl⟩
          · skip
            refine g_iloadN X0 d2_36 rfl 37 rfl ?_
            refine g_bipush X0 (101 : Int32) d2_37 rfl 39 rfl ?_
            have k48_5 : (Q2 c h0) (some (.int (3 : Int32))) h0 → Go k n0 (Q2 c h0) 0 0 T0 48 #[.val (.int c)] [] := by
              intro  hQ
              refine g_iconst X0 (3 : Int32) d2_48 rfl 49 rfl ?_
              exact g_retI X0 d2_49 (by decide) (by decide) hQ
            refine g_icmp X0 i_eq d2_39 48 (by decide) (by decide) 42 rfl (fun h11 => ?_) (fun h11 => ?_)
            · skip
              exact k48_5  ⟨by simp [kd, isD, h1, h7, h8, h9, h10, h11], rfl⟩
            · skip
              refine g_iloadN X0 d2_42 rfl 43 rfl ?_
              refine g_bipush X0 (69 : Int32) d2_43 rfl 45 rfl ?_
              refine g_icmpN X0 i_ne d2_45 50 (by decide) (by decide) 48 rfl (fun h12 => ?_) (fun h12 => ?_)
              · skip
                exact k48_5  ⟨by simp [kd, isD, h1, h7, h8, h9, h10, h11, h12], rfl⟩
              · skip
                refine g_iconst X0 (4 : Int32) d2_50 rfl 51 rfl ?_
                exact g_retI X0 d2_51 (by decide) (by decide) ⟨by simp [kd, isD, h1, h7, h8, h9, h10, h11, h12], rfl⟩
    · skip
      refine g_iconst X0 (0 : Int32) d2_12 rfl 13 rfl ?_
      exact g_retI X0 d2_13 (by decide) (by decide) ⟨by simp [kd, isD, h1, h7], rfl⟩
theorem d3_0 : decode method_5_code 0 = .ok (.iload_n 2, 1) := by decide +kernel
theorem d3_1 : decode method_5_code 1 = .ok (.iload_n 3, 1) := by decide +kernel
theorem d3_2 : decode method_5_code 2 = .ok (.if_icmp .lt 5, 3) := by decide +kernel
theorem d3_5 : decode method_5_code 5 = .ok (.iload_n 0, 1) := by decide +kernel
theorem d3_6 : decode method_5_code 6 = .ok (.ireturn, 1) := by decide +kernel
theorem d3_7 : decode method_5_code 7 = .ok (.aload_n 1, 1) := by decide +kernel
theorem d3_8 : decode method_5_code 8 = .ok (.iload_n 2, 1) := by decide +kernel
theorem d3_9 : decode method_5_code 9 = .ok (.baload, 1) := by decide +kernel
theorem d3_10 : decode method_5_code 10 = .ok (.invokestatic 24, 3) := by decide +kernel
theorem d3_13 : decode method_5_code 13 = .ok (.istore 4, 2) := by decide +kernel
theorem d3_15 : decode method_5_code 15 = .ok (.iload_n 0, 1) := by decide +kernel
theorem d3_16 : decode method_5_code 16 = .ok (.ifCond .ne 25, 3) := by decide +kernel
theorem d3_19 : decode method_5_code 19 = .ok (.iload 4, 2) := by decide +kernel
theorem d3_21 : decode method_5_code 21 = .ok (.iconst 1, 1) := by decide +kernel
theorem d3_22 : decode method_5_code 22 = .ok (.if_icmp .ne 7, 3) := by decide +kernel
theorem d3_25 : decode method_5_code 25 = .ok (.iconst 1, 1) := by decide +kernel
theorem d3_26 : decode method_5_code 26 = .ok (.goto 14, 3) := by decide +kernel
theorem d3_29 : decode method_5_code 29 = .ok (.iload 4, 2) := by decide +kernel
theorem d3_31 : decode method_5_code 31 = .ok (.ifCond .ne 7, 3) := by decide +kernel
theorem d3_34 : decode method_5_code 34 = .ok (.iconst 2, 1) := by decide +kernel
theorem d3_35 : decode method_5_code 35 = .ok (.goto 5, 3) := by decide +kernel
theorem d3_38 : decode method_5_code 38 = .ok (.bipush 8, 2) := by decide +kernel
theorem d3_40 : decode method_5_code 40 = .ok (.ireturn, 1) := by decide +kernel
theorem d3_41 : decode method_5_code 41 = .ok (.iload_n 0, 1) := by decide +kernel
theorem d3_42 : decode method_5_code 42 = .ok (.iconst 1, 1) := by decide +kernel
theorem d3_43 : decode method_5_code 43 = .ok (.if_icmp .ne 15, 3) := by decide +kernel
theorem d3_46 : decode method_5_code 46 = .ok (.iload 4, 2) := by decide +kernel
theorem d3_48 : decode method_5_code 48 = .ok (.ifCond .ne 7, 3) := by decide +kernel
theorem d3_51 : decode method_5_code 51 = .ok (.iconst 2, 1) := by decide +kernel
theorem d3_52 : decode method_5_code 52 = .ok (.goto 5, 3) := by decide +kernel
theorem d3_55 : decode method_5_code 55 = .ok (.bipush 8, 2) := by decide +kernel
theorem d3_57 : decode method_5_code 57 = .ok (.ireturn, 1) := by decide +kernel
theorem d3_58 : decode method_5_code 58 = .ok (.iload_n 0, 1) := by decide +kernel
theorem d3_59 : decode method_5_code 59 = .ok (.iconst 2, 1) := by decide +kernel
theorem d3_60 : decode method_5_code 60 = .ok (.if_icmp .ne 35, 3) := by decide +kernel
theorem d3_63 : decode method_5_code 63 = .ok (.iload 4, 2) := by decide +kernel
theorem d3_65 : decode method_5_code 65 = .ok (.ifCond .ne 7, 3) := by decide +kernel
theorem d3_68 : decode method_5_code 68 = .ok (.iconst 2, 1) := by decide +kernel
theorem d3_69 : decode method_5_code 69 = .ok (.goto 25, 3) := by decide +kernel
theorem d3_72 : decode method_5_code 72 = .ok (.iload 4, 2) := by decide +kernel
theorem d3_74 : decode method_5_code 74 = .ok (.iconst 2, 1) := by decide +kernel
theorem d3_75 : decode method_5_code 75 = .ok (.if_icmp .ne 7, 3) := by decide +kernel
theorem d3_78 : decode method_5_code 78 = .ok (.iconst 3, 1) := by decide +kernel
theorem d3_79 : decode method_5_code 79 = .ok (.goto 15, 3) := by decide +kernel
theorem d3_82 : decode method_5_code 82 = .ok (.iload 4, 2) := by decide +kernel
theorem d3_84 : decode method_5_code 84 = .ok (.iconst 3, 1) := by decide +kernel
theorem d3_85 : decode method_5_code 85 = .ok (.if_icmp .ne 7, 3) := by decide +kernel
theorem d3_88 : decode method_5_code 88 = .ok (.iconst 5, 1) := by decide +kernel
theorem d3_89 : decode method_5_code 89 = .ok (.goto 5, 3) := by decide +kernel
theorem d3_92 : decode method_5_code 92 = .ok (.bipush 8, 2) := by decide +kernel
theorem d3_94 : decode method_5_code 94 = .ok (.ireturn, 1) := by decide +kernel
theorem d3_95 : decode method_5_code 95 = .ok (.iload_n 0, 1) := by decide +kernel
theorem d3_96 : decode method_5_code 96 = .ok (.iconst 3, 1) := by decide +kernel
theorem d3_97 : decode method_5_code 97 = .ok (.if_icmp .ne 15, 3) := by decide +kernel
theorem d3_100 : decode method_5_code 100 = .ok (.iload 4, 2) := by decide +kernel
theorem d3_102 : decode method_5_code 102 = .ok (.ifCond .ne 7, 3) := by decide +kernel
theorem d3_105 : decode method_5_code 105 = .ok (.iconst 4, 1) := by decide +kernel
theorem d3_106 : decode method_5_code 106 = .ok (.goto 5, 3) := by decide +kernel
theorem d3_109 : decode method_5_code 109 = .ok (.bipush 8, 2) := by decide +kernel
theorem d3_111 : decode method_5_code 111 = .ok (.ireturn, 1) := by decide +kernel
theorem d3_112 : decode method_5_code 112 = .ok (.iload_n 0, 1) := by decide +kernel
theorem d3_113 : decode method_5_code 113 = .ok (.iconst 4, 1) := by decide +kernel
theorem d3_114 : decode method_5_code 114 = .ok (.if_icmp .ne 25, 3) := by decide +kernel
theorem d3_117 : decode method_5_code 117 = .ok (.iload 4, 2) := by decide +kernel
theorem d3_119 : decode method_5_code 119 = .ok (.ifCond .ne 7, 3) := by decide +kernel
theorem d3_122 : decode method_5_code 122 = .ok (.iconst 4, 1) := by decide +kernel
theorem d3_123 : decode method_5_code 123 = .ok (.goto 15, 3) := by decide +kernel
theorem d3_126 : decode method_5_code 126 = .ok (.iload 4, 2) := by decide +kernel
theorem d3_128 : decode method_5_code 128 = .ok (.iconst 3, 1) := by decide +kernel
theorem d3_129 : decode method_5_code 129 = .ok (.if_icmp .ne 7, 3) := by decide +kernel
theorem d3_132 : decode method_5_code 132 = .ok (.iconst 5, 1) := by decide +kernel
theorem d3_133 : decode method_5_code 133 = .ok (.goto 5, 3) := by decide +kernel
theorem d3_136 : decode method_5_code 136 = .ok (.bipush 8, 2) := by decide +kernel
theorem d3_138 : decode method_5_code 138 = .ok (.ireturn, 1) := by decide +kernel
theorem d3_139 : decode method_5_code 139 = .ok (.iload_n 0, 1) := by decide +kernel
theorem d3_140 : decode method_5_code 140 = .ok (.iconst 5, 1) := by decide +kernel
theorem d3_141 : decode method_5_code 141 = .ok (.if_icmp .ne 27, 3) := by decide +kernel
theorem d3_144 : decode method_5_code 144 = .ok (.iload 4, 2) := by decide +kernel
theorem d3_146 : decode method_5_code 146 = .ok (.iconst 1, 1) := by decide +kernel
theorem d3_147 : decode method_5_code 147 = .ok (.if_icmp .ne 8, 3) := by decide +kernel
theorem d3_150 : decode method_5_code 150 = .ok (.bipush 6, 2) := by decide +kernel
theorem d3_152 : decode method_5_code 152 = .ok (.goto 15, 3) := by decide +kernel
theorem d3_155 : decode method_5_code 155 = .ok (.iload 4, 2) := by decide +kernel
theorem d3_157 : decode method_5_code 157 = .ok (.ifCond .ne 8, 3) := by decide +kernel
theorem d3_160 : decode method_5_code 160 = .ok (.bipush 7, 2) := by decide +kernel
theorem d3_162 : decode method_5_code 162 = .ok (.goto 5, 3) := by decide +kernel
theorem d3_165 : decode method_5_code 165 = .ok (.bipush 8, 2) := by decide +kernel
theorem d3_167 : decode method_5_code 167 = .ok (.ireturn, 1) := by decide +kernel
theorem d3_168 : decode method_5_code 168 = .ok (.iload_n 0, 1) := by decide +kernel
theorem d3_169 : decode method_5_code 169 = .ok (.bipush 6, 2) := by decide +kernel
theorem d3_171 : decode method_5_code 171 = .ok (.if_icmp .eq 9, 3) := by decide +kernel
theorem d3_174 : decode method_5_code 174 = .ok (.iload_n 0, 1) := by decide +kernel
theorem d3_175 : decode method_5_code 175 = .ok (.bipush 7, 2) := by decide +kernel
theorem d3_177 : decode method_5_code 177 = .ok (.if_icmp .ne 16, 3) := by decide +kernel
theorem d3_180 : decode method_5_code 180 = .ok (.iload 4, 2) := by decide +kernel
theorem d3_182 : decode method_5_code 182 = .ok (.ifCond .ne 8, 3) := by decide +kernel
theorem d3_185 : decode method_5_code 185 = .ok (.bipush 7, 2) := by decide +kernel
theorem d3_187 : decode method_5_code 187 = .ok (.goto 5, 3) := by decide +kernel
theorem d3_190 : decode method_5_code 190 = .ok (.bipush 8, 2) := by decide +kernel
theorem d3_192 : decode method_5_code 192 = .ok (.ireturn, 1) := by decide +kernel
theorem d3_193 : decode method_5_code 193 = .ok (.bipush 8, 2) := by decide +kernel
theorem d3_195 : decode method_5_code 195 = .ok (.ireturn, 1) := by decide +kernel
abbrev Q3 (s : Int32) (a : Addr) (i : Int32) (e : Int32) (i' : Nat) (e' : Nat) (f : Nat → Int32) (h0 : Heap) : Option Value → Heap → Prop := fun v h => v = some (.int (stp f e' s i')) ∧ h0 = h
set_option maxRecDepth 65536 in
set_option maxHeartbeats 40000000 in
theorem rm3 {l : Launch} {Z : State} {a0 : Array Value} (hw : ∀ d ∈ tables_1, d.before a0 Z = true) (n0 : Nat) (s : Int32) (a : Addr) (i : Int32) (e : Int32) (i' : Nat) (e' : Nat) (f : Nat → Int32) (h0 : Heap) (A : AI Z h0 a .byte 8 (fun j => .int (f j))) (hi : i.toInt = i') (he : e.toInt = e') (hle : e' ≤ 8) :
    Met l Z n0 (⟨"com/example/test_collection_measures/testcollectionmeasures/InputFileIsDecimalPinLaw", "step", "(I[BII)I"⟩ : MethodName) method_5_code 5 (some .int) [] ({ frames := 1, cells := 0, slots := 0, locals := 12 } : Room) #[(.int s), (.ref a), (.int i), (.int e)] h0 (Q3 s a i e i' e' f h0) 0 0 := by
  refine Met.of pn2 (Ls := #[.val (.int s), .val (.ref a), .val (.int i), .val (.int e), .unset]) rfl (fun k T0 X0 => ?_)
  refine g_iloadN X0 d3_0 rfl 1 rfl ?_
  refine g_iloadN X0 d3_1 rfl 2 rfl ?_
  refine g_icmp X0 i_lt d3_2 7 (by decide) (by decide) 5 rfl (fun h1 => ?_) (fun h1 => ?_)
  · skip
    have hlt : i' < e' := own_lt hi he h1
    refine g_aloadN X0 d3_7 rfl rfl 8 rfl ?_
    refine g_iloadN X0 d3_8 rfl 9 rfl ?_
    refine g_baload X0 A i' hi (by omega) (.int (f i')) rfl d3_9 10 rfl ?_
    refine g_callS X0 [(.int (f i'))] [] (rm2 hw n0 (f i') h0) (w9 hw) (w10 hw) (w3 hw) (w11 hw) (by decide) pd0 rfl rfl (by decide) (Nat.le_of_ble_eq_true rfl) (by decide) (by decide) d3_10 rfl 13 rfl (fun v2 T2 h2 X2 q2 => ?_)
    obtain ⟨rfl, rfl⟩ := q2
    show Go k n0 (Q3 s a i e i' e' f h0) 0 0 T2 13 #[.val (.int s), .val (.ref a), .val (.int i), .val (.int e), .unset] [(.int (kd (f i')))]
    refine g_istore X2 d3_13 #[.val (.int s), .val (.ref a), .val (.int i), .val (.int e), .val (.int (kd (f i')))] rfl 15 rfl ?_
    refine g_iloadN X2 d3_15 rfl 16 rfl ?_
    refine g_ifN X2 z_ne d3_16 41 (by decide) (by decide) 19 rfl (fun h3 => ?_) (fun h3 => ?_)
    · skip
      refine g_iload X2 d3_19 rfl 21 rfl ?_
      refine g_iconst X2 (1 : Int32) d3_21 rfl 22 rfl ?_
      have k40_6 : ∀ (v4 : Int32), (Q3 s a i e i' e' f h0) (some (.int v4)) h0 → Go k n0 (Q3 s a i e i' e' f h0) 0 0 T2 40 #[.val (.int s), .val (.ref a), .val (.int i), .val (.int e), .val (.int (kd (f i')))] [(.int v4)] := by
        intro v4 hQ
        exact g_retI X2 d3_40 (by decide) (by decide) hQ
      refine g_icmpN X2 i_ne d3_22 29 (by decide) (by decide) 25 rfl (fun h5 => ?_) (fun h5 => ?_)
      · skip
        refine g_iconst X2 (1 : Int32) d3_25 rfl 26 rfl ?_
        refine g_goto X2 d3_26 40 (by decide) (by decide) ?_
        exact k40_6 ((1 : Int32)) ⟨by unfold stp; rw [if_pos hlt]; simp [dlt, h3, h5], rfl⟩
      · skip
        refine g_iload X2 d3_29 rfl 31 rfl ?_
        refine g_ifN X2 z_ne d3_31 38 (by decide) (by decide) 34 rfl (fun h6 => ?_) (fun h6 => ?_)
        · skip
          refine g_iconst X2 (2 : Int32) d3_34 rfl 35 rfl ?_
          refine g_goto X2 d3_35 40 (by decide) (by decide) ?_
          exact k40_6 ((2 : Int32)) ⟨by unfold stp; rw [if_pos hlt]; simp [dlt, h3, h5, h6], rfl⟩
        · skip
          refine g_bipush X2 (8 : Int32) d3_38 rfl 40 rfl ?_
          exact k40_6 ((8 : Int32)) ⟨by unfold stp; rw [if_pos hlt]; simp [dlt, h3, h5, h6], rfl⟩
    · skip
      refine g_iloadN X2 d3_41 rfl 42 rfl ?_
      refine g_iconst X2 (1 : Int32) d3_42 rfl 43 rfl ?_
      refine g_icmpN X2 i_ne d3_43 58 (by decide) (by decide) 46 rfl (fun h7 => ?_) (fun h7 => ?_)
      · skip
        refine g_iload X2 d3_46 rfl 48 rfl ?_
        have k57_7 : ∀ (v8 : Int32), (Q3 s a i e i' e' f h0) (some (.int v8)) h0 → Go k n0 (Q3 s a i e i' e' f h0) 0 0 T2 57 #[.val (.int s), .val (.ref a), .val (.int i), .val (.int e), .val (.int (kd (f i')))] [(.int v8)] := by
          intro v8 hQ
          exact g_retI X2 d3_57 (by decide) (by decide) hQ
        refine g_ifN X2 z_ne d3_48 55 (by decide) (by decide) 51 rfl (fun h9 => ?_) (fun h9 => ?_)
        · skip
          refine g_iconst X2 (2 : Int32) d3_51 rfl 52 rfl ?_
          refine g_goto X2 d3_52 57 (by decide) (by decide) ?_
          exact k57_7 ((2 : Int32)) ⟨by unfold stp; rw [if_pos hlt]; simp [dlt, h3, h7, h9], rfl⟩
        · skip
          refine g_bipush X2 (8 : Int32) d3_55 rfl 57 rfl ?_
          exact k57_7 ((8 : Int32)) ⟨by unfold stp; rw [if_pos hlt]; simp [dlt, h3, h7, h9], rfl⟩
      · skip
        refine g_iloadN X2 d3_58 rfl 59 rfl ?_
        refine g_iconst X2 (2 : Int32) d3_59 rfl 60 rfl ?_
        refine g_icmpN X2 i_ne d3_60 95 (by decide) (by decide) 63 rfl (fun h10 => ?_) (fun h10 => ?_)
        · skip
          refine g_iload X2 d3_63 rfl 65 rfl ?_
          have k94_8 : ∀ (v11 : Int32), (Q3 s a i e i' e' f h0) (some (.int v11)) h0 → Go k n0 (Q3 s a i e i' e' f h0) 0 0 T2 94 #[.val (.int s), .val (.ref a), .val (.int i), .val (.int e), .val (.int (kd (f i')))] [(.int v11)] := by
            intro v11 hQ
            exact g_retI X2 d3_94 (by decide) (by decide) hQ
          refine g_ifN X2 z_ne d3_65 72 (by decide) (by decide) 68 rfl (fun h12 => ?_) (fun h12 => ?_)
          · skip
            refine g_iconst X2 (2 : Int32) d3_68 rfl 69 rfl ?_
            refine g_goto X2 d3_69 94 (by decide) (by decide) ?_
            exact k94_8 ((2 : Int32)) ⟨by unfold stp; rw [if_pos hlt]; simp [dlt, h3, h7, h10, h12], rfl⟩
          · skip
            refine g_iload X2 d3_72 rfl 74 rfl ?_
            refine g_iconst X2 (2 : Int32) d3_74 rfl 75 rfl ?_
            refine g_icmpN X2 i_ne d3_75 82 (by decide) (by decide) 78 rfl (fun h13 => ?_) (fun h13 => ?_)
            · skip
              refine g_iconst X2 (3 : Int32) d3_78 rfl 79 rfl ?_
              refine g_goto X2 d3_79 94 (by decide) (by decide) ?_
              exact k94_8 ((3 : Int32)) ⟨by unfold stp; rw [if_pos hlt]; simp [dlt, h3, h7, h10, h12, h13], rfl⟩
            · skip
              refine g_iload X2 d3_82 rfl 84 rfl ?_
              refine g_iconst X2 (3 : Int32) d3_84 rfl 85 rfl ?_
              refine g_icmpN X2 i_ne d3_85 92 (by decide) (by decide) 88 rfl (fun h14 => ?_) (fun h14 => ?_)
              · skip
                refine g_iconst X2 (5 : Int32) d3_88 rfl 89 rfl ?_
                refine g_goto X2 d3_89 94 (by decide) (by decide) ?_
                exact k94_8 ((5 : Int32)) ⟨by unfold stp; rw [if_pos hlt]; simp [dlt, h3, h7, h10, h12, h13, h14], rfl⟩
              · skip
                refine g_bipush X2 (8 : Int32) d3_92 rfl 94 rfl ?_
                exact k94_8 ((8 : Int32)) ⟨by unfold stp; rw [if_pos hlt]; simp [dlt, h3, h7, h10, h12, h13, h14], rfl⟩
        · skip
          refine g_iloadN X2 d3_95 rfl 96 rfl ?_
          refine g_iconst X2 (3 : Int32) d3_96 rfl 97 rfl ?_
          refine g_icmpN X2 i_ne d3_97 112 (by decide) (by decide) 100 rfl (fun h15 => ?_) (fun h15 => ?_)
          · skip
            refine g_iload X2 d3_100 rfl 102 rfl ?_
            have k111_9 : ∀ (v16 : Int32), (Q3 s a i e i' e' f h0) (some (.int v16)) h0 → Go k n0 (Q3 s a i e i' e' f h0) 0 0 T2 111 #[.val (.int s), .val (.ref a), .val (.int i), .val (.int e), .val (.int (kd (f i')))] [(.int v16)] := by
              intro v16 hQ
              exact g_retI X2 d3_111 (by decide) (by decide) hQ
            refine g_ifN X2 z_ne d3_102 109 (by decide) (by decide) 105 rfl (fun h17 => ?_) (fun h17 => ?_)
            · skip
              refine g_iconst X2 (4 : Int32) d3_105 rfl 106 rfl ?_
              refine g_goto X2 d3_106 111 (by decide) (by decide) ?_
              exact k111_9 ((4 : Int32)) ⟨by unfold stp; rw [if_pos hlt]; simp [dlt, h3, h7, h10, h15, h17], rfl⟩
            · skip
              refine g_bipush X2 (8 : Int32) d3_109 rfl 111 rfl ?_
              exact k111_9 ((8 : Int32)) ⟨by unfold stp; rw [if_pos hlt]; simp [dlt, h3, h7, h10, h15, h17], rfl⟩
          · skip
            refine g_iloadN X2 d3_112 rfl 113 rfl ?_
            refine g_iconst X2 (4 : Int32) d3_113 rfl 114 rfl ?_
            refine g_icmpN X2 i_ne d3_114 139 (by decide) (by decide) 117 rfl (fun h18 => ?_) (fun h18 => ?_)
            · skip
              refine g_iload X2 d3_117 rfl 119 rfl ?_
              have k138_10 : ∀ (v19 : Int32), (Q3 s a i e i' e' f h0) (some (.int v19)) h0 → Go k n0 (Q3 s a i e i' e' f h0) 0 0 T2 138 #[.val (.int s), .val (.ref a), .val (.int i), .val (.int e), .val (.int (kd (f i')))] [(.int v19)] := by
                intro v19 hQ
                exact g_retI X2 d3_138 (by decide) (by decide) hQ
              refine g_ifN X2 z_ne d3_119 126 (by decide) (by decide) 122 rfl (fun h20 => ?_) (fun h20 => ?_)
              · skip
                refine g_iconst X2 (4 : Int32) d3_122 rfl 123 rfl ?_
                refine g_goto X2 d3_123 138 (by decide) (by decide) ?_
                exact k138_10 ((4 : Int32)) ⟨by unfold stp; rw [if_pos hlt]; simp [dlt, h3, h7, h10, h15, h18, h20], rfl⟩
              · skip
                refine g_iload X2 d3_126 rfl 128 rfl ?_
                refine g_iconst X2 (3 : Int32) d3_128 rfl 129 rfl ?_
                refine g_icmpN X2 i_ne d3_129 136 (by decide) (by decide) 132 rfl (fun h21 => ?_) (fun h21 => ?_)
                · skip
                  refine g_iconst X2 (5 : Int32) d3_132 rfl 133 rfl ?_
                  refine g_goto X2 d3_133 138 (by decide) (by decide) ?_
                  exact k138_10 ((5 : Int32)) ⟨by unfold stp; rw [if_pos hlt]; simp [dlt, h3, h7, h10, h15, h18, h20, h21], rfl⟩
                · skip
                  refine g_bipush X2 (8 : Int32) d3_136 rfl 138 rfl ?_
                  exact k138_10 ((8 : Int32)) ⟨by unfold stp; rw [if_pos hlt]; simp [dlt, h3, h7, h10, h15, h18, h20, h21], rfl⟩
            · skip
              refine g_iloadN X2 d3_139 rfl 140 rfl ?_
              refine g_iconst X2 (5 : Int32) d3_140 rfl 141 rfl ?_
              refine g_icmpN X2 i_ne d3_141 168 (by decide) (by decide) 144 rfl (fun h22 => ?_) (fun h22 => ?_)
              · skip
                refine g_iload X2 d3_144 rfl 146 rfl ?_
                refine g_iconst X2 (1 : Int32) d3_146 rfl 147 rfl ?_
                have k167_11 : ∀ (v23 : Int32), (Q3 s a i e i' e' f h0) (some (.int v23)) h0 → Go k n0 (Q3 s a i e i' e' f h0) 0 0 T2 167 #[.val (.int s), .val (.ref a), .val (.int i), .val (.int e), .val (.int (kd (f i')))] [(.int v23)] := by
                  intro v23 hQ
                  exact g_retI X2 d3_167 (by decide) (by decide) hQ
                refine g_icmpN X2 i_ne d3_147 155 (by decide) (by decide) 150 rfl (fun h24 => ?_) (fun h24 => ?_)
                · skip
                  refine g_bipush X2 (6 : Int32) d3_150 rfl 152 rfl ?_
                  refine g_goto X2 d3_152 167 (by decide) (by decide) ?_
                  exact k167_11 ((6 : Int32)) ⟨by unfold stp; rw [if_pos hlt]; simp [dlt, h3, h7, h10, h15, h18, h22, h24], rfl⟩
                · skip
                  refine g_iload X2 d3_155 rfl 157 rfl ?_
                  refine g_ifN X2 z_ne d3_157 165 (by decide) (by decide) 160 rfl (fun h25 => ?_) (fun h25 => ?_)
                  · skip
                    refine g_bipush X2 (7 : Int32) d3_160 rfl 162 rfl ?_
                    refine g_goto X2 d3_162 167 (by decide) (by decide) ?_
                    exact k167_11 ((7 : Int32)) ⟨by unfold stp; rw [if_pos hlt]; simp [dlt, h3, h7, h10, h15, h18, h22, h24, h25], rfl⟩
                  · skip
                    refine g_bipush X2 (8 : Int32) d3_165 rfl 167 rfl ?_
                    exact k167_11 ((8 : Int32)) ⟨by unfold stp; rw [if_pos hlt]; simp [dlt, h3, h7, h10, h15, h18, h22, h24, h25], rfl⟩
              · skip
                refine g_iloadN X2 d3_168 rfl 169 rfl ?_
                refine g_bipush X2 (6 : Int32) d3_169 rfl 171 rfl ?_
                refine g_icmp X2 i_eq d3_171 180 (by decide) (by decide) 174 rfl (fun h26 => ?_) (fun h26 => ?_)
                · skip
                  refine g_iload X2 d3_180 rfl 182 rfl ?_
                  have k192_12 : ∀ (v27 : Int32), (Q3 s a i e i' e' f h0) (some (.int v27)) h0 → Go k n0 (Q3 s a i e i' e' f h0) 0 0 T2 192 #[.val (.int s), .val (.ref a), .val (.int i), .val (.int e), .val (.int (kd (f i')))] [(.int v27)] := by
                    intro v27 hQ
                    exact g_retI X2 d3_192 (by decide) (by decide) hQ
                  refine g_ifN X2 z_ne d3_182 190 (by decide) (by decide) 185 rfl (fun h28 => ?_) (fun h28 => ?_)
                  · skip
                    refine g_bipush X2 (7 : Int32) d3_185 rfl 187 rfl ?_
                    refine g_goto X2 d3_187 192 (by decide) (by decide) ?_
                    exact k192_12 ((7 : Int32)) ⟨by unfold stp; rw [if_pos hlt]; simp [dlt, h3, h7, h10, h15, h18, h22, h26, h28], rfl⟩
                  · skip
                    refine g_bipush X2 (8 : Int32) d3_190 rfl 192 rfl ?_
                    exact k192_12 ((8 : Int32)) ⟨by unfold stp; rw [if_pos hlt]; simp [dlt, h3, h7, h10, h15, h18, h22, h26, h28], rfl⟩
                · skip
                  refine g_iloadN X2 d3_174 rfl 175 rfl ?_
                  refine g_bipush X2 (7 : Int32) d3_175 rfl 177 rfl ?_
                  refine g_icmpN X2 i_ne d3_177 193 (by decide) (by decide) 180 rfl (fun h29 => ?_) (fun h29 => ?_)
                  · skip
                    refine g_iload X2 d3_180 rfl 182 rfl ?_
                    have k192_13 : ∀ (v30 : Int32), (Q3 s a i e i' e' f h0) (some (.int v30)) h0 → Go k n0 (Q3 s a i e i' e' f h0) 0 0 T2 192 #[.val (.int s), .val (.ref a), .val (.int i), .val (.int e), .val (.int (kd (f i')))] [(.int v30)] := by
                      intro v30 hQ
                      exact g_retI X2 d3_192 (by decide) (by decide) hQ
                    refine g_ifN X2 z_ne d3_182 190 (by decide) (by decide) 185 rfl (fun h31 => ?_) (fun h31 => ?_)
                    · skip
                      refine g_bipush X2 (7 : Int32) d3_185 rfl 187 rfl ?_
                      refine g_goto X2 d3_187 192 (by decide) (by decide) ?_
                      exact k192_13 ((7 : Int32)) ⟨by unfold stp; rw [if_pos hlt]; simp [dlt, h3, h7, h10, h15, h18, h22, h26, h29, h31], rfl⟩
                    · skip
                      refine g_bipush X2 (8 : Int32) d3_190 rfl 192 rfl ?_
                      exact k192_13 ((8 : Int32)) ⟨by unfold stp; rw [if_pos hlt]; simp [dlt, h3, h7, h10, h15, h18, h22, h26, h29, h31], rfl⟩
                  · skip
                    refine g_bipush X2 (8 : Int32) d3_193 rfl 195 rfl ?_
                    exact g_retI X2 d3_195 (by decide) (by decide) ⟨by unfold stp; rw [if_pos hlt]; simp [dlt, h3, h7, h10, h15, h18, h22, h26, h29], rfl⟩
  · skip
    refine g_iloadN X0 d3_5 rfl 6 rfl ?_
    exact g_retI X0 d3_6 (by decide) (by decide) ⟨by unfold stp; rw [if_neg (own_ge hi he h1)], rfl⟩
theorem d4_0 : decode prog_13_method_12_code 0 = .ok (.iload_n 1, 1) := by decide +kernel
theorem d4_1 : decode prog_13_method_12_code 1 = .ok (.iload_n 2, 1) := by decide +kernel
theorem d4_2 : decode prog_13_method_12_code 2 = .ok (.if_icmp .ge 23, 3) := by decide +kernel
theorem d4_5 : decode prog_13_method_12_code 5 = .ok (.aload_n 0, 1) := by decide +kernel
theorem d4_6 : decode prog_13_method_12_code 6 = .ok (.iload_n 1, 1) := by decide +kernel
theorem d4_7 : decode prog_13_method_12_code 7 = .ok (.baload, 1) := by decide +kernel
theorem d4_8 : decode prog_13_method_12_code 8 = .ok (.bipush 43, 2) := by decide +kernel
theorem d4_10 : decode prog_13_method_12_code 10 = .ok (.if_icmp .eq 11, 3) := by decide +kernel
theorem d4_13 : decode prog_13_method_12_code 13 = .ok (.aload_n 0, 1) := by decide +kernel
theorem d4_14 : decode prog_13_method_12_code 14 = .ok (.iload_n 1, 1) := by decide +kernel
theorem d4_15 : decode prog_13_method_12_code 15 = .ok (.baload, 1) := by decide +kernel
theorem d4_16 : decode prog_13_method_12_code 16 = .ok (.bipush 45, 2) := by decide +kernel
theorem d4_18 : decode prog_13_method_12_code 18 = .ok (.if_icmp .ne 7, 3) := by decide +kernel
theorem d4_21 : decode prog_13_method_12_code 21 = .ok (.iconst 1, 1) := by decide +kernel
theorem d4_22 : decode prog_13_method_12_code 22 = .ok (.goto 4, 3) := by decide +kernel
theorem d4_25 : decode prog_13_method_12_code 25 = .ok (.iconst 0, 1) := by decide +kernel
theorem d4_26 : decode prog_13_method_12_code 26 = .ok (.istore_n 3, 1) := by decide +kernel
theorem d4_27 : decode prog_13_method_12_code 27 = .ok (.iload_n 3, 1) := by decide +kernel
theorem d4_28 : decode prog_13_method_12_code 28 = .ok (.ifCond .eq 9, 3) := by decide +kernel
theorem d4_31 : decode prog_13_method_12_code 31 = .ok (.iload_n 1, 1) := by decide +kernel
theorem d4_32 : decode prog_13_method_12_code 32 = .ok (.iconst 1, 1) := by decide +kernel
theorem d4_33 : decode prog_13_method_12_code 33 = .ok (.iadd, 1) := by decide +kernel
theorem d4_34 : decode prog_13_method_12_code 34 = .ok (.goto 4, 3) := by decide +kernel
theorem d4_37 : decode prog_13_method_12_code 37 = .ok (.iload_n 1, 1) := by decide +kernel
theorem d4_38 : decode prog_13_method_12_code 38 = .ok (.ireturn, 1) := by decide +kernel
abbrev Q4 (a : Addr) (i : Int32) (e : Int32) (i' : Nat) (e' : Nat) (f : Nat → Int32) (h0 : Heap) : Option Value → Heap → Prop := fun v h => (∃ r : Int32, v = some (.int r) ∧ r.toInt = sEnd f e' i') ∧ h0 = h
set_option maxRecDepth 65536 in
set_option maxHeartbeats 40000000 in
theorem rm4 {l : Launch} {Z : State} {a0 : Array Value} (hw : ∀ d ∈ tables_1, d.before a0 Z = true) (n0 : Nat) (a : Addr) (i : Int32) (e : Int32) (i' : Nat) (e' : Nat) (f : Nat → Int32) (h0 : Heap) (A : AI Z h0 a .byte 8 (fun j => .int (f j))) (hi : i.toInt = i') (he : e.toInt = e') (hle : e' ≤ 8) :
    Met l Z n0 (⟨"com/example/test_collection_measures/testcollectionmeasures/InputFile", "signEnd", "([BII)I"⟩ : MethodName) prog_13_method_12_code 4 (some .int) [] ({ frames := 0, cells := 0, slots := 0, locals := 0 } : Room) #[(.ref a), (.int i), (.int e)] h0 (Q4 a i e i' e' f h0) 0 0 := by
  refine Met.of pn3 (Ls := #[.val (.ref a), .val (.int i), .val (.int e), .unset]) rfl (fun k T0 X0 => ?_)
  refine g_iloadN X0 d4_0 rfl 1 rfl ?_
  refine g_iloadN X0 d4_1 rfl 2 rfl ?_
  refine g_icmpN X0 i_ge d4_2 25 (by decide) (by decide) 5 rfl (fun h1 => ?_) (fun h1 => ?_)
  · skip
    have hlt : i' < e' := own_lt hi he h1
    refine g_aloadN X0 d4_5 rfl rfl 6 rfl ?_
    refine g_iloadN X0 d4_6 rfl 7 rfl ?_
    refine g_baload X0 A i' hi (by omega) (.int (f i')) rfl d4_7 8 rfl ?_
    refine g_bipush X0 (43 : Int32) d4_8 rfl 10 rfl ?_
    refine g_icmp X0 i_eq d4_10 21 (by decide) (by decide) 13 rfl (fun h2 => ?_) (fun h2 => ?_)
    · skip
      refine g_iconst X0 (1 : Int32) d4_21 rfl 22 rfl ?_
      refine g_goto X0 d4_22 26 (by decide) (by decide) ?_
      refine g_istoreN X0 d4_26 #[.val (.ref a), .val (.int i), .val (.int e), .val (.int (1 : Int32))] rfl 27 rfl ?_
      refine g_iloadN X0 d4_27 rfl 28 rfl ?_
      refine g_if X0 z_eq d4_28 37 (by decide) (by decide) 31 rfl (fun h3 => ?_) (fun h3 => ?_)
      · exact absurd h3 (by decide)
      · skip
        refine g_iloadN X0 d4_31 rfl 32 rfl ?_
        refine g_iconst X0 (1 : Int32) d4_32 rfl 33 rfl ?_
        refine g_iadd X0 d4_33 34 rfl ?_
        refine g_goto X0 d4_34 38 (by decide) (by decide) ?_
        exact g_retI X0 d4_38 (by decide) (by decide) ⟨⟨_, rfl, by rw [own_inc hi (by omega)]; simp [sEnd, hlt, h2]⟩, rfl⟩
    · skip
      refine g_aloadN X0 d4_13 rfl rfl 14 rfl ?_
      refine g_iloadN X0 d4_14 rfl 15 rfl ?_
      refine g_baload X0 A i' hi (by omega) (.int (f i')) rfl d4_15 16 rfl ?_
      refine g_bipush X0 (45 : Int32) d4_16 rfl 18 rfl ?_
      refine g_icmpN X0 i_ne d4_18 25 (by decide) (by decide) 21 rfl (fun h4 => ?_) (fun h4 => ?_)
      · skip
        refine g_iconst X0 (1 : Int32) d4_21 rfl 22 rfl ?_
        refine g_goto X0 d4_22 26 (by decide) (by decide) ?_
        refine g_istoreN X0 d4_26 #[.val (.ref a), .val (.int i), .val (.int e), .val (.int (1 : Int32))] rfl 27 rfl ?_
        refine g_iloadN X0 d4_27 rfl 28 rfl ?_
        refine g_if X0 z_eq d4_28 37 (by decide) (by decide) 31 rfl (fun h5 => ?_) (fun h5 => ?_)
        · exact absurd h5 (by decide)
        · skip
          refine g_iloadN X0 d4_31 rfl 32 rfl ?_
          refine g_iconst X0 (1 : Int32) d4_32 rfl 33 rfl ?_
          refine g_iadd X0 d4_33 34 rfl ?_
          refine g_goto X0 d4_34 38 (by decide) (by decide) ?_
          exact g_retI X0 d4_38 (by decide) (by decide) ⟨⟨_, rfl, by rw [own_inc hi (by omega)]; simp [sEnd, hlt, h2, h4]⟩, rfl⟩
      · skip
        refine g_iconst X0 (0 : Int32) d4_25 rfl 26 rfl ?_
        refine g_istoreN X0 d4_26 #[.val (.ref a), .val (.int i), .val (.int e), .val (.int (0 : Int32))] rfl 27 rfl ?_
        refine g_iloadN X0 d4_27 rfl 28 rfl ?_
        refine g_if X0 z_eq d4_28 37 (by decide) (by decide) 31 rfl (fun h6 => ?_) (fun h6 => ?_)
        · skip
          refine g_iloadN X0 d4_37 rfl 38 rfl ?_
          exact g_retI X0 d4_38 (by decide) (by decide) ⟨⟨_, rfl, by rw [hi]; simp [sEnd, hlt, h2, h4]⟩, rfl⟩
        · exact absurd (by decide) h6
  · skip
    refine g_iconst X0 (0 : Int32) d4_25 rfl 26 rfl ?_
    refine g_istoreN X0 d4_26 #[.val (.ref a), .val (.int i), .val (.int e), .val (.int (0 : Int32))] rfl 27 rfl ?_
    refine g_iloadN X0 d4_27 rfl 28 rfl ?_
    refine g_if X0 z_eq d4_28 37 (by decide) (by decide) 31 rfl (fun h7 => ?_) (fun h7 => ?_)
    · skip
      refine g_iloadN X0 d4_37 rfl 38 rfl ?_
      exact g_retI X0 d4_38 (by decide) (by decide) ⟨⟨_, rfl, by rw [hi]; simp [sEnd, own_ge hi he h1]⟩, rfl⟩
    · exact absurd (by decide) h7
theorem d5_0 : decode prog_13_method_13_code 0 = .ok (.iload_n 1, 1) := by decide +kernel
theorem d5_1 : decode prog_13_method_13_code 1 = .ok (.istore_n 3, 1) := by decide +kernel
theorem d5_2 : decode prog_13_method_13_code 2 = .ok (.iload_n 3, 1) := by decide +kernel
theorem d5_3 : decode prog_13_method_13_code 3 = .ok (.iload_n 2, 1) := by decide +kernel
theorem d5_4 : decode prog_13_method_13_code 4 = .ok (.if_icmp .ge 25, 3) := by decide +kernel
theorem d5_7 : decode prog_13_method_13_code 7 = .ok (.aload_n 0, 1) := by decide +kernel
theorem d5_8 : decode prog_13_method_13_code 8 = .ok (.iload_n 3, 1) := by decide +kernel
theorem d5_9 : decode prog_13_method_13_code 9 = .ok (.baload, 1) := by decide +kernel
theorem d5_10 : decode prog_13_method_13_code 10 = .ok (.bipush 48, 2) := by decide +kernel
theorem d5_12 : decode prog_13_method_13_code 12 = .ok (.if_icmp .lt 17, 3) := by decide +kernel
theorem d5_15 : decode prog_13_method_13_code 15 = .ok (.aload_n 0, 1) := by decide +kernel
theorem d5_16 : decode prog_13_method_13_code 16 = .ok (.iload_n 3, 1) := by decide +kernel
theorem d5_17 : decode prog_13_method_13_code 17 = .ok (.baload, 1) := by decide +kernel
theorem d5_18 : decode prog_13_method_13_code 18 = .ok (.bipush 57, 2) := by decide +kernel
theorem d5_20 : decode prog_13_method_13_code 20 = .ok (.if_icmp .gt 9, 3) := by decide +kernel
theorem d5_23 : decode prog_13_method_13_code 23 = .ok (.iinc 3 1, 3) := by decide +kernel
theorem d5_26 : decode prog_13_method_13_code 26 = .ok (.goto (-24), 3) := by decide +kernel
theorem d5_29 : decode prog_13_method_13_code 29 = .ok (.iload_n 3, 1) := by decide +kernel
theorem d5_30 : decode prog_13_method_13_code 30 = .ok (.ireturn, 1) := by decide +kernel
abbrev Q5 (a : Addr) (i : Int32) (e : Int32) (i' : Nat) (e' : Nat) (f : Nat → Int32) (h0 : Heap) : Option Value → Heap → Prop := fun v h => (∃ r : Int32, v = some (.int r) ∧ r.toInt = dEnd f e' i') ∧ h0 = h
set_option maxRecDepth 65536 in
set_option maxHeartbeats 40000000 in
theorem rm5 {l : Launch} {Z : State} {a0 : Array Value} (hw : ∀ d ∈ tables_1, d.before a0 Z = true) (n0 : Nat) (a : Addr) (i : Int32) (e : Int32) (i' : Nat) (e' : Nat) (f : Nat → Int32) (h0 : Heap) (A : AI Z h0 a .byte 8 (fun j => .int (f j))) (hi : i.toInt = i') (he : e.toInt = e') (hle : e' ≤ 8) (hie : i' ≤ e') :
    Met l Z n0 (⟨"com/example/test_collection_measures/testcollectionmeasures/InputFile", "digitsEnd", "([BII)I"⟩ : MethodName) prog_13_method_13_code 4 (some .int) [] ({ frames := 0, cells := 0, slots := 0, locals := 0 } : Room) #[(.ref a), (.int i), (.int e)] h0 (Q5 a i e i' e' f h0) 0 0 := by
  refine Met.of pn4 (Ls := #[.val (.ref a), .val (.int i), .val (.int e), .unset]) rfl (fun k T0 X0 => ?_)
  refine g_iloadN X0 d5_0 rfl 1 rfl ?_
  refine g_istoreN X0 d5_1 #[.val (.ref a), .val (.int i), .val (.int e), .val (.int i)] rfl 2 rfl ?_
  have loop2 : ∀ (NL : Nat) (TL : State) (XL : Sd l Z n0 (⟨"com/example/test_collection_measures/testcollectionmeasures/InputFile", "digitsEnd", "([BII)I"⟩ : MethodName) prog_13_method_13_code 4 (some .int) ({ frames := 0, cells := 0, slots := 0, locals := 0 } : Room) k TL h0 0 0) (j : Int32), (0 ≤ j.toInt) → (j.toInt ≤ e') → (dEnd f e' j.toInt.toNat = dEnd f e' i') → (((e' : Int) - j.toInt).toNat) < NL → Go k n0 (Q5 a i e i' e' f h0) 0 0 TL 2 #[.val (.ref a), .val (.int i), .val (.int e), .val (.int j)] [] := by
    intro NL; induction NL with
    | zero => intro TL XL j i1 i2 i3 hmL; exact absurd hmL (Nat.not_lt_zero _)
    | succ NL ih =>
      intro TL XL j i1 i2 i3 hmL
      obtain ⟨j', hj⟩ : ∃ j' : Nat, j.toInt = j' := ⟨j.toInt.toNat, by omega⟩
      have i3' : dEnd f e' j' = dEnd f e' i' := by rw [← i3, hj]; rfl
      refine g_iloadN XL d5_2 rfl 3 rfl ?_
      refine g_iloadN XL d5_3 rfl 4 rfl ?_
      refine g_icmpN XL i_ge d5_4 29 (by decide) (by decide) 7 rfl (fun h1 => ?_) (fun h1 => ?_)
      · skip
        have hlt : j' < e' := own_lt hj he h1
        refine g_aloadN XL d5_7 rfl rfl 8 rfl ?_
        refine g_iloadN XL d5_8 rfl 9 rfl ?_
        refine g_baload XL A j' hj (by omega) (.int (f j')) rfl d5_9 10 rfl ?_
        refine g_bipush XL (48 : Int32) d5_10 rfl 12 rfl ?_
        refine g_icmp XL i_lt d5_12 29 (by decide) (by decide) 15 rfl (fun h2 => ?_) (fun h2 => ?_)
        · skip
          refine g_iloadN XL d5_29 rfl 30 rfl ?_
          exact g_retI XL d5_30 (by decide) (by decide) ⟨⟨_, rfl, by rw [hj, ← i3', dEnd_stop (fun q => q.2.1 h2)]⟩, rfl⟩
        · skip
          refine g_aloadN XL d5_15 rfl rfl 16 rfl ?_
          refine g_iloadN XL d5_16 rfl 17 rfl ?_
          refine g_baload XL A j' hj (by omega) (.int (f j')) rfl d5_17 18 rfl ?_
          refine g_bipush XL (57 : Int32) d5_18 rfl 20 rfl ?_
          refine g_icmp XL i_gt d5_20 29 (by decide) (by decide) 23 rfl (fun h3 => ?_) (fun h3 => ?_)
          · skip
            refine g_iloadN XL d5_29 rfl 30 rfl ?_
            exact g_retI XL d5_30 (by decide) (by decide) ⟨⟨_, rfl, by rw [hj, ← i3', dEnd_stop (fun q => q.2.2 h3)]⟩, rfl⟩
          · skip
            refine g_iinc XL (1 : Int32) d5_23 rfl rfl #[.val (.ref a), .val (.int i), .val (.int e), .val (.int (j + (1 : Int32)))] rfl 26 rfl ?_
            refine g_goto XL d5_26 2 (by decide) (by decide) ?_
            exact ih TL XL ((j + (1 : Int32)))  (by rw [own_inc hj (by omega)]; omega) (by rw [own_inc hj (by omega)]; omega) (own_dstep (own_inc hj (by omega)) hlt ⟨h2, h3⟩ i3') (by rw [own_inc hj (by omega)]; omega)
      · skip
        refine g_iloadN XL d5_29 rfl 30 rfl ?_
        exact g_retI XL d5_30 (by decide) (by decide) ⟨⟨_, rfl, by rw [hj, ← i3', dEnd_stop (fun q => own_ge hj he h1 q.1)]⟩, rfl⟩
  exact loop2 _ T0 X0 (i)  (by omega) (by omega) (by rw [hi]; rfl) (Nat.lt_succ_self _)
theorem d6_0 : decode prog_13_method_11_code 0 = .ok (.aload_n 0, 1) := by decide +kernel
theorem d6_1 : decode prog_13_method_11_code 1 = .ok (.iload_n 1, 1) := by decide +kernel
theorem d6_2 : decode prog_13_method_11_code 2 = .ok (.iload_n 2, 1) := by decide +kernel
theorem d6_3 : decode prog_13_method_11_code 3 = .ok (.invokestatic 178, 3) := by decide +kernel
theorem d6_6 : decode prog_13_method_11_code 6 = .ok (.istore_n 3, 1) := by decide +kernel
theorem d6_7 : decode prog_13_method_11_code 7 = .ok (.aload_n 0, 1) := by decide +kernel
theorem d6_8 : decode prog_13_method_11_code 8 = .ok (.iload_n 3, 1) := by decide +kernel
theorem d6_9 : decode prog_13_method_11_code 9 = .ok (.iload_n 2, 1) := by decide +kernel
theorem d6_10 : decode prog_13_method_11_code 10 = .ok (.invokestatic 182, 3) := by decide +kernel
theorem d6_13 : decode prog_13_method_11_code 13 = .ok (.istore 4, 2) := by decide +kernel
theorem d6_15 : decode prog_13_method_11_code 15 = .ok (.iload 4, 2) := by decide +kernel
theorem d6_17 : decode prog_13_method_11_code 17 = .ok (.iload_n 3, 1) := by decide +kernel
theorem d6_18 : decode prog_13_method_11_code 18 = .ok (.if_icmp .ne 5, 3) := by decide +kernel
theorem d6_21 : decode prog_13_method_11_code 21 = .ok (.iconst 0, 1) := by decide +kernel
theorem d6_22 : decode prog_13_method_11_code 22 = .ok (.ireturn, 1) := by decide +kernel
theorem d6_23 : decode prog_13_method_11_code 23 = .ok (.iload 4, 2) := by decide +kernel
theorem d6_25 : decode prog_13_method_11_code 25 = .ok (.istore_n 3, 1) := by decide +kernel
theorem d6_26 : decode prog_13_method_11_code 26 = .ok (.iload_n 3, 1) := by decide +kernel
theorem d6_27 : decode prog_13_method_11_code 27 = .ok (.iload_n 2, 1) := by decide +kernel
theorem d6_28 : decode prog_13_method_11_code 28 = .ok (.if_icmp .ge 34, 3) := by decide +kernel
theorem d6_31 : decode prog_13_method_11_code 31 = .ok (.aload_n 0, 1) := by decide +kernel
theorem d6_32 : decode prog_13_method_11_code 32 = .ok (.iload_n 3, 1) := by decide +kernel
theorem d6_33 : decode prog_13_method_11_code 33 = .ok (.baload, 1) := by decide +kernel
theorem d6_34 : decode prog_13_method_11_code 34 = .ok (.bipush 46, 2) := by decide +kernel
theorem d6_36 : decode prog_13_method_11_code 36 = .ok (.if_icmp .ne 26, 3) := by decide +kernel
theorem d6_39 : decode prog_13_method_11_code 39 = .ok (.aload_n 0, 1) := by decide +kernel
theorem d6_40 : decode prog_13_method_11_code 40 = .ok (.iload_n 3, 1) := by decide +kernel
theorem d6_41 : decode prog_13_method_11_code 41 = .ok (.iconst 1, 1) := by decide +kernel
theorem d6_42 : decode prog_13_method_11_code 42 = .ok (.iadd, 1) := by decide +kernel
theorem d6_43 : decode prog_13_method_11_code 43 = .ok (.iload_n 2, 1) := by decide +kernel
theorem d6_44 : decode prog_13_method_11_code 44 = .ok (.invokestatic 182, 3) := by decide +kernel
theorem d6_47 : decode prog_13_method_11_code 47 = .ok (.istore 5, 2) := by decide +kernel
theorem d6_49 : decode prog_13_method_11_code 49 = .ok (.iload 5, 2) := by decide +kernel
theorem d6_51 : decode prog_13_method_11_code 51 = .ok (.iload_n 3, 1) := by decide +kernel
theorem d6_52 : decode prog_13_method_11_code 52 = .ok (.iconst 1, 1) := by decide +kernel
theorem d6_53 : decode prog_13_method_11_code 53 = .ok (.iadd, 1) := by decide +kernel
theorem d6_54 : decode prog_13_method_11_code 54 = .ok (.if_icmp .ne 5, 3) := by decide +kernel
theorem d6_57 : decode prog_13_method_11_code 57 = .ok (.iconst 0, 1) := by decide +kernel
theorem d6_58 : decode prog_13_method_11_code 58 = .ok (.ireturn, 1) := by decide +kernel
theorem d6_59 : decode prog_13_method_11_code 59 = .ok (.iload 5, 2) := by decide +kernel
theorem d6_61 : decode prog_13_method_11_code 61 = .ok (.istore_n 3, 1) := by decide +kernel
theorem d6_62 : decode prog_13_method_11_code 62 = .ok (.iload_n 3, 1) := by decide +kernel
theorem d6_63 : decode prog_13_method_11_code 63 = .ok (.iload_n 2, 1) := by decide +kernel
theorem d6_64 : decode prog_13_method_11_code 64 = .ok (.if_icmp .ge 50, 3) := by decide +kernel
theorem d6_67 : decode prog_13_method_11_code 67 = .ok (.aload_n 0, 1) := by decide +kernel
theorem d6_68 : decode prog_13_method_11_code 68 = .ok (.iload_n 3, 1) := by decide +kernel
theorem d6_69 : decode prog_13_method_11_code 69 = .ok (.baload, 1) := by decide +kernel
theorem d6_70 : decode prog_13_method_11_code 70 = .ok (.bipush 101, 2) := by decide +kernel
theorem d6_72 : decode prog_13_method_11_code 72 = .ok (.if_icmp .eq 11, 3) := by decide +kernel
theorem d6_75 : decode prog_13_method_11_code 75 = .ok (.aload_n 0, 1) := by decide +kernel
theorem d6_76 : decode prog_13_method_11_code 76 = .ok (.iload_n 3, 1) := by decide +kernel
theorem d6_77 : decode prog_13_method_11_code 77 = .ok (.baload, 1) := by decide +kernel
theorem d6_78 : decode prog_13_method_11_code 78 = .ok (.bipush 69, 2) := by decide +kernel
theorem d6_80 : decode prog_13_method_11_code 80 = .ok (.if_icmp .ne 34, 3) := by decide +kernel
theorem d6_83 : decode prog_13_method_11_code 83 = .ok (.aload_n 0, 1) := by decide +kernel
theorem d6_84 : decode prog_13_method_11_code 84 = .ok (.iload_n 3, 1) := by decide +kernel
theorem d6_85 : decode prog_13_method_11_code 85 = .ok (.iconst 1, 1) := by decide +kernel
theorem d6_86 : decode prog_13_method_11_code 86 = .ok (.iadd, 1) := by decide +kernel
theorem d6_87 : decode prog_13_method_11_code 87 = .ok (.iload_n 2, 1) := by decide +kernel
theorem d6_88 : decode prog_13_method_11_code 88 = .ok (.invokestatic 178, 3) := by decide +kernel
theorem d6_91 : decode prog_13_method_11_code 91 = .ok (.istore 5, 2) := by decide +kernel
theorem d6_93 : decode prog_13_method_11_code 93 = .ok (.aload_n 0, 1) := by decide +kernel
theorem d6_94 : decode prog_13_method_11_code 94 = .ok (.iload 5, 2) := by decide +kernel
theorem d6_96 : decode prog_13_method_11_code 96 = .ok (.iload_n 2, 1) := by decide +kernel
theorem d6_97 : decode prog_13_method_11_code 97 = .ok (.invokestatic 182, 3) := by decide +kernel
theorem d6_100 : decode prog_13_method_11_code 100 = .ok (.istore 6, 2) := by decide +kernel
theorem d6_102 : decode prog_13_method_11_code 102 = .ok (.iload 6, 2) := by decide +kernel
theorem d6_104 : decode prog_13_method_11_code 104 = .ok (.iload 5, 2) := by decide +kernel
theorem d6_106 : decode prog_13_method_11_code 106 = .ok (.if_icmp .ne 5, 3) := by decide +kernel
theorem d6_109 : decode prog_13_method_11_code 109 = .ok (.iconst 0, 1) := by decide +kernel
theorem d6_110 : decode prog_13_method_11_code 110 = .ok (.ireturn, 1) := by decide +kernel
theorem d6_111 : decode prog_13_method_11_code 111 = .ok (.iload 6, 2) := by decide +kernel
theorem d6_113 : decode prog_13_method_11_code 113 = .ok (.istore_n 3, 1) := by decide +kernel
theorem d6_114 : decode prog_13_method_11_code 114 = .ok (.iload_n 3, 1) := by decide +kernel
theorem d6_115 : decode prog_13_method_11_code 115 = .ok (.iload_n 2, 1) := by decide +kernel
theorem d6_116 : decode prog_13_method_11_code 116 = .ok (.if_icmp .ne 7, 3) := by decide +kernel
theorem d6_119 : decode prog_13_method_11_code 119 = .ok (.iconst 1, 1) := by decide +kernel
theorem d6_120 : decode prog_13_method_11_code 120 = .ok (.goto 4, 3) := by decide +kernel
theorem d6_123 : decode prog_13_method_11_code 123 = .ok (.iconst 0, 1) := by decide +kernel
theorem d6_124 : decode prog_13_method_11_code 124 = .ok (.ireturn, 1) := by decide +kernel
abbrev Q6 (a : Addr) (i : Int32) (e : Int32) (i' : Nat) (e' : Nat) (f : Nat → Int32) (h0 : Heap) : Option Value → Heap → Prop := fun v h => (∃ z : Int32, v = some (.int z) ∧ (z = 1 ∨ z = 0) ∧ (z = 1 ↔ dec f e' i')) ∧ h0 = h
set_option maxRecDepth 65536 in
set_option maxHeartbeats 40000000 in
theorem rm6 {l : Launch} {Z : State} {a0 : Array Value} (hw : ∀ d ∈ tables_1, d.before a0 Z = true) (n0 : Nat) (a : Addr) (i : Int32) (e : Int32) (i' : Nat) (e' : Nat) (f : Nat → Int32) (h0 : Heap) (A : AI Z h0 a .byte 8 (fun j => .int (f j))) (hi : i.toInt = i') (he : e.toInt = e') (hle : e' ≤ 8) (hie : i' ≤ e') :
    Met l Z n0 (⟨"com/example/test_collection_measures/testcollectionmeasures/InputFile", "isDecimal", "([BII)Z"⟩ : MethodName) prog_13_method_11_code 7 (some .boolean) [] ({ frames := 1, cells := 0, slots := 0, locals := 15 } : Room) #[(.ref a), (.int i), (.int e)] h0 (Q6 a i e i' e' f h0) 0 0 := by
  refine Met.of pn5 (Ls := #[.val (.ref a), .val (.int i), .val (.int e), .unset, .unset, .unset, .unset]) rfl (fun k T0 X0 => ?_)
  refine g_aloadN X0 d6_0 rfl rfl 1 rfl ?_
  refine g_iloadN X0 d6_1 rfl 2 rfl ?_
  refine g_iloadN X0 d6_2 rfl 3 rfl ?_
  refine g_callS X0 [(.ref a), (.int i), (.int e)] [] (rm4 hw n0 a i e i' e' f h0 A hi he hle) (w16 hw) (w17 hw) (w14 hw) (w18 hw) (by decide) pd1 rfl rfl (by decide) (Nat.le_of_ble_eq_true rfl) (by decide) (by decide) d6_3 rfl 6 rfl (fun v1 T1 h1 X1 q1 => ?_)
  obtain ⟨⟨r1, rfl, hr1⟩, rfl⟩ := q1
  obtain ⟨m1, hm1⟩ : ∃ z, z = sEnd f e' i' := ⟨_, rfl⟩
  rw [← hm1] at hr1
  have le1 : i' ≤ m1 ∧ m1 ≤ e' := by subst hm1; unfold sEnd; split <;> omega
  show Go k n0 (Q6 a i e i' e' f h0) 0 0 T1 6 #[.val (.ref a), .val (.int i), .val (.int e), .unset, .unset, .unset, .unset] [(.int r1)]
  refine g_istoreN X1 d6_6 #[.val (.ref a), .val (.int i), .val (.int e), .val (.int r1), .unset, .unset, .unset] rfl 7 rfl ?_
  refine g_aloadN X1 d6_7 rfl rfl 8 rfl ?_
  refine g_iloadN X1 d6_8 rfl 9 rfl ?_
  refine g_iloadN X1 d6_9 rfl 10 rfl ?_
  refine g_callS X1 [(.ref a), (.int r1), (.int e)] [] (rm5 hw n0 a r1 e m1 e' f h0 A hr1 he hle (by omega)) (w19 hw) (w20 hw) (w14 hw) (w21 hw) (by decide) pd1 rfl rfl (by decide) (Nat.le_of_ble_eq_true rfl) (by decide) (by decide) d6_10 rfl 13 rfl (fun v2 T2 h2 X2 q2 => ?_)
  obtain ⟨⟨r2, rfl, hr2⟩, rfl⟩ := q2
  obtain ⟨m2, hm2⟩ : ∃ z, z = dEnd f e' m1 := ⟨_, rfl⟩
  rw [← hm2] at hr2
  have le2 : m1 ≤ m2 ∧ m2 ≤ e' := by subst hm2; have q := dEnd_ge (f := f) (e := e') _ m1 rfl; exact ⟨q.1, q.2 (by omega)⟩
  show Go k n0 (Q6 a i e i' e' f h0) 0 0 T2 13 #[.val (.ref a), .val (.int i), .val (.int e), .val (.int r1), .unset, .unset, .unset] [(.int r2)]
  refine g_istore X2 d6_13 #[.val (.ref a), .val (.int i), .val (.int e), .val (.int r1), .val (.int r2), .unset, .unset] rfl 15 rfl ?_
  refine g_iload X2 d6_15 rfl 17 rfl ?_
  refine g_iloadN X2 d6_17 rfl 18 rfl ?_
  refine g_icmpN X2 i_ne d6_18 23 (by decide) (by decide) 21 rfl (fun h3 => ?_) (fun h3 => ?_)
  · skip
    refine g_iconst X2 (0 : Int32) d6_21 rfl 22 rfl ?_
    have nf4 := own_eq hr2 hr1 h3
    exact g_retZ X2 d6_22 (by decide) (by decide) ⟨⟨_, rfl, by rw [own_b0]; simp, by rw [own_b0]; simp only [dec, tail1, tail2, ← hm1, ← hm2]; simp [eq_true nf4]⟩, rfl⟩
  · skip
    refine g_iload X2 d6_23 rfl 25 rfl ?_
    refine g_istoreN X2 d6_25 #[.val (.ref a), .val (.int i), .val (.int e), .val (.int r2), .val (.int r2), .unset, .unset] rfl 26 rfl ?_
    refine g_iloadN X2 d6_26 rfl 27 rfl ?_
    refine g_iloadN X2 d6_27 rfl 28 rfl ?_
    refine g_icmpN X2 i_ge d6_28 62 (by decide) (by decide) 31 rfl (fun h5 => ?_) (fun h5 => ?_)
    · skip
      have nf6 := own_ne hr2 hr1 h3
      have nf7 := own_lt hr2 he h5
      refine g_aloadN X2 d6_31 rfl rfl 32 rfl ?_
      refine g_iloadN X2 d6_32 rfl 33 rfl ?_
      refine g_baload X2 A m2 hr2 (by omega) (.int (f m2)) rfl d6_33 34 rfl ?_
      refine g_bipush X2 (46 : Int32) d6_34 rfl 36 rfl ?_
      refine g_icmpN X2 i_ne d6_36 62 (by decide) (by decide) 39 rfl (fun h8 => ?_) (fun h8 => ?_)
      · skip
        refine g_aloadN X2 d6_39 rfl rfl 40 rfl ?_
        refine g_iloadN X2 d6_40 rfl 41 rfl ?_
        refine g_iconst X2 (1 : Int32) d6_41 rfl 42 rfl ?_
        refine g_iadd X2 d6_42 43 rfl ?_
        refine g_iloadN X2 d6_43 rfl 44 rfl ?_
        have nf9 := own_ne hr2 hr1 h3
        have nf10 := own_lt hr2 he h5
        have p11 : (r2 + (1 : Int32)).toInt = ((m2 + 1 : Nat) : Int) := own_inc hr2 (by omega)
        refine g_callS X2 [(.ref a), (.int (r2 + (1 : Int32))), (.int e)] [] (rm5 hw n0 a (r2 + (1 : Int32)) e (m2 + 1) e' f h0 A p11 he hle (by omega)) (w19 hw) (w20 hw) (w14 hw) (w21 hw) (by decide) pd1 rfl rfl (by decide) (Nat.le_of_ble_eq_true rfl) (by decide) (by decide) d6_44 rfl 47 rfl (fun v12 T12 h12 X12 q12 => ?_)
        obtain ⟨⟨r12, rfl, hr12⟩, rfl⟩ := q12
        obtain ⟨m12, hm12⟩ : ∃ z, z = dEnd f e' (m2 + 1) := ⟨_, rfl⟩
        rw [← hm12] at hr12
        have le12 : (m2 + 1) ≤ m12 ∧ m12 ≤ e' := by subst hm12; have q := dEnd_ge (f := f) (e := e') _ (m2 + 1) rfl; exact ⟨q.1, q.2 (by omega)⟩
        show Go k n0 (Q6 a i e i' e' f h0) 0 0 T12 47 #[.val (.ref a), .val (.int i), .val (.int e), .val (.int r2), .val (.int r2), .unset, .unset] [(.int r12)]
        refine g_istore X12 d6_47 #[.val (.ref a), .val (.int i), .val (.int e), .val (.int r2), .val (.int r2), .val (.int r12), .unset] rfl 49 rfl ?_
        have nf13 := own_ne hr2 hr1 h3
        have nf14 := own_lt hr2 he h5
        refine g_iload X12 d6_49 rfl 51 rfl ?_
        refine g_iloadN X12 d6_51 rfl 52 rfl ?_
        refine g_iconst X12 (1 : Int32) d6_52 rfl 53 rfl ?_
        refine g_iadd X12 d6_53 54 rfl ?_
        refine g_icmpN X12 i_ne d6_54 59 (by decide) (by decide) 57 rfl (fun h15 => ?_) (fun h15 => ?_)
        · skip
          refine g_iconst X12 (0 : Int32) d6_57 rfl 58 rfl ?_
          have nf16 := own_ne hr2 hr1 h3
          have nf17 := own_lt hr2 he h5
          have nf18 := own_eq hr12 p11 h15
          exact g_retZ X12 d6_58 (by decide) (by decide) ⟨⟨_, rfl, by rw [own_b0]; simp, by rw [own_b0]; simp only [dec, tail1, tail2, ← hm1, ← hm2, ← hm12]; simp [nf16, nf17, eq_true h8, eq_true nf18]⟩, rfl⟩
        · skip
          refine g_iload X12 d6_59 rfl 61 rfl ?_
          refine g_istoreN X12 d6_61 #[.val (.ref a), .val (.int i), .val (.int e), .val (.int r12), .val (.int r2), .val (.int r12), .unset] rfl 62 rfl ?_
          refine g_iloadN X12 d6_62 rfl 63 rfl ?_
          refine g_iloadN X12 d6_63 rfl 64 rfl ?_
          refine g_icmpN X12 i_ge d6_64 114 (by decide) (by decide) 67 rfl (fun h19 => ?_) (fun h19 => ?_)
          · skip
            have nf20 := own_ne hr2 hr1 h3
            have nf21 := own_lt hr2 he h5
            have nf22 := own_ne hr12 p11 h15
            have nf23 := own_lt hr12 he h19
            refine g_aloadN X12 d6_67 rfl rfl 68 rfl ?_
            refine g_iloadN X12 d6_68 rfl 69 rfl ?_
            refine g_baload X12 A m12 hr12 (by omega) (.int (f m12)) rfl d6_69 70 rfl ?_
            refine g_bipush X12 (101 : Int32) d6_70 rfl 72 rfl ?_
            refine g_icmp X12 i_eq d6_72 83 (by decide) (by decide) 75 rfl (fun h24 => ?_) (fun h24 => ?_)
            · skip
              refine g_aloadN X12 d6_83 rfl rfl 84 rfl ?_
              refine g_iloadN X12 d6_84 rfl 85 rfl ?_
              refine g_iconst X12 (1 : Int32) d6_85 rfl 86 rfl ?_
              refine g_iadd X12 d6_86 87 rfl ?_
              refine g_iloadN X12 d6_87 rfl 88 rfl ?_
              have nf25 := own_ne hr2 hr1 h3
              have nf26 := own_lt hr2 he h5
              have nf27 := own_ne hr12 p11 h15
              have nf28 := own_lt hr12 he h19
              have p29 : (r12 + (1 : Int32)).toInt = ((m12 + 1 : Nat) : Int) := own_inc hr12 (by omega)
              refine g_callS X12 [(.ref a), (.int (r12 + (1 : Int32))), (.int e)] [] (rm4 hw n0 a (r12 + (1 : Int32)) e (m12 + 1) e' f h0 A p29 he hle) (w16 hw) (w17 hw) (w14 hw) (w18 hw) (by decide) pd1 rfl rfl (by decide) (Nat.le_of_ble_eq_true rfl) (by decide) (by decide) d6_88 rfl 91 rfl (fun v30 T30 h30 X30 q30 => ?_)
              obtain ⟨⟨r30, rfl, hr30⟩, rfl⟩ := q30
              obtain ⟨m30, hm30⟩ : ∃ z, z = sEnd f e' (m12 + 1) := ⟨_, rfl⟩
              rw [← hm30] at hr30
              have le30 : (m12 + 1) ≤ m30 ∧ m30 ≤ e' := by subst hm30; unfold sEnd; split <;> omega
              show Go k n0 (Q6 a i e i' e' f h0) 0 0 T30 91 #[.val (.ref a), .val (.int i), .val (.int e), .val (.int r12), .val (.int r2), .val (.int r12), .unset] [(.int r30)]
              refine g_istore X30 d6_91 #[.val (.ref a), .val (.int i), .val (.int e), .val (.int r12), .val (.int r2), .val (.int r30), .unset] rfl 93 rfl ?_
              refine g_aloadN X30 d6_93 rfl rfl 94 rfl ?_
              refine g_iload X30 d6_94 rfl 96 rfl ?_
              refine g_iloadN X30 d6_96 rfl 97 rfl ?_
              refine g_callS X30 [(.ref a), (.int r30), (.int e)] [] (rm5 hw n0 a r30 e m30 e' f h0 A hr30 he hle (by omega)) (w19 hw) (w20 hw) (w14 hw) (w21 hw) (by decide) pd1 rfl rfl (by decide) (Nat.le_of_ble_eq_true rfl) (by decide) (by decide) d6_97 rfl 100 rfl (fun v31 T31 h31 X31 q31 => ?_)
              obtain ⟨⟨r31, rfl, hr31⟩, rfl⟩ := q31
              obtain ⟨m31, hm31⟩ : ∃ z, z = dEnd f e' m30 := ⟨_, rfl⟩
              rw [← hm31] at hr31
              have le31 : m30 ≤ m31 ∧ m31 ≤ e' := by subst hm31; have q := dEnd_ge (f := f) (e := e') _ m30 rfl; exact ⟨q.1, q.2 (by omega)⟩
              show Go k n0 (Q6 a i e i' e' f h0) 0 0 T31 100 #[.val (.ref a), .val (.int i), .val (.int e), .val (.int r12), .val (.int r2), .val (.int r30), .unset] [(.int r31)]
              refine g_istore X31 d6_100 #[.val (.ref a), .val (.int i), .val (.int e), .val (.int r12), .val (.int r2), .val (.int r30), .val (.int r31)] rfl 102 rfl ?_
              refine g_iload X31 d6_102 rfl 104 rfl ?_
              refine g_iload X31 d6_104 rfl 106 rfl ?_
              refine g_icmpN X31 i_ne d6_106 111 (by decide) (by decide) 109 rfl (fun h32 => ?_) (fun h32 => ?_)
              · skip
                refine g_iconst X31 (0 : Int32) d6_109 rfl 110 rfl ?_
                have nf33 := own_ne hr2 hr1 h3
                have nf34 := own_lt hr2 he h5
                have nf35 := own_ne hr12 p11 h15
                have nf36 := own_lt hr12 he h19
                have nf37 := own_eq hr31 hr30 h32
                exact g_retZ X31 d6_110 (by decide) (by decide) ⟨⟨_, rfl, by rw [own_b0]; simp, by rw [own_b0]; simp only [dec, tail1, tail2, ← hm1, ← hm2, ← hm12, ← hm30, ← hm31]; simp [nf33, nf34, eq_true h8, nf35, nf36, eq_true h24, eq_true nf37]⟩, rfl⟩
              · skip
                refine g_iload X31 d6_111 rfl 113 rfl ?_
                refine g_istoreN X31 d6_113 #[.val (.ref a), .val (.int i), .val (.int e), .val (.int r31), .val (.int r2), .val (.int r30), .val (.int r31)] rfl 114 rfl ?_
                refine g_iloadN X31 d6_114 rfl 115 rfl ?_
                refine g_iloadN X31 d6_115 rfl 116 rfl ?_
                refine g_icmpN X31 i_ne d6_116 123 (by decide) (by decide) 119 rfl (fun h38 => ?_) (fun h38 => ?_)
                · skip
                  refine g_iconst X31 (1 : Int32) d6_119 rfl 120 rfl ?_
                  refine g_goto X31 d6_120 124 (by decide) (by decide) ?_
                  have nf39 := own_ne hr2 hr1 h3
                  have nf40 := own_lt hr2 he h5
                  have nf41 := own_ne hr12 p11 h15
                  have nf42 := own_lt hr12 he h19
                  have nf43 := own_ne hr31 hr30 h32
                  have nf44 := own_eq hr31 he h38
                  exact g_retZ X31 d6_124 (by decide) (by decide) ⟨⟨_, rfl, by rw [own_b1]; simp, by rw [own_b1]; simp only [dec, tail1, tail2, ← hm1, ← hm2, ← hm12, ← hm30, ← hm31]; simp [nf39, nf40, eq_true h8, nf41, nf42, eq_true h24, nf43, eq_true nf44]⟩, rfl⟩
                · skip
                  refine g_iconst X31 (0 : Int32) d6_123 rfl 124 rfl ?_
                  have nf45 := own_ne hr2 hr1 h3
                  have nf46 := own_lt hr2 he h5
                  have nf47 := own_ne hr12 p11 h15
                  have nf48 := own_lt hr12 he h19
                  have nf49 := own_ne hr31 hr30 h32
                  have nf50 := own_ne hr31 he h38
                  exact g_retZ X31 d6_124 (by decide) (by decide) ⟨⟨_, rfl, by rw [own_b0]; simp, by rw [own_b0]; simp only [dec, tail1, tail2, ← hm1, ← hm2, ← hm12, ← hm30, ← hm31]; simp [nf45, nf46, eq_true h8, nf47, nf48, eq_true h24, nf49, nf50]⟩, rfl⟩
            · skip
              have nf51 := own_ne hr2 hr1 h3
              have nf52 := own_lt hr2 he h5
              have nf53 := own_ne hr12 p11 h15
              have nf54 := own_lt hr12 he h19
              refine g_aloadN X12 d6_75 rfl rfl 76 rfl ?_
              refine g_iloadN X12 d6_76 rfl 77 rfl ?_
              refine g_baload X12 A m12 hr12 (by omega) (.int (f m12)) rfl d6_77 78 rfl ?_
              refine g_bipush X12 (69 : Int32) d6_78 rfl 80 rfl ?_
              refine g_icmpN X12 i_ne d6_80 114 (by decide) (by decide) 83 rfl (fun h55 => ?_) (fun h55 => ?_)
              · skip
                refine g_aloadN X12 d6_83 rfl rfl 84 rfl ?_
                refine g_iloadN X12 d6_84 rfl 85 rfl ?_
                refine g_iconst X12 (1 : Int32) d6_85 rfl 86 rfl ?_
                refine g_iadd X12 d6_86 87 rfl ?_
                refine g_iloadN X12 d6_87 rfl 88 rfl ?_
                have nf56 := own_ne hr2 hr1 h3
                have nf57 := own_lt hr2 he h5
                have nf58 := own_ne hr12 p11 h15
                have nf59 := own_lt hr12 he h19
                have p60 : (r12 + (1 : Int32)).toInt = ((m12 + 1 : Nat) : Int) := own_inc hr12 (by omega)
                refine g_callS X12 [(.ref a), (.int (r12 + (1 : Int32))), (.int e)] [] (rm4 hw n0 a (r12 + (1 : Int32)) e (m12 + 1) e' f h0 A p60 he hle) (w16 hw) (w17 hw) (w14 hw) (w18 hw) (by decide) pd1 rfl rfl (by decide) (Nat.le_of_ble_eq_true rfl) (by decide) (by decide) d6_88 rfl 91 rfl (fun v61 T61 h61 X61 q61 => ?_)
                obtain ⟨⟨r61, rfl, hr61⟩, rfl⟩ := q61
                obtain ⟨m61, hm61⟩ : ∃ z, z = sEnd f e' (m12 + 1) := ⟨_, rfl⟩
                rw [← hm61] at hr61
                have le61 : (m12 + 1) ≤ m61 ∧ m61 ≤ e' := by subst hm61; unfold sEnd; split <;> omega
                show Go k n0 (Q6 a i e i' e' f h0) 0 0 T61 91 #[.val (.ref a), .val (.int i), .val (.int e), .val (.int r12), .val (.int r2), .val (.int r12), .unset] [(.int r61)]
                refine g_istore X61 d6_91 #[.val (.ref a), .val (.int i), .val (.int e), .val (.int r12), .val (.int r2), .val (.int r61), .unset] rfl 93 rfl ?_
                refine g_aloadN X61 d6_93 rfl rfl 94 rfl ?_
                refine g_iload X61 d6_94 rfl 96 rfl ?_
                refine g_iloadN X61 d6_96 rfl 97 rfl ?_
                refine g_callS X61 [(.ref a), (.int r61), (.int e)] [] (rm5 hw n0 a r61 e m61 e' f h0 A hr61 he hle (by omega)) (w19 hw) (w20 hw) (w14 hw) (w21 hw) (by decide) pd1 rfl rfl (by decide) (Nat.le_of_ble_eq_true rfl) (by decide) (by decide) d6_97 rfl 100 rfl (fun v62 T62 h62 X62 q62 => ?_)
                obtain ⟨⟨r62, rfl, hr62⟩, rfl⟩ := q62
                obtain ⟨m62, hm62⟩ : ∃ z, z = dEnd f e' m61 := ⟨_, rfl⟩
                rw [← hm62] at hr62
                have le62 : m61 ≤ m62 ∧ m62 ≤ e' := by subst hm62; have q := dEnd_ge (f := f) (e := e') _ m61 rfl; exact ⟨q.1, q.2 (by omega)⟩
                show Go k n0 (Q6 a i e i' e' f h0) 0 0 T62 100 #[.val (.ref a), .val (.int i), .val (.int e), .val (.int r12), .val (.int r2), .val (.int r61), .unset] [(.int r62)]
                refine g_istore X62 d6_100 #[.val (.ref a), .val (.int i), .val (.int e), .val (.int r12), .val (.int r2), .val (.int r61), .val (.int r62)] rfl 102 rfl ?_
                refine g_iload X62 d6_102 rfl 104 rfl ?_
                refine g_iload X62 d6_104 rfl 106 rfl ?_
                refine g_icmpN X62 i_ne d6_106 111 (by decide) (by decide) 109 rfl (fun h63 => ?_) (fun h63 => ?_)
                · skip
                  refine g_iconst X62 (0 : Int32) d6_109 rfl 110 rfl ?_
                  have nf64 := own_ne hr2 hr1 h3
                  have nf65 := own_lt hr2 he h5
                  have nf66 := own_ne hr12 p11 h15
                  have nf67 := own_lt hr12 he h19
                  have nf68 := own_eq hr62 hr61 h63
                  exact g_retZ X62 d6_110 (by decide) (by decide) ⟨⟨_, rfl, by rw [own_b0]; simp, by rw [own_b0]; simp only [dec, tail1, tail2, ← hm1, ← hm2, ← hm12, ← hm61, ← hm62]; simp [nf64, nf65, eq_true h8, nf66, nf67, h24, eq_true h55, eq_true nf68]⟩, rfl⟩
                · skip
                  refine g_iload X62 d6_111 rfl 113 rfl ?_
                  refine g_istoreN X62 d6_113 #[.val (.ref a), .val (.int i), .val (.int e), .val (.int r62), .val (.int r2), .val (.int r61), .val (.int r62)] rfl 114 rfl ?_
                  refine g_iloadN X62 d6_114 rfl 115 rfl ?_
                  refine g_iloadN X62 d6_115 rfl 116 rfl ?_
                  refine g_icmpN X62 i_ne d6_116 123 (by decide) (by decide) 119 rfl (fun h69 => ?_) (fun h69 => ?_)
                  · skip
                    refine g_iconst X62 (1 : Int32) d6_119 rfl 120 rfl ?_
                    refine g_goto X62 d6_120 124 (by decide) (by decide) ?_
                    have nf70 := own_ne hr2 hr1 h3
                    have nf71 := own_lt hr2 he h5
                    have nf72 := own_ne hr12 p11 h15
                    have nf73 := own_lt hr12 he h19
                    have nf74 := own_ne hr62 hr61 h63
                    have nf75 := own_eq hr62 he h69
                    exact g_retZ X62 d6_124 (by decide) (by decide) ⟨⟨_, rfl, by rw [own_b1]; simp, by rw [own_b1]; simp only [dec, tail1, tail2, ← hm1, ← hm2, ← hm12, ← hm61, ← hm62]; simp [nf70, nf71, eq_true h8, nf72, nf73, h24, eq_true h55, nf74, eq_true nf75]⟩, rfl⟩
                  · skip
                    refine g_iconst X62 (0 : Int32) d6_123 rfl 124 rfl ?_
                    have nf76 := own_ne hr2 hr1 h3
                    have nf77 := own_lt hr2 he h5
                    have nf78 := own_ne hr12 p11 h15
                    have nf79 := own_lt hr12 he h19
                    have nf80 := own_ne hr62 hr61 h63
                    have nf81 := own_ne hr62 he h69
                    exact g_retZ X62 d6_124 (by decide) (by decide) ⟨⟨_, rfl, by rw [own_b0]; simp, by rw [own_b0]; simp only [dec, tail1, tail2, ← hm1, ← hm2, ← hm12, ← hm61, ← hm62]; simp [nf76, nf77, eq_true h8, nf78, nf79, h24, eq_true h55, nf80, nf81]⟩, rfl⟩
              · skip
                refine g_iloadN X12 d6_114 rfl 115 rfl ?_
                refine g_iloadN X12 d6_115 rfl 116 rfl ?_
                refine g_icmpN X12 i_ne d6_116 123 (by decide) (by decide) 119 rfl (fun h82 => ?_) (fun h82 => ?_)
                · skip
                  refine g_iconst X12 (1 : Int32) d6_119 rfl 120 rfl ?_
                  refine g_goto X12 d6_120 124 (by decide) (by decide) ?_
                  have nf83 := own_ne hr2 hr1 h3
                  have nf84 := own_lt hr2 he h5
                  have nf85 := own_ne hr12 p11 h15
                  have nf86 := own_lt hr12 he h19
                  have nf87 := own_eq hr12 he h82
                  exact g_retZ X12 d6_124 (by decide) (by decide) ⟨⟨_, rfl, by rw [own_b1]; simp, by rw [own_b1]; simp only [dec, tail1, tail2, ← hm1, ← hm2, ← hm12]; simp [nf83, nf84, eq_true h8, nf85, nf86, h24, h55, eq_true nf87]⟩, rfl⟩
                · skip
                  refine g_iconst X12 (0 : Int32) d6_123 rfl 124 rfl ?_
                  have nf88 := own_ne hr2 hr1 h3
                  have nf89 := own_lt hr2 he h5
                  have nf90 := own_ne hr12 p11 h15
                  have nf91 := own_lt hr12 he h19
                  have nf92 := own_ne hr12 he h82
                  exact g_retZ X12 d6_124 (by decide) (by decide) ⟨⟨_, rfl, by rw [own_b0]; simp, by rw [own_b0]; simp only [dec, tail1, tail2, ← hm1, ← hm2, ← hm12]; simp [nf88, nf89, eq_true h8, nf90, nf91, h24, h55, nf92]⟩, rfl⟩
          · skip
            refine g_iloadN X12 d6_114 rfl 115 rfl ?_
            refine g_iloadN X12 d6_115 rfl 116 rfl ?_
            refine g_icmpN X12 i_ne d6_116 123 (by decide) (by decide) 119 rfl (fun h93 => ?_) (fun h93 => ?_)
            · skip
              refine g_iconst X12 (1 : Int32) d6_119 rfl 120 rfl ?_
              refine g_goto X12 d6_120 124 (by decide) (by decide) ?_
              have nf94 := own_ne hr2 hr1 h3
              have nf95 := own_lt hr2 he h5
              have nf96 := own_ne hr12 p11 h15
              have nf97 := own_ge hr12 he h19
              have nf98 := own_eq hr12 he h93
              exact g_retZ X12 d6_124 (by decide) (by decide) ⟨⟨_, rfl, by rw [own_b1]; simp, by rw [own_b1]; simp only [dec, tail1, tail2, ← hm1, ← hm2, ← hm12]; simp [nf94, nf95, eq_true h8, nf96, nf97, eq_true nf98]⟩, rfl⟩
            · skip
              refine g_iconst X12 (0 : Int32) d6_123 rfl 124 rfl ?_
              have nf99 := own_ne hr2 hr1 h3
              have nf100 := own_lt hr2 he h5
              have nf101 := own_ne hr12 p11 h15
              have nf102 := own_ge hr12 he h19
              have nf103 := own_ne hr12 he h93
              exact g_retZ X12 d6_124 (by decide) (by decide) ⟨⟨_, rfl, by rw [own_b0]; simp, by rw [own_b0]; simp only [dec, tail1, tail2, ← hm1, ← hm2, ← hm12]; simp [nf99, nf100, eq_true h8, nf101, nf102, nf103]⟩, rfl⟩
      · skip
        refine g_iloadN X2 d6_62 rfl 63 rfl ?_
        refine g_iloadN X2 d6_63 rfl 64 rfl ?_
        refine g_icmpN X2 i_ge d6_64 114 (by decide) (by decide) 67 rfl (fun h104 => ?_) (fun h104 => ?_)
        · skip
          have nf105 := own_ne hr2 hr1 h3
          have nf106 := own_lt hr2 he h5
          refine g_aloadN X2 d6_67 rfl rfl 68 rfl ?_
          refine g_iloadN X2 d6_68 rfl 69 rfl ?_
          refine g_baload X2 A m2 hr2 (by omega) (.int (f m2)) rfl d6_69 70 rfl ?_
          refine g_bipush X2 (101 : Int32) d6_70 rfl 72 rfl ?_
          refine g_icmp X2 i_eq d6_72 83 (by decide) (by decide) 75 rfl (fun h107 => ?_) (fun h107 => ?_)
          · skip
            refine g_aloadN X2 d6_83 rfl rfl 84 rfl ?_
            refine g_iloadN X2 d6_84 rfl 85 rfl ?_
            refine g_iconst X2 (1 : Int32) d6_85 rfl 86 rfl ?_
            refine g_iadd X2 d6_86 87 rfl ?_
            refine g_iloadN X2 d6_87 rfl 88 rfl ?_
            have nf108 := own_ne hr2 hr1 h3
            have nf109 := own_lt hr2 he h5
            have p110 : (r2 + (1 : Int32)).toInt = ((m2 + 1 : Nat) : Int) := own_inc hr2 (by omega)
            refine g_callS X2 [(.ref a), (.int (r2 + (1 : Int32))), (.int e)] [] (rm4 hw n0 a (r2 + (1 : Int32)) e (m2 + 1) e' f h0 A p110 he hle) (w16 hw) (w17 hw) (w14 hw) (w18 hw) (by decide) pd1 rfl rfl (by decide) (Nat.le_of_ble_eq_true rfl) (by decide) (by decide) d6_88 rfl 91 rfl (fun v111 T111 h111 X111 q111 => ?_)
            obtain ⟨⟨r111, rfl, hr111⟩, rfl⟩ := q111
            obtain ⟨m111, hm111⟩ : ∃ z, z = sEnd f e' (m2 + 1) := ⟨_, rfl⟩
            rw [← hm111] at hr111
            have le111 : (m2 + 1) ≤ m111 ∧ m111 ≤ e' := by subst hm111; unfold sEnd; split <;> omega
            show Go k n0 (Q6 a i e i' e' f h0) 0 0 T111 91 #[.val (.ref a), .val (.int i), .val (.int e), .val (.int r2), .val (.int r2), .unset, .unset] [(.int r111)]
            refine g_istore X111 d6_91 #[.val (.ref a), .val (.int i), .val (.int e), .val (.int r2), .val (.int r2), .val (.int r111), .unset] rfl 93 rfl ?_
            refine g_aloadN X111 d6_93 rfl rfl 94 rfl ?_
            refine g_iload X111 d6_94 rfl 96 rfl ?_
            refine g_iloadN X111 d6_96 rfl 97 rfl ?_
            refine g_callS X111 [(.ref a), (.int r111), (.int e)] [] (rm5 hw n0 a r111 e m111 e' f h0 A hr111 he hle (by omega)) (w19 hw) (w20 hw) (w14 hw) (w21 hw) (by decide) pd1 rfl rfl (by decide) (Nat.le_of_ble_eq_true rfl) (by decide) (by decide) d6_97 rfl 100 rfl (fun v112 T112 h112 X112 q112 => ?_)
            obtain ⟨⟨r112, rfl, hr112⟩, rfl⟩ := q112
            obtain ⟨m112, hm112⟩ : ∃ z, z = dEnd f e' m111 := ⟨_, rfl⟩
            rw [← hm112] at hr112
            have le112 : m111 ≤ m112 ∧ m112 ≤ e' := by subst hm112; have q := dEnd_ge (f := f) (e := e') _ m111 rfl; exact ⟨q.1, q.2 (by omega)⟩
            show Go k n0 (Q6 a i e i' e' f h0) 0 0 T112 100 #[.val (.ref a), .val (.int i), .val (.int e), .val (.int r2), .val (.int r2), .val (.int r111), .unset] [(.int r112)]
            refine g_istore X112 d6_100 #[.val (.ref a), .val (.int i), .val (.int e), .val (.int r2), .val (.int r2), .val (.int r111), .val (.int r112)] rfl 102 rfl ?_
            refine g_iload X112 d6_102 rfl 104 rfl ?_
            refine g_iload X112 d6_104 rfl 106 rfl ?_
            refine g_icmpN X112 i_ne d6_106 111 (by decide) (by decide) 109 rfl (fun h113 => ?_) (fun h113 => ?_)
            · skip
              refine g_iconst X112 (0 : Int32) d6_109 rfl 110 rfl ?_
              have nf114 := own_ne hr2 hr1 h3
              have nf115 := own_lt hr2 he h5
              have nf116 := own_eq hr112 hr111 h113
              exact g_retZ X112 d6_110 (by decide) (by decide) ⟨⟨_, rfl, by rw [own_b0]; simp, by rw [own_b0]; simp only [dec, tail1, tail2, ← hm1, ← hm2, ← hm111, ← hm112]; simp [nf114, nf115, h8, eq_true h107, eq_true nf116]⟩, rfl⟩
            · skip
              refine g_iload X112 d6_111 rfl 113 rfl ?_
              refine g_istoreN X112 d6_113 #[.val (.ref a), .val (.int i), .val (.int e), .val (.int r112), .val (.int r2), .val (.int r111), .val (.int r112)] rfl 114 rfl ?_
              refine g_iloadN X112 d6_114 rfl 115 rfl ?_
              refine g_iloadN X112 d6_115 rfl 116 rfl ?_
              refine g_icmpN X112 i_ne d6_116 123 (by decide) (by decide) 119 rfl (fun h117 => ?_) (fun h117 => ?_)
              · skip
                refine g_iconst X112 (1 : Int32) d6_119 rfl 120 rfl ?_
                refine g_goto X112 d6_120 124 (by decide) (by decide) ?_
                have nf118 := own_ne hr2 hr1 h3
                have nf119 := own_lt hr2 he h5
                have nf120 := own_ne hr112 hr111 h113
                have nf121 := own_eq hr112 he h117
                exact g_retZ X112 d6_124 (by decide) (by decide) ⟨⟨_, rfl, by rw [own_b1]; simp, by rw [own_b1]; simp only [dec, tail1, tail2, ← hm1, ← hm2, ← hm111, ← hm112]; simp [nf118, nf119, h8, eq_true h107, nf120, eq_true nf121]⟩, rfl⟩
              · skip
                refine g_iconst X112 (0 : Int32) d6_123 rfl 124 rfl ?_
                have nf122 := own_ne hr2 hr1 h3
                have nf123 := own_lt hr2 he h5
                have nf124 := own_ne hr112 hr111 h113
                have nf125 := own_ne hr112 he h117
                exact g_retZ X112 d6_124 (by decide) (by decide) ⟨⟨_, rfl, by rw [own_b0]; simp, by rw [own_b0]; simp only [dec, tail1, tail2, ← hm1, ← hm2, ← hm111, ← hm112]; simp [nf122, nf123, h8, eq_true h107, nf124, nf125]⟩, rfl⟩
          · skip
            have nf126 := own_ne hr2 hr1 h3
            have nf127 := own_lt hr2 he h5
            refine g_aloadN X2 d6_75 rfl rfl 76 rfl ?_
            refine g_iloadN X2 d6_76 rfl 77 rfl ?_
            refine g_baload X2 A m2 hr2 (by omega) (.int (f m2)) rfl d6_77 78 rfl ?_
            refine g_bipush X2 (69 : Int32) d6_78 rfl 80 rfl ?_
            refine g_icmpN X2 i_ne d6_80 114 (by decide) (by decide) 83 rfl (fun h128 => ?_) (fun h128 => ?_)
            · skip
              refine g_aloadN X2 d6_83 rfl rfl 84 rfl ?_
              refine g_iloadN X2 d6_84 rfl 85 rfl ?_
              refine g_iconst X2 (1 : Int32) d6_85 rfl 86 rfl ?_
              refine g_iadd X2 d6_86 87 rfl ?_
              refine g_iloadN X2 d6_87 rfl 88 rfl ?_
              have nf129 := own_ne hr2 hr1 h3
              have nf130 := own_lt hr2 he h5
              have p131 : (r2 + (1 : Int32)).toInt = ((m2 + 1 : Nat) : Int) := own_inc hr2 (by omega)
              refine g_callS X2 [(.ref a), (.int (r2 + (1 : Int32))), (.int e)] [] (rm4 hw n0 a (r2 + (1 : Int32)) e (m2 + 1) e' f h0 A p131 he hle) (w16 hw) (w17 hw) (w14 hw) (w18 hw) (by decide) pd1 rfl rfl (by decide) (Nat.le_of_ble_eq_true rfl) (by decide) (by decide) d6_88 rfl 91 rfl (fun v132 T132 h132 X132 q132 => ?_)
              obtain ⟨⟨r132, rfl, hr132⟩, rfl⟩ := q132
              obtain ⟨m132, hm132⟩ : ∃ z, z = sEnd f e' (m2 + 1) := ⟨_, rfl⟩
              rw [← hm132] at hr132
              have le132 : (m2 + 1) ≤ m132 ∧ m132 ≤ e' := by subst hm132; unfold sEnd; split <;> omega
              show Go k n0 (Q6 a i e i' e' f h0) 0 0 T132 91 #[.val (.ref a), .val (.int i), .val (.int e), .val (.int r2), .val (.int r2), .unset, .unset] [(.int r132)]
              refine g_istore X132 d6_91 #[.val (.ref a), .val (.int i), .val (.int e), .val (.int r2), .val (.int r2), .val (.int r132), .unset] rfl 93 rfl ?_
              refine g_aloadN X132 d6_93 rfl rfl 94 rfl ?_
              refine g_iload X132 d6_94 rfl 96 rfl ?_
              refine g_iloadN X132 d6_96 rfl 97 rfl ?_
              refine g_callS X132 [(.ref a), (.int r132), (.int e)] [] (rm5 hw n0 a r132 e m132 e' f h0 A hr132 he hle (by omega)) (w19 hw) (w20 hw) (w14 hw) (w21 hw) (by decide) pd1 rfl rfl (by decide) (Nat.le_of_ble_eq_true rfl) (by decide) (by decide) d6_97 rfl 100 rfl (fun v133 T133 h133 X133 q133 => ?_)
              obtain ⟨⟨r133, rfl, hr133⟩, rfl⟩ := q133
              obtain ⟨m133, hm133⟩ : ∃ z, z = dEnd f e' m132 := ⟨_, rfl⟩
              rw [← hm133] at hr133
              have le133 : m132 ≤ m133 ∧ m133 ≤ e' := by subst hm133; have q := dEnd_ge (f := f) (e := e') _ m132 rfl; exact ⟨q.1, q.2 (by omega)⟩
              show Go k n0 (Q6 a i e i' e' f h0) 0 0 T133 100 #[.val (.ref a), .val (.int i), .val (.int e), .val (.int r2), .val (.int r2), .val (.int r132), .unset] [(.int r133)]
              refine g_istore X133 d6_100 #[.val (.ref a), .val (.int i), .val (.int e), .val (.int r2), .val (.int r2), .val (.int r132), .val (.int r133)] rfl 102 rfl ?_
              refine g_iload X133 d6_102 rfl 104 rfl ?_
              refine g_iload X133 d6_104 rfl 106 rfl ?_
              refine g_icmpN X133 i_ne d6_106 111 (by decide) (by decide) 109 rfl (fun h134 => ?_) (fun h134 => ?_)
              · skip
                refine g_iconst X133 (0 : Int32) d6_109 rfl 110 rfl ?_
                have nf135 := own_ne hr2 hr1 h3
                have nf136 := own_lt hr2 he h5
                have nf137 := own_eq hr133 hr132 h134
                exact g_retZ X133 d6_110 (by decide) (by decide) ⟨⟨_, rfl, by rw [own_b0]; simp, by rw [own_b0]; simp only [dec, tail1, tail2, ← hm1, ← hm2, ← hm132, ← hm133]; simp [nf135, nf136, h8, h107, eq_true h128, eq_true nf137]⟩, rfl⟩
              · skip
                refine g_iload X133 d6_111 rfl 113 rfl ?_
                refine g_istoreN X133 d6_113 #[.val (.ref a), .val (.int i), .val (.int e), .val (.int r133), .val (.int r2), .val (.int r132), .val (.int r133)] rfl 114 rfl ?_
                refine g_iloadN X133 d6_114 rfl 115 rfl ?_
                refine g_iloadN X133 d6_115 rfl 116 rfl ?_
                refine g_icmpN X133 i_ne d6_116 123 (by decide) (by decide) 119 rfl (fun h138 => ?_) (fun h138 => ?_)
                · skip
                  refine g_iconst X133 (1 : Int32) d6_119 rfl 120 rfl ?_
                  refine g_goto X133 d6_120 124 (by decide) (by decide) ?_
                  have nf139 := own_ne hr2 hr1 h3
                  have nf140 := own_lt hr2 he h5
                  have nf141 := own_ne hr133 hr132 h134
                  have nf142 := own_eq hr133 he h138
                  exact g_retZ X133 d6_124 (by decide) (by decide) ⟨⟨_, rfl, by rw [own_b1]; simp, by rw [own_b1]; simp only [dec, tail1, tail2, ← hm1, ← hm2, ← hm132, ← hm133]; simp [nf139, nf140, h8, h107, eq_true h128, nf141, eq_true nf142]⟩, rfl⟩
                · skip
                  refine g_iconst X133 (0 : Int32) d6_123 rfl 124 rfl ?_
                  have nf143 := own_ne hr2 hr1 h3
                  have nf144 := own_lt hr2 he h5
                  have nf145 := own_ne hr133 hr132 h134
                  have nf146 := own_ne hr133 he h138
                  exact g_retZ X133 d6_124 (by decide) (by decide) ⟨⟨_, rfl, by rw [own_b0]; simp, by rw [own_b0]; simp only [dec, tail1, tail2, ← hm1, ← hm2, ← hm132, ← hm133]; simp [nf143, nf144, h8, h107, eq_true h128, nf145, nf146]⟩, rfl⟩
            · skip
              refine g_iloadN X2 d6_114 rfl 115 rfl ?_
              refine g_iloadN X2 d6_115 rfl 116 rfl ?_
              refine g_icmpN X2 i_ne d6_116 123 (by decide) (by decide) 119 rfl (fun h147 => ?_) (fun h147 => ?_)
              · skip
                refine g_iconst X2 (1 : Int32) d6_119 rfl 120 rfl ?_
                refine g_goto X2 d6_120 124 (by decide) (by decide) ?_
                have nf148 := own_ne hr2 hr1 h3
                have nf149 := own_lt hr2 he h5
                have nf150 := own_eq hr2 he h147
                exact g_retZ X2 d6_124 (by decide) (by decide) ⟨⟨_, rfl, by rw [own_b1]; simp, by rw [own_b1]; simp only [dec, tail1, tail2, ← hm1, ← hm2]; simp [nf148, nf149, h8, h107, h128, eq_true nf150]⟩, rfl⟩
              · skip
                refine g_iconst X2 (0 : Int32) d6_123 rfl 124 rfl ?_
                have nf151 := own_ne hr2 hr1 h3
                have nf152 := own_lt hr2 he h5
                have nf153 := own_ne hr2 he h147
                exact g_retZ X2 d6_124 (by decide) (by decide) ⟨⟨_, rfl, by rw [own_b0]; simp, by rw [own_b0]; simp only [dec, tail1, tail2, ← hm1, ← hm2]; simp [nf151, nf152, h8, h107, h128, nf153]⟩, rfl⟩
        · exact absurd h5 h104
    · skip
      refine g_iloadN X2 d6_62 rfl 63 rfl ?_
      refine g_iloadN X2 d6_63 rfl 64 rfl ?_
      refine g_icmpN X2 i_ge d6_64 114 (by decide) (by decide) 67 rfl (fun h154 => ?_) (fun h154 => ?_)
      · exact absurd h154 h5
      · skip
        refine g_iloadN X2 d6_114 rfl 115 rfl ?_
        refine g_iloadN X2 d6_115 rfl 116 rfl ?_
        refine g_icmpN X2 i_ne d6_116 123 (by decide) (by decide) 119 rfl (fun h155 => ?_) (fun h155 => ?_)
        · skip
          refine g_iconst X2 (1 : Int32) d6_119 rfl 120 rfl ?_
          refine g_goto X2 d6_120 124 (by decide) (by decide) ?_
          have nf156 := own_ne hr2 hr1 h3
          have nf157 := own_ge hr2 he h5
          have nf158 := own_eq hr2 he h155
          exact g_retZ X2 d6_124 (by decide) (by decide) ⟨⟨_, rfl, by rw [own_b1]; simp, by rw [own_b1]; simp only [dec, tail1, tail2, ← hm1, ← hm2]; simp [nf156, nf157, eq_true nf158]⟩, rfl⟩
        · skip
          refine g_iconst X2 (0 : Int32) d6_123 rfl 124 rfl ?_
          have nf159 := own_ne hr2 hr1 h3
          have nf160 := own_ge hr2 he h5
          have nf161 := own_ne hr2 he h155
          exact g_retZ X2 d6_124 (by decide) (by decide) ⟨⟨_, rfl, by rw [own_b0]; simp, by rw [own_b0]; simp only [dec, tail1, tail2, ← hm1, ← hm2]; simp [nf159, nf160, nf161]⟩, rfl⟩
abbrev Q0 (a : Int64) (b : Int64) (s : Int32) (e : Int32)  (h0 : Heap) : Option Value → Heap → Prop := fun v h => v = some (.int 1)
set_option maxRecDepth 65536 in
set_option maxHeartbeats 40000000 in
theorem rm0 {l : Launch} {Z : State} {a0 : Array Value} (hw : ∀ d ∈ tables_1, d.before a0 Z = true) (n0 : Nat) (a : Int64) (b : Int64) (s : Int32) (e : Int32)  (h0 : Heap) (Z0 : n0 ≤ h0.size)  :
    Met l Z n0 x code maxLocals ret tables_1 room_1 #[(.long a), (.long b), (.int s), (.int e)] h0 (Q0 a b s e h0) 16 128 := by
  refine Met.of pn6 (Ls := #[.val (.long a), .second, .val (.long b), .second, .val (.int s), .val (.int e), .unset, .unset, .unset, .unset, .unset]) rfl (fun k T0 X0 => ?_)
  refine g_bipush X0 (8 : Int32) at_0 rfl 2 rfl ?_
  refine g_newP (aty := .byte) X0 (w0 hw) 8 8 (by decide) (by decide) (by decide) at_2 (by decide) (by decide) 4 rfl (fun T1 h1 b1 X1 g1 E1 A1 => ?_)
  have g_b1 : n0 ≤ b1 := Nat.le_trans Z0 (Nat.le_of_eq g1.symm)
  have z2 : n0 ≤ h1.size := Nat.le_trans Z0 E1.1
  refine g_astore X1 at_4 rfl #[.val (.long a), .second, .val (.long b), .second, .val (.int s), .val (.int e), .val (.ref b1), .unset, .unset, .unset, .unset] rfl 6 rfl ?_
  refine g_aload X1 at_6 rfl rfl 8 rfl ?_
  refine g_iconst X1 (0 : Int32) at_8 rfl 9 rfl ?_
  refine g_lloadN X1 at_9 rfl 10 rfl ?_
  refine g_lloadN X1 at_10 rfl 11 rfl ?_
  refine g_iconst X1 (0 : Int32) at_11 rfl 12 rfl ?_
  refine g_callS X1 [(.long a), (.long b), (.int (0 : Int32))] [(.int (0 : Int32)), (.ref b1)] (rm1 hw n0 a b (0 : Int32) h1) (w1 hw) (w2 hw) (w3 hw) (w4 hw) (by decide) pd2 rfl rfl (by decide) (Nat.le_of_ble_eq_true rfl) (by decide) (by decide) at_12 rfl 15 rfl (fun v3 T3 h3 X3 q3 => ?_)
  obtain ⟨⟨z3, rfl⟩, rfl⟩ := q3
  show Go k n0 (Q0 a b s e h0) 16 128 T3 15 #[.val (.long a), .second, .val (.long b), .second, .val (.int s), .val (.int e), .val (.ref b1), .unset, .unset, .unset, .unset] [(.int z3), (.int (0 : Int32)), (.ref b1)]
  refine g_bastore X3 A1 0 (by decide) (by decide) g_b1 at_15 16 rfl (fun T4 h4 X4 W4 => ?_)
  have z5 : n0 ≤ h4.size := Nat.le_trans z2 (Nat.le_of_eq W4.size.symm)
  have A4 := AI.set A1 W4
  refine g_aload X4 at_16 rfl rfl 18 rfl ?_
  refine g_iconst X4 (1 : Int32) at_18 rfl 19 rfl ?_
  refine g_lloadN X4 at_19 rfl 20 rfl ?_
  refine g_lloadN X4 at_20 rfl 21 rfl ?_
  refine g_iconst X4 (1 : Int32) at_21 rfl 22 rfl ?_
  refine g_callS X4 [(.long a), (.long b), (.int (1 : Int32))] [(.int (1 : Int32)), (.ref b1)] (rm1 hw n0 a b (1 : Int32) h4) (w1 hw) (w2 hw) (w3 hw) (w4 hw) (by decide) pd2 rfl rfl (by decide) (Nat.le_of_ble_eq_true rfl) (by decide) (by decide) at_22 rfl 25 rfl (fun v6 T6 h6 X6 q6 => ?_)
  obtain ⟨⟨z6, rfl⟩, rfl⟩ := q6
  show Go k n0 (Q0 a b s e h0) 16 128 T6 25 #[.val (.long a), .second, .val (.long b), .second, .val (.int s), .val (.int e), .val (.ref b1), .unset, .unset, .unset, .unset] [(.int z6), (.int (1 : Int32)), (.ref b1)]
  refine g_bastore X6 A4 1 (by decide) (by decide) g_b1 at_25 26 rfl (fun T7 h7 X7 W7 => ?_)
  have z8 : n0 ≤ h7.size := Nat.le_trans z5 (Nat.le_of_eq W7.size.symm)
  have A7 := AI.set A4 W7
  refine g_aload X7 at_26 rfl rfl 28 rfl ?_
  refine g_iconst X7 (2 : Int32) at_28 rfl 29 rfl ?_
  refine g_lloadN X7 at_29 rfl 30 rfl ?_
  refine g_lloadN X7 at_30 rfl 31 rfl ?_
  refine g_iconst X7 (2 : Int32) at_31 rfl 32 rfl ?_
  refine g_callS X7 [(.long a), (.long b), (.int (2 : Int32))] [(.int (2 : Int32)), (.ref b1)] (rm1 hw n0 a b (2 : Int32) h7) (w1 hw) (w2 hw) (w3 hw) (w4 hw) (by decide) pd2 rfl rfl (by decide) (Nat.le_of_ble_eq_true rfl) (by decide) (by decide) at_32 rfl 35 rfl (fun v9 T9 h9 X9 q9 => ?_)
  obtain ⟨⟨z9, rfl⟩, rfl⟩ := q9
  show Go k n0 (Q0 a b s e h0) 16 128 T9 35 #[.val (.long a), .second, .val (.long b), .second, .val (.int s), .val (.int e), .val (.ref b1), .unset, .unset, .unset, .unset] [(.int z9), (.int (2 : Int32)), (.ref b1)]
  refine g_bastore X9 A7 2 (by decide) (by decide) g_b1 at_35 36 rfl (fun T10 h10 X10 W10 => ?_)
  have z11 : n0 ≤ h10.size := Nat.le_trans z8 (Nat.le_of_eq W10.size.symm)
  have A10 := AI.set A7 W10
  refine g_aload X10 at_36 rfl rfl 38 rfl ?_
  refine g_iconst X10 (3 : Int32) at_38 rfl 39 rfl ?_
  refine g_lloadN X10 at_39 rfl 40 rfl ?_
  refine g_lloadN X10 at_40 rfl 41 rfl ?_
  refine g_iconst X10 (3 : Int32) at_41 rfl 42 rfl ?_
  refine g_callS X10 [(.long a), (.long b), (.int (3 : Int32))] [(.int (3 : Int32)), (.ref b1)] (rm1 hw n0 a b (3 : Int32) h10) (w1 hw) (w2 hw) (w3 hw) (w4 hw) (by decide) pd2 rfl rfl (by decide) (Nat.le_of_ble_eq_true rfl) (by decide) (by decide) at_42 rfl 45 rfl (fun v12 T12 h12 X12 q12 => ?_)
  obtain ⟨⟨z12, rfl⟩, rfl⟩ := q12
  show Go k n0 (Q0 a b s e h0) 16 128 T12 45 #[.val (.long a), .second, .val (.long b), .second, .val (.int s), .val (.int e), .val (.ref b1), .unset, .unset, .unset, .unset] [(.int z12), (.int (3 : Int32)), (.ref b1)]
  refine g_bastore X12 A10 3 (by decide) (by decide) g_b1 at_45 46 rfl (fun T13 h13 X13 W13 => ?_)
  have z14 : n0 ≤ h13.size := Nat.le_trans z11 (Nat.le_of_eq W13.size.symm)
  have A13 := AI.set A10 W13
  refine g_aload X13 at_46 rfl rfl 48 rfl ?_
  refine g_iconst X13 (4 : Int32) at_48 rfl 49 rfl ?_
  refine g_lloadN X13 at_49 rfl 50 rfl ?_
  refine g_lloadN X13 at_50 rfl 51 rfl ?_
  refine g_iconst X13 (4 : Int32) at_51 rfl 52 rfl ?_
  refine g_callS X13 [(.long a), (.long b), (.int (4 : Int32))] [(.int (4 : Int32)), (.ref b1)] (rm1 hw n0 a b (4 : Int32) h13) (w1 hw) (w2 hw) (w3 hw) (w4 hw) (by decide) pd2 rfl rfl (by decide) (Nat.le_of_ble_eq_true rfl) (by decide) (by decide) at_52 rfl 55 rfl (fun v15 T15 h15 X15 q15 => ?_)
  obtain ⟨⟨z15, rfl⟩, rfl⟩ := q15
  show Go k n0 (Q0 a b s e h0) 16 128 T15 55 #[.val (.long a), .second, .val (.long b), .second, .val (.int s), .val (.int e), .val (.ref b1), .unset, .unset, .unset, .unset] [(.int z15), (.int (4 : Int32)), (.ref b1)]
  refine g_bastore X15 A13 4 (by decide) (by decide) g_b1 at_55 56 rfl (fun T16 h16 X16 W16 => ?_)
  have z17 : n0 ≤ h16.size := Nat.le_trans z14 (Nat.le_of_eq W16.size.symm)
  have A16 := AI.set A13 W16
  refine g_aload X16 at_56 rfl rfl 58 rfl ?_
  refine g_iconst X16 (5 : Int32) at_58 rfl 59 rfl ?_
  refine g_lloadN X16 at_59 rfl 60 rfl ?_
  refine g_lloadN X16 at_60 rfl 61 rfl ?_
  refine g_iconst X16 (5 : Int32) at_61 rfl 62 rfl ?_
  refine g_callS X16 [(.long a), (.long b), (.int (5 : Int32))] [(.int (5 : Int32)), (.ref b1)] (rm1 hw n0 a b (5 : Int32) h16) (w1 hw) (w2 hw) (w3 hw) (w4 hw) (by decide) pd2 rfl rfl (by decide) (Nat.le_of_ble_eq_true rfl) (by decide) (by decide) at_62 rfl 65 rfl (fun v18 T18 h18 X18 q18 => ?_)
  obtain ⟨⟨z18, rfl⟩, rfl⟩ := q18
  show Go k n0 (Q0 a b s e h0) 16 128 T18 65 #[.val (.long a), .second, .val (.long b), .second, .val (.int s), .val (.int e), .val (.ref b1), .unset, .unset, .unset, .unset] [(.int z18), (.int (5 : Int32)), (.ref b1)]
  refine g_bastore X18 A16 5 (by decide) (by decide) g_b1 at_65 66 rfl (fun T19 h19 X19 W19 => ?_)
  have z20 : n0 ≤ h19.size := Nat.le_trans z17 (Nat.le_of_eq W19.size.symm)
  have A19 := AI.set A16 W19
  refine g_aload X19 at_66 rfl rfl 68 rfl ?_
  refine g_bipush X19 (6 : Int32) at_68 rfl 70 rfl ?_
  refine g_lloadN X19 at_70 rfl 71 rfl ?_
  refine g_lloadN X19 at_71 rfl 72 rfl ?_
  refine g_bipush X19 (6 : Int32) at_72 rfl 74 rfl ?_
  refine g_callS X19 [(.long a), (.long b), (.int (6 : Int32))] [(.int (6 : Int32)), (.ref b1)] (rm1 hw n0 a b (6 : Int32) h19) (w1 hw) (w2 hw) (w3 hw) (w4 hw) (by decide) pd2 rfl rfl (by decide) (Nat.le_of_ble_eq_true rfl) (by decide) (by decide) at_74 rfl 77 rfl (fun v21 T21 h21 X21 q21 => ?_)
  obtain ⟨⟨z21, rfl⟩, rfl⟩ := q21
  show Go k n0 (Q0 a b s e h0) 16 128 T21 77 #[.val (.long a), .second, .val (.long b), .second, .val (.int s), .val (.int e), .val (.ref b1), .unset, .unset, .unset, .unset] [(.int z21), (.int (6 : Int32)), (.ref b1)]
  refine g_bastore X21 A19 6 (by decide) (by decide) g_b1 at_77 78 rfl (fun T22 h22 X22 W22 => ?_)
  have z23 : n0 ≤ h22.size := Nat.le_trans z20 (Nat.le_of_eq W22.size.symm)
  have A22 := AI.set A19 W22
  refine g_aload X22 at_78 rfl rfl 80 rfl ?_
  refine g_bipush X22 (7 : Int32) at_80 rfl 82 rfl ?_
  refine g_lloadN X22 at_82 rfl 83 rfl ?_
  refine g_lloadN X22 at_83 rfl 84 rfl ?_
  refine g_bipush X22 (7 : Int32) at_84 rfl 86 rfl ?_
  refine g_callS X22 [(.long a), (.long b), (.int (7 : Int32))] [(.int (7 : Int32)), (.ref b1)] (rm1 hw n0 a b (7 : Int32) h22) (w1 hw) (w2 hw) (w3 hw) (w4 hw) (by decide) pd2 rfl rfl (by decide) (Nat.le_of_ble_eq_true rfl) (by decide) (by decide) at_86 rfl 89 rfl (fun v24 T24 h24 X24 q24 => ?_)
  obtain ⟨⟨z24, rfl⟩, rfl⟩ := q24
  show Go k n0 (Q0 a b s e h0) 16 128 T24 89 #[.val (.long a), .second, .val (.long b), .second, .val (.int s), .val (.int e), .val (.ref b1), .unset, .unset, .unset, .unset] [(.int z24), (.int (7 : Int32)), (.ref b1)]
  refine g_bastore X24 A22 7 (by decide) (by decide) g_b1 at_89 90 rfl (fun T25 h25 X25 W25 => ?_)
  have z26 : n0 ≤ h25.size := Nat.le_trans z23 (Nat.le_of_eq W25.size.symm)
  have A25 := AI.set A22 W25
  obtain ⟨F, hF⟩ : ∃ F, F = own_f8 z3.toInt8.toInt32 z6.toInt8.toInt32 z9.toInt8.toInt32 z12.toInt8.toInt32 z15.toInt8.toInt32 z18.toInt8.toInt32 z21.toInt8.toInt32 z24.toInt8.toInt32 := ⟨_, rfl⟩
  have AA : AI Z h25 b1 .byte 8 (fun j => .int (F j)) := AI.to A25 (fun i hi => by (have q : i = 0 ∨ i = 1 ∨ i = 2 ∨ i = 3 ∨ i = 4 ∨ i = 5 ∨ i = 6 ∨ i = 7 := by omega); subst hF; rcases q with rfl | rfl | rfl | rfl | rfl | rfl | rfl | rfl <;> rfl)
  refine g_iload X25 at_90 rfl 92 rfl ?_
  refine g_ldcI X25 (w5 hw) at_92 94 rfl ?_
  refine g_iand X25 at_94 95 rfl ?_
  refine g_bipush X25 (9 : Int32) at_95 rfl 97 rfl ?_
  refine g_irem X25 at_97 (by decide) 98 rfl ?_
  refine g_istore X25 at_98 #[.val (.long a), .second, .val (.long b), .second, .val (.int s), .val (.int e), .val (.ref b1), .val (.int ((s &&& (2147483647 : Int32)) % (9 : Int32))), .unset, .unset, .unset] rfl 100 rfl ?_
  generalize hv27 : ((s &&& (2147483647 : Int32)) % (9 : Int32)) = v27
  obtain ⟨s', hs1, hs2⟩ := own_start hv27
  refine g_iload X25 at_100 rfl 102 rfl ?_
  refine g_iload X25 at_102 rfl 104 rfl ?_
  refine g_ldcI X25 (w5 hw) at_104 106 rfl ?_
  refine g_iand X25 at_106 107 rfl ?_
  refine g_bipush X25 (9 : Int32) at_107 rfl 109 rfl ?_
  refine g_iload X25 at_109 rfl 111 rfl ?_
  refine g_isub X25 at_111 112 rfl ?_
  refine g_irem X25 at_112 (own_nz hs1 hs2) 113 rfl ?_
  refine g_iadd X25 at_113 114 rfl ?_
  refine g_istore X25 at_114 #[.val (.long a), .second, .val (.long b), .second, .val (.int s), .val (.int e), .val (.ref b1), .val (.int v27), .val (.int (v27 + ((e &&& (2147483647 : Int32)) % ((9 : Int32) - v27)))), .unset, .unset] rfl 116 rfl ?_
  generalize hv28 : (v27 + ((e &&& (2147483647 : Int32)) % ((9 : Int32) - v27))) = v28
  obtain ⟨e', he1, he2, he3⟩ := own_end hs1 hs2 hv28
  refine g_iconst X25 (0 : Int32) at_116 rfl 117 rfl ?_
  refine g_istore X25 at_117 #[.val (.long a), .second, .val (.long b), .second, .val (.int s), .val (.int e), .val (.ref b1), .val (.int v27), .val (.int v28), .val (.int (0 : Int32)), .unset] rfl 119 rfl ?_
  refine g_iload X25 at_119 rfl 121 rfl ?_
  refine g_aload X25 at_121 rfl rfl 123 rfl ?_
  refine g_iload X25 at_123 rfl 125 rfl ?_
  refine g_iload X25 at_125 rfl 127 rfl ?_
  refine g_callS X25 [(.int (0 : Int32)), (.ref b1), (.int v27), (.int v28)] [] (rm3 hw n0 (0 : Int32) b1 v27 v28 s' e' F h25 AA hs1 he1 he3) (w6 hw) (w7 hw) (w3 hw) (w8 hw) (by decide) pd3 rfl rfl (by decide) (Nat.le_of_ble_eq_true rfl) (by decide) (by decide) at_127 rfl 130 rfl (fun v29 T29 h29 X29 q29 => ?_)
  obtain ⟨rfl, rfl⟩ := q29
  show Go k n0 (Q0 a b s e h0) 16 128 T29 130 #[.val (.long a), .second, .val (.long b), .second, .val (.int s), .val (.int e), .val (.ref b1), .val (.int v27), .val (.int v28), .val (.int (0 : Int32)), .unset] [(.int (stp F e' (0 : Int32) s')          )]
  refine g_istore X29 at_130 #[.val (.long a), .second, .val (.long b), .second, .val (.int s), .val (.int e), .val (.ref b1), .val (.int v27), .val (.int v28), .val (.int (stp F e' (0 : Int32) s')          ), .unset] rfl 132 rfl ?_
  generalize hv30 : (stp F e' (0 : Int32) s')           = v30
  refine g_iload X29 at_132 rfl 134 rfl ?_
  refine g_aload X29 at_134 rfl rfl 136 rfl ?_
  refine g_iload X29 at_136 rfl 138 rfl ?_
  refine g_iconst X29 (1 : Int32) at_138 rfl 139 rfl ?_
  refine g_iadd X29 at_139 140 rfl ?_
  refine g_iload X29 at_140 rfl 142 rfl ?_
  have hi1 : (v27 + (1 : Int32)).toInt = ((s' + 1 : Nat) : Int) := own_add hs1 (by decide : (1 : Int32).toInt = ((1 : Nat) : Int)) (by omega)
  refine g_callS X29 [(.int v30), (.ref b1), (.int (v27 + (1 : Int32))), (.int v28)] [] (rm3 hw n0 v30 b1 (v27 + (1 : Int32)) v28 (s' + 1) e' F h25 AA hi1 he1 he3) (w6 hw) (w7 hw) (w3 hw) (w8 hw) (by decide) pd3 rfl rfl (by decide) (Nat.le_of_ble_eq_true rfl) (by decide) (by decide) at_142 rfl 145 rfl (fun v31 T31 h31 X31 q31 => ?_)
  obtain ⟨rfl, rfl⟩ := q31
  show Go k n0 (Q0 a b s e h0) 16 128 T31 145 #[.val (.long a), .second, .val (.long b), .second, .val (.int s), .val (.int e), .val (.ref b1), .val (.int v27), .val (.int v28), .val (.int v30), .unset] [(.int (stp F e' v30 (s' + 1))          )]
  refine g_istore X31 at_145 #[.val (.long a), .second, .val (.long b), .second, .val (.int s), .val (.int e), .val (.ref b1), .val (.int v27), .val (.int v28), .val (.int (stp F e' v30 (s' + 1))          ), .unset] rfl 147 rfl ?_
  generalize hv32 : (stp F e' v30 (s' + 1))           = v32
  refine g_iload X31 at_147 rfl 149 rfl ?_
  refine g_aload X31 at_149 rfl rfl 151 rfl ?_
  refine g_iload X31 at_151 rfl 153 rfl ?_
  refine g_iconst X31 (2 : Int32) at_153 rfl 154 rfl ?_
  refine g_iadd X31 at_154 155 rfl ?_
  refine g_iload X31 at_155 rfl 157 rfl ?_
  have hi2 : (v27 + (2 : Int32)).toInt = ((s' + 2 : Nat) : Int) := own_add hs1 (by decide : (2 : Int32).toInt = ((2 : Nat) : Int)) (by omega)
  refine g_callS X31 [(.int v32), (.ref b1), (.int (v27 + (2 : Int32))), (.int v28)] [] (rm3 hw n0 v32 b1 (v27 + (2 : Int32)) v28 (s' + 2) e' F h25 AA hi2 he1 he3) (w6 hw) (w7 hw) (w3 hw) (w8 hw) (by decide) pd3 rfl rfl (by decide) (Nat.le_of_ble_eq_true rfl) (by decide) (by decide) at_157 rfl 160 rfl (fun v33 T33 h33 X33 q33 => ?_)
  obtain ⟨rfl, rfl⟩ := q33
  show Go k n0 (Q0 a b s e h0) 16 128 T33 160 #[.val (.long a), .second, .val (.long b), .second, .val (.int s), .val (.int e), .val (.ref b1), .val (.int v27), .val (.int v28), .val (.int v32), .unset] [(.int (stp F e' v32 (s' + 2))          )]
  refine g_istore X33 at_160 #[.val (.long a), .second, .val (.long b), .second, .val (.int s), .val (.int e), .val (.ref b1), .val (.int v27), .val (.int v28), .val (.int (stp F e' v32 (s' + 2))          ), .unset] rfl 162 rfl ?_
  generalize hv34 : (stp F e' v32 (s' + 2))           = v34
  refine g_iload X33 at_162 rfl 164 rfl ?_
  refine g_aload X33 at_164 rfl rfl 166 rfl ?_
  refine g_iload X33 at_166 rfl 168 rfl ?_
  refine g_iconst X33 (3 : Int32) at_168 rfl 169 rfl ?_
  refine g_iadd X33 at_169 170 rfl ?_
  refine g_iload X33 at_170 rfl 172 rfl ?_
  have hi3 : (v27 + (3 : Int32)).toInt = ((s' + 3 : Nat) : Int) := own_add hs1 (by decide : (3 : Int32).toInt = ((3 : Nat) : Int)) (by omega)
  refine g_callS X33 [(.int v34), (.ref b1), (.int (v27 + (3 : Int32))), (.int v28)] [] (rm3 hw n0 v34 b1 (v27 + (3 : Int32)) v28 (s' + 3) e' F h25 AA hi3 he1 he3) (w6 hw) (w7 hw) (w3 hw) (w8 hw) (by decide) pd3 rfl rfl (by decide) (Nat.le_of_ble_eq_true rfl) (by decide) (by decide) at_172 rfl 175 rfl (fun v35 T35 h35 X35 q35 => ?_)
  obtain ⟨rfl, rfl⟩ := q35
  show Go k n0 (Q0 a b s e h0) 16 128 T35 175 #[.val (.long a), .second, .val (.long b), .second, .val (.int s), .val (.int e), .val (.ref b1), .val (.int v27), .val (.int v28), .val (.int v34), .unset] [(.int (stp F e' v34 (s' + 3))          )]
  refine g_istore X35 at_175 #[.val (.long a), .second, .val (.long b), .second, .val (.int s), .val (.int e), .val (.ref b1), .val (.int v27), .val (.int v28), .val (.int (stp F e' v34 (s' + 3))          ), .unset] rfl 177 rfl ?_
  generalize hv36 : (stp F e' v34 (s' + 3))           = v36
  refine g_iload X35 at_177 rfl 179 rfl ?_
  refine g_aload X35 at_179 rfl rfl 181 rfl ?_
  refine g_iload X35 at_181 rfl 183 rfl ?_
  refine g_iconst X35 (4 : Int32) at_183 rfl 184 rfl ?_
  refine g_iadd X35 at_184 185 rfl ?_
  refine g_iload X35 at_185 rfl 187 rfl ?_
  have hi4 : (v27 + (4 : Int32)).toInt = ((s' + 4 : Nat) : Int) := own_add hs1 (by decide : (4 : Int32).toInt = ((4 : Nat) : Int)) (by omega)
  refine g_callS X35 [(.int v36), (.ref b1), (.int (v27 + (4 : Int32))), (.int v28)] [] (rm3 hw n0 v36 b1 (v27 + (4 : Int32)) v28 (s' + 4) e' F h25 AA hi4 he1 he3) (w6 hw) (w7 hw) (w3 hw) (w8 hw) (by decide) pd3 rfl rfl (by decide) (Nat.le_of_ble_eq_true rfl) (by decide) (by decide) at_187 rfl 190 rfl (fun v37 T37 h37 X37 q37 => ?_)
  obtain ⟨rfl, rfl⟩ := q37
  show Go k n0 (Q0 a b s e h0) 16 128 T37 190 #[.val (.long a), .second, .val (.long b), .second, .val (.int s), .val (.int e), .val (.ref b1), .val (.int v27), .val (.int v28), .val (.int v36), .unset] [(.int (stp F e' v36 (s' + 4))          )]
  refine g_istore X37 at_190 #[.val (.long a), .second, .val (.long b), .second, .val (.int s), .val (.int e), .val (.ref b1), .val (.int v27), .val (.int v28), .val (.int (stp F e' v36 (s' + 4))          ), .unset] rfl 192 rfl ?_
  generalize hv38 : (stp F e' v36 (s' + 4))           = v38
  refine g_iload X37 at_192 rfl 194 rfl ?_
  refine g_aload X37 at_194 rfl rfl 196 rfl ?_
  refine g_iload X37 at_196 rfl 198 rfl ?_
  refine g_iconst X37 (5 : Int32) at_198 rfl 199 rfl ?_
  refine g_iadd X37 at_199 200 rfl ?_
  refine g_iload X37 at_200 rfl 202 rfl ?_
  have hi5 : (v27 + (5 : Int32)).toInt = ((s' + 5 : Nat) : Int) := own_add hs1 (by decide : (5 : Int32).toInt = ((5 : Nat) : Int)) (by omega)
  refine g_callS X37 [(.int v38), (.ref b1), (.int (v27 + (5 : Int32))), (.int v28)] [] (rm3 hw n0 v38 b1 (v27 + (5 : Int32)) v28 (s' + 5) e' F h25 AA hi5 he1 he3) (w6 hw) (w7 hw) (w3 hw) (w8 hw) (by decide) pd3 rfl rfl (by decide) (Nat.le_of_ble_eq_true rfl) (by decide) (by decide) at_202 rfl 205 rfl (fun v39 T39 h39 X39 q39 => ?_)
  obtain ⟨rfl, rfl⟩ := q39
  show Go k n0 (Q0 a b s e h0) 16 128 T39 205 #[.val (.long a), .second, .val (.long b), .second, .val (.int s), .val (.int e), .val (.ref b1), .val (.int v27), .val (.int v28), .val (.int v38), .unset] [(.int (stp F e' v38 (s' + 5))          )]
  refine g_istore X39 at_205 #[.val (.long a), .second, .val (.long b), .second, .val (.int s), .val (.int e), .val (.ref b1), .val (.int v27), .val (.int v28), .val (.int (stp F e' v38 (s' + 5))          ), .unset] rfl 207 rfl ?_
  generalize hv40 : (stp F e' v38 (s' + 5))           = v40
  refine g_iload X39 at_207 rfl 209 rfl ?_
  refine g_aload X39 at_209 rfl rfl 211 rfl ?_
  refine g_iload X39 at_211 rfl 213 rfl ?_
  refine g_bipush X39 (6 : Int32) at_213 rfl 215 rfl ?_
  refine g_iadd X39 at_215 216 rfl ?_
  refine g_iload X39 at_216 rfl 218 rfl ?_
  have hi6 : (v27 + (6 : Int32)).toInt = ((s' + 6 : Nat) : Int) := own_add hs1 (by decide : (6 : Int32).toInt = ((6 : Nat) : Int)) (by omega)
  refine g_callS X39 [(.int v40), (.ref b1), (.int (v27 + (6 : Int32))), (.int v28)] [] (rm3 hw n0 v40 b1 (v27 + (6 : Int32)) v28 (s' + 6) e' F h25 AA hi6 he1 he3) (w6 hw) (w7 hw) (w3 hw) (w8 hw) (by decide) pd3 rfl rfl (by decide) (Nat.le_of_ble_eq_true rfl) (by decide) (by decide) at_218 rfl 221 rfl (fun v41 T41 h41 X41 q41 => ?_)
  obtain ⟨rfl, rfl⟩ := q41
  show Go k n0 (Q0 a b s e h0) 16 128 T41 221 #[.val (.long a), .second, .val (.long b), .second, .val (.int s), .val (.int e), .val (.ref b1), .val (.int v27), .val (.int v28), .val (.int v40), .unset] [(.int (stp F e' v40 (s' + 6))          )]
  refine g_istore X41 at_221 #[.val (.long a), .second, .val (.long b), .second, .val (.int s), .val (.int e), .val (.ref b1), .val (.int v27), .val (.int v28), .val (.int (stp F e' v40 (s' + 6))          ), .unset] rfl 223 rfl ?_
  generalize hv42 : (stp F e' v40 (s' + 6))           = v42
  refine g_iload X41 at_223 rfl 225 rfl ?_
  refine g_aload X41 at_225 rfl rfl 227 rfl ?_
  refine g_iload X41 at_227 rfl 229 rfl ?_
  refine g_bipush X41 (7 : Int32) at_229 rfl 231 rfl ?_
  refine g_iadd X41 at_231 232 rfl ?_
  refine g_iload X41 at_232 rfl 234 rfl ?_
  have hi7 : (v27 + (7 : Int32)).toInt = ((s' + 7 : Nat) : Int) := own_add hs1 (by decide : (7 : Int32).toInt = ((7 : Nat) : Int)) (by omega)
  refine g_callS X41 [(.int v42), (.ref b1), (.int (v27 + (7 : Int32))), (.int v28)] [] (rm3 hw n0 v42 b1 (v27 + (7 : Int32)) v28 (s' + 7) e' F h25 AA hi7 he1 he3) (w6 hw) (w7 hw) (w3 hw) (w8 hw) (by decide) pd3 rfl rfl (by decide) (Nat.le_of_ble_eq_true rfl) (by decide) (by decide) at_234 rfl 237 rfl (fun v43 T43 h43 X43 q43 => ?_)
  obtain ⟨rfl, rfl⟩ := q43
  show Go k n0 (Q0 a b s e h0) 16 128 T43 237 #[.val (.long a), .second, .val (.long b), .second, .val (.int s), .val (.int e), .val (.ref b1), .val (.int v27), .val (.int v28), .val (.int v42), .unset] [(.int (stp F e' v42 (s' + 7))          )]
  refine g_istore X43 at_237 #[.val (.long a), .second, .val (.long b), .second, .val (.int s), .val (.int e), .val (.ref b1), .val (.int v27), .val (.int v28), .val (.int (stp F e' v42 (s' + 7))          ), .unset] rfl 239 rfl ?_
  generalize hv44 : (stp F e' v42 (s' + 7))           = v44
  refine g_iload X43 at_239 rfl 241 rfl ?_
  refine g_iconst X43 (2 : Int32) at_241 rfl 242 rfl ?_
  have k263_14 : ∀ (v45 : Int32), v45 = (if v44 = (2 : Int32) then (1 : Int32) else (if v44 = (4 : Int32) then (1 : Int32) else (if v44 = (7 : Int32) then (1 : Int32) else (0 : Int32)))) → Go k n0 (Q0 a b s e h0) 16 128 T43 263 #[.val (.long a), .second, .val (.long b), .second, .val (.int s), .val (.int e), .val (.ref b1), .val (.int v27), .val (.int v28), .val (.int v44), .unset] [(.int v45)] := by
    intro v45 hv45
    refine g_istore X43 at_263 #[.val (.long a), .second, .val (.long b), .second, .val (.int s), .val (.int e), .val (.ref b1), .val (.int v27), .val (.int v28), .val (.int v44), .val (.int v45)] rfl 265 rfl ?_
    refine g_aload X43 at_265 rfl rfl 267 rfl ?_
    refine g_iload X43 at_267 rfl 269 rfl ?_
    refine g_iload X43 at_269 rfl 271 rfl ?_
    refine g_callS X43 [(.ref b1), (.int v27), (.int v28)] [] (rm6 hw n0 b1 v27 v28 s' e' F h25 AA hs1 he1 he3 he2) (w12 hw) (w13 hw) (w14 hw) (w15 hw) (by decide) pd4 rfl rfl (by decide) (Nat.le_of_ble_eq_true rfl) (by decide) (by decide) at_271 rfl 274 rfl (fun v46 T46 h46 X46 q46 => ?_)
    obtain ⟨⟨zz, rfl, z01, ziff⟩, rfl⟩ := q46
    show Go k n0 (Q0 a b s e h0) 16 128 T46 274 #[.val (.long a), .second, .val (.long b), .second, .val (.int s), .val (.int e), .val (.ref b1), .val (.int v27), .val (.int v28), .val (.int v44), .val (.int v45)] [(.int zz)]
    refine g_iload X46 at_274 rfl 276 rfl ?_
    have k284_15 : ∀ (v47 : Int32), (Q0 a b s e h0) (some (.int (v47 &&& 1))) h25 → Go k n0 (Q0 a b s e h0) 16 128 T46 284 #[.val (.long a), .second, .val (.long b), .second, .val (.int s), .val (.int e), .val (.ref b1), .val (.int v27), .val (.int v28), .val (.int v44), .val (.int v45)] [(.int v47)] := by
      intro v47 hQ
      exact g_retZ X46 at_284 (by decide) (by decide) hQ
    refine g_icmpN X46 i_ne at_276 283 (by decide) (by decide) 279 rfl (fun h48 => ?_) (fun h48 => ?_)
    · skip
      refine g_iconst X46 (1 : Int32) at_279 rfl 280 rfl ?_
      refine g_goto X46 at_280 284 (by decide) (by decide) ?_
      exact k284_15 ((1 : Int32)) own_one
    · skip
      refine g_iconst X46 (0 : Int32) at_283 rfl 284 rfl ?_
      have hrun : runN F e' 8 s' 0 = v44 := by rw [← hv44, ← hv42, ← hv40, ← hv38, ← hv36, ← hv34, ← hv32, ← hv30]; rfl
      have key := acc0 (f := F) (e := e') 8 s' (by omega) he2
      rw [hrun] at key
      exact k284_15 ((0 : Int32)) (absurd (own_fin key hv45 z01 ziff) h48)
  refine g_icmp X43 i_eq at_242 258 (by decide) (by decide) 245 rfl (fun h49 => ?_) (fun h49 => ?_)
  · skip
    refine g_iconst X43 (1 : Int32) at_258 rfl 259 rfl ?_
    refine g_goto X43 at_259 263 (by decide) (by decide) ?_
    exact k263_14 ((1 : Int32)) (by first | (simp only [if_pos h49]; done) | (simp only [if_pos h49]; done) | (simp only [h49, if_true, if_false, true_or, or_true, true_and, and_true, not_true_eq_false, not_false_eq_true, false_or, or_false, false_and, and_false]; done) | (simp only [h49, hv27, hv28, hv30, hv32, hv34, hv36, hv38, hv40, hv42, hv44, if_true, if_false, true_or, or_true, true_and, and_true, not_true_eq_false, not_false_eq_true, false_or, or_false, false_and, and_false]; done))
  · skip
    refine g_iload X43 at_245 rfl 247 rfl ?_
    refine g_iconst X43 (4 : Int32) at_247 rfl 248 rfl ?_
    refine g_icmp X43 i_eq at_248 258 (by decide) (by decide) 251 rfl (fun h50 => ?_) (fun h50 => ?_)
    · skip
      refine g_iconst X43 (1 : Int32) at_258 rfl 259 rfl ?_
      refine g_goto X43 at_259 263 (by decide) (by decide) ?_
      exact k263_14 ((1 : Int32)) (by first | (simp only [if_neg h49, if_pos h50]; done) | (simp only [if_neg h49, if_pos h50]; done) | (simp only [h49, h50, if_true, if_false, true_or, or_true, true_and, and_true, not_true_eq_false, not_false_eq_true, false_or, or_false, false_and, and_false]; done) | (simp only [h49, h50, hv27, hv28, hv30, hv32, hv34, hv36, hv38, hv40, hv42, hv44, if_true, if_false, true_or, or_true, true_and, and_true, not_true_eq_false, not_false_eq_true, false_or, or_false, false_and, and_false]; done))
    · skip
      refine g_iload X43 at_251 rfl 253 rfl ?_
      refine g_bipush X43 (7 : Int32) at_253 rfl 255 rfl ?_
      refine g_icmpN X43 i_ne at_255 262 (by decide) (by decide) 258 rfl (fun h51 => ?_) (fun h51 => ?_)
      · skip
        refine g_iconst X43 (1 : Int32) at_258 rfl 259 rfl ?_
        refine g_goto X43 at_259 263 (by decide) (by decide) ?_
        exact k263_14 ((1 : Int32)) (by first | (simp only [if_neg h49, if_neg h50, if_pos h51]; done) | (simp only [if_neg h49, if_neg h50, if_pos h51]; done) | (simp only [h49, h50, h51, if_true, if_false, true_or, or_true, true_and, and_true, not_true_eq_false, not_false_eq_true, false_or, or_false, false_and, and_false]; done) | (simp only [h49, h50, h51, hv27, hv28, hv30, hv32, hv34, hv36, hv38, hv40, hv42, hv44, if_true, if_false, true_or, or_true, true_and, and_true, not_true_eq_false, not_false_eq_true, false_or, or_false, false_and, and_false]; done))
      · skip
        refine g_iconst X43 (0 : Int32) at_262 rfl 263 rfl ?_
        exact k263_14 ((0 : Int32)) (by first | (simp only [if_neg h49, if_neg h50, if_neg h51]; done) | (simp only [if_neg h49, if_neg h50, if_neg h51]; done) | (simp only [h49, h50, h51, if_true, if_false, true_or, or_true, true_and, and_true, not_true_eq_false, not_false_eq_true, false_or, or_false, false_and, and_false]; done) | (simp only [h49, h50, h51, hv27, hv28, hv30, hv32, hv34, hv36, hv38, hv40, hv42, hv44, if_true, if_false, true_or, or_true, true_and, and_true, not_true_eq_false, not_false_eq_true, false_or, or_false, false_and, and_false]; done))
set_option maxRecDepth 65536 in
set_option maxHeartbeats 40000000 in
theorem comes_1 {Post : Tables → Env → Array Value → State → Outcome → State → Prop} (hpost : ∀ tb e args s v u, (limb_1_1.after args s (.returned v) u = true ∧ limb_1_2.after args s (.returned v) u = true ∧ True) → FrameEnd s (.returned v) u (Jvm.fieldLocs frame_1_writes args s ++ Jvm.arrayLocs frame_1_arrays args s ++ Jvm.staticLocs frame_1_statics s) 16 128 → Post tb e args s (.returned v) u) :
    ArmFor flags0 classFile x code maxLocals ret World_1 tables_1 room_1 Calls_1 rest_1 Pre_1 Post := by
  intro l hfl _ _ p e ha hc hk s m args below hf hA hF happ hP
  obtain ⟨hcalls, hrest, hpre⟩ := hP
  obtain ⟨-, -, -, hnamed, -, -, -, hat⟩ := (Spec.applies_iff hf).mp happ
  obtain ⟨hg, hn⟩ := and_e (Cond.before_iff.mp (show (Jvm.Cond.and given_1 narrow_1).before args s = true from hpre))
  obtain ⟨hcount, g0⟩ := and_e hg
  obtain ⟨q0, g1⟩ := and_e g0
  obtain ⟨q1, g2⟩ := and_e g1
  obtain ⟨q2, g3⟩ := and_e g2
  have q3 := g3
  obtain ⟨w0, w1, w2, w3, rfl⟩ : ∃ w0 w1 w2 w3 : Value, args = #[w0, w1, w2, w3] := by
    have hs : args.size = 4 := by simpa [Cond.value, given_1] using hcount
    obtain ⟨L⟩ := args
    match L, hs with
    | [w0, w1, w2, w3], _ => exact ⟨w0, w1, w2, w3, rfl⟩
  have hw := fun d (hd : d ∈ tables_1) => atoms_spec (ws := Jvm.Cond.code x code maxLocals ret :: tables_1) hat d (List.mem_cons_of_mem _ hd)
  have hfit : Fit s := fun {y c} hc i hi => by
    obtain ⟨ha, rfl⟩ := Array.getElem?_eq_some_iff.mp hc
    have q := List.all_eq_true.mp ((Array.all_eq_true_iff_forall_mem.mp hF) _ (Array.getElem_mem ha)) i (List.mem_range.mpr hi)
    simpa [Array.getElem?_eq_getElem hi] using q
  obtain ⟨i0, e0⟩ := isL_v q0
  obtain rfl : w0 = (.long i0) := Option.some.inj e0
  obtain ⟨i1, e1⟩ := isL_v q1
  obtain rfl : w1 = (.long i1) := Option.some.inj e1
  obtain ⟨i2, e2⟩ := is_v q2
  obtain rfl : w2 = (.int i2) := Option.some.inj e2
  obtain ⟨i3, e3⟩ := is_v q3
  obtain rfl : w3 = (.int i3) := Option.some.inj e3
  obtain ⟨n, o, h1, h2, h3, v, L, rfl, ⟨N, hQ⟩, hq⟩ := rm0 (l := l) hw s.heap.size i0 i1 i2 i3 s.heap (Nat.le_refl _) p e ha hc hk s m _ below hf ((Spec.applies_iff_loose hf).mp happ).1 ⟨rfl, State.Warmed39.refl s, rfl⟩ trivial
  obtain rfl : v = some (.int 1) := hQ
  refine ⟨n, _, h1, h2, h3, hpost _ _ _ _ _ _ ⟨Cond.after_iff.mpr rfl, Cond.after_iff.mpr (eq_i res_at (Term.int_eval (1)) rfl), trivial⟩ ⟨hq.1, hq.2.1, (hq.2.2.sift fun y hy => Or.inr (N y hy)).mono (by decide) (by decide)⟩⟩
theorem main_1_1 : Claimed_1_1 := comes_1 fun _ _ _ _ _ _ h hF => ⟨h.1, hF⟩
theorem main_1_2 : Claimed_1_2 := comes_1 fun _ _ _ _ _ _ h hF => ⟨h.2.1, hF⟩
end Jvm.Pilot.@@N@@
namespace Jvm.Pilot.@@N@@
open Jvm Jvm.ClassFile Sem Op Lib Jvm.Free Jvm.Stand Jvm.Pilot.@@N@@.Jvm.D
/-! MADE BY PROGRAM (witnessworld.py) out of the Statement's table words and the real class files: 9 classes; the members and pool entries that the words name. The judged class is class 1, her method 1. -/
namespace start1
open Jvm.ClassFile
def u (s : String) : CpInfo := .utf8 (stringToUtf16 s)
/-- a pool by its gaps: so many unusable entries, then the entry; so many at the end -/
def gap : Nat → List CpInfo → List CpInfo
  | 0, r => r
  | n + 1, r => .unusable :: gap n r
def poolList (es : List (Nat × CpInfo)) (last : Nat) : List CpInfo := es.foldr (fun e r => gap e.1 (e.2 :: r)) (gap last [])
def pool (es : List (Nat × CpInfo)) (last : Nat) : Array CpInfo := ⟨poolList es last⟩
def fileOf (pool : Array CpInfo) (this : Nat) (attrs : Array Attribute := #[]) (ms : Array MethodInfo := #[]) (fl : Nat := 33) (sup : Nat := 0) (ifs : Array Nat := #[]) (fds : Array FieldInfo := #[]) : ClassFile where
  minorVersion := 0
  majorVersion := 65
  constantPool := pool
  accessFlags := fl
  thisClass := this
  superClass := sup
  interfaces := ifs
  fields := fds
  methods := ms
  attributes := attrs
def plain (name : String) (sup : Option ClassId) : Class where
  name := name
  kind := .ordinary
  loader := none
  accessFlags := 33
  super := sup
  interfaces := #[]
  cf := none
  fields := #[]
  methods := #[]
  instanceTypes := #[]
  staticTypes := #[]
  resolved := #[]
  callSites := []
  init := .initialized
  statics := none
  mirror := none

def pool0 : Array CpInfo := pool [(5, u "<init>"), (0, u "()V"), (1, .class_ 10), (1, u "java/lang/Object")] 113

def k0m0 : Method := { name := "<init>", desc := "()V", sig := { parameters := [], returnType := none }, accessFlags := 1, code := none }
/-- java/lang/Object -/
def k0 : Class := { plain "java/lang/Object" none with
  accessFlags := 33
  interfaces := #[]
  cf := some (fileOf pool0 8 #[] #[{ accessFlags := 1, nameIndex := 5, descriptorIndex := 6, attributes := #[] }] 33 0 #[] #[])
  fields := #[]
  methods := #[k0m0]
  instanceTypes := #[]
  staticTypes := #[]
  resolved := Array.replicate 124 none
  statics := none }

def pool1 : Array CpInfo := pool [(2, .class_ 4), (1, u "java/lang/Object"), (0, u "<init>"), (0, u "()V"), (0, .methodref 8 9), (0, .class_ 10), (0, .nameAndType 11 12), (0, u "com/example/test_collection_measures/testcollectionmeasures/InputFileIsDecimalPinLaw"), (0, u "gen"), (0, u "(JJI)B"), (0, .integer 2147483647), (0, .methodref 8 15), (0, .nameAndType 16 17), (0, u "step"), (0, u "(I[BII)I"), (0, .methodref 19 20), (0, .class_ 21), (0, .nameAndType 22 23), (0, u "com/example/test_collection_measures/testcollectionmeasures/InputFile"), (0, u "isDecimal"), (0, u "([BII)Z"), (0, .methodref 8 25), (0, .nameAndType 26 27), (0, u "kind"), (0, u "(B)I"), (2, u "law"), (0, u "(JJII)Z")] 5

def k1m0 : Method := { name := "<init>", desc := "()V", sig := { parameters := [], returnType := none }, accessFlags := 1, code := none }
def k1c1 : Code := { maxStack := 7, maxLocals := 11, code := code, exceptionTable := #[], attributes := #[] }
def k1m1 : Method := { name := "law", desc := "(JJII)Z", sig := { parameters := [.long, .long, .int, .int], returnType := some .boolean }, accessFlags := 9, code := some k1c1 }
def k1c2 : Code := { maxStack := 4, maxLocals := 7, code := method_3_code, exceptionTable := #[], attributes := #[] }
def k1m2 : Method := { name := "gen", desc := "(JJI)B", sig := { parameters := [.long, .long, .int], returnType := some .byte }, accessFlags := 10, code := some k1c2 }
def k1c3 : Code := { maxStack := 2, maxLocals := 1, code := method_4_code, exceptionTable := #[], attributes := #[] }
def k1m3 : Method := { name := "kind", desc := "(B)I", sig := { parameters := [.byte], returnType := some .int }, accessFlags := 10, code := some k1c3 }
def k1c4 : Code := { maxStack := 2, maxLocals := 5, code := method_5_code, exceptionTable := #[], attributes := #[] }
def k1m4 : Method := { name := "step", desc := "(I[BII)I", sig := { parameters := [.int, (.array .byte), .int, .int], returnType := some .int }, accessFlags := 10, code := some k1c4 }
/-- com/example/test_collection_measures/testcollectionmeasures/InputFileIsDecimalPinLaw -/
def k1 : Class := { plain "com/example/test_collection_measures/testcollectionmeasures/InputFileIsDecimalPinLaw" (some 0) with
  accessFlags := 49
  interfaces := #[]
  cf := some (fileOf pool1 8 #[] #[{ accessFlags := 1, nameIndex := 5, descriptorIndex := 6, attributes := #[] }, { accessFlags := 9, nameIndex := 30, descriptorIndex := 31, attributes := #[] }, { accessFlags := 10, nameIndex := 11, descriptorIndex := 12, attributes := #[] }, { accessFlags := 10, nameIndex := 26, descriptorIndex := 27, attributes := #[] }, { accessFlags := 10, nameIndex := 16, descriptorIndex := 17, attributes := #[] }] 49 2 #[] #[])
  fields := #[]
  methods := #[k1m0, k1m1, k1m2, k1m3, k1m4]
  instanceTypes := #[]
  staticTypes := #[]
  resolved := Array.replicate 37 none
  statics := none }

def pool2 : Array CpInfo := pool [(2, .class_ 4), (1, u "java/lang/Object"), (0, u "<init>"), (0, u "()V"), (27, u "Ljava/nio/charset/Charset;"), (5, .class_ 42), (1, u "com/example/test_collection_measures/testcollectionmeasures/InputFile"), (0, u "LOCALE_CHARSET"), (47, .class_ 92), (0, u "com/example/test_collection_measures/testcollectionmeasures/InputFile$Lines"), (3, .class_ 97), (0, u "com/example/test_collection_measures/testcollectionmeasures/InputFile$Line"), (59, .class_ 159), (1, u "com/example/test_collection_measures/testcollectionmeasures/InputFile$LineHandler"), (4, u "Ljava/lang/String;"), (13, .methodref 40 179), (0, .nameAndType 180 181), (0, u "signEnd"), (0, u "([BII)I"), (0, .methodref 40 183), (0, .nameAndType 184 181), (0, u "digitsEnd"), (22, u "GZIP_SUFFIX"), (1, u "TEXT_BUFFER"), (0, u "I"), (1, u "NOT_DECIMAL"), (2, u "TOO_LARGE"), (14, u "isDecimal"), (0, u "([BII)Z")] 46

def k2m0 : Method := { name := "<init>", desc := "()V", sig := { parameters := [], returnType := none }, accessFlags := 2, code := none }
def k2c1 : Code := { maxStack := 3, maxLocals := 7, code := prog_13_method_11_code, exceptionTable := #[], attributes := #[] }
def k2m1 : Method := { name := "isDecimal", desc := "([BII)Z", sig := { parameters := [(.array .byte), .int, .int], returnType := some .boolean }, accessFlags := 8, code := some k2c1 }
def k2c2 : Code := { maxStack := 2, maxLocals := 4, code := prog_13_method_12_code, exceptionTable := #[], attributes := #[] }
def k2m2 : Method := { name := "signEnd", desc := "([BII)I", sig := { parameters := [(.array .byte), .int, .int], returnType := some .int }, accessFlags := 10, code := some k2c2 }
def k2c3 : Code := { maxStack := 2, maxLocals := 4, code := prog_13_method_13_code, exceptionTable := #[], attributes := #[] }
def k2m3 : Method := { name := "digitsEnd", desc := "([BII)I", sig := { parameters := [(.array .byte), .int, .int], returnType := some .int }, accessFlags := 10, code := some k2c3 }
/-- com/example/test_collection_measures/testcollectionmeasures/InputFile -/
def k2 : Class := { plain "com/example/test_collection_measures/testcollectionmeasures/InputFile" (some 0) with
  accessFlags := 32
  interfaces := #[]
  cf := some (fileOf pool2 40 #[.nestMembers #[96, 91, 157]] #[{ accessFlags := 2, nameIndex := 5, descriptorIndex := 6, attributes := #[] }, { accessFlags := 8, nameIndex := 230, descriptorIndex := 231, attributes := #[] }, { accessFlags := 10, nameIndex := 180, descriptorIndex := 181, attributes := #[] }, { accessFlags := 10, nameIndex := 184, descriptorIndex := 181, attributes := #[] }] 32 2 #[] #[{ accessFlags := 26, nameIndex := 207, descriptorIndex := 164, attributes := #[] }, { accessFlags := 24, nameIndex := 209, descriptorIndex := 210, attributes := #[] }, { accessFlags := 24, nameIndex := 212, descriptorIndex := 164, attributes := #[] }, { accessFlags := 24, nameIndex := 215, descriptorIndex := 164, attributes := #[] }, { accessFlags := 24, nameIndex := 43, descriptorIndex := 34, attributes := #[] }])
  fields := #[{ name := "GZIP_SUFFIX", type := (.object "java/lang/String"), accessFlags := 26, slot := 0, constantValue := 0 }, { name := "TEXT_BUFFER", type := .int, accessFlags := 24, slot := 1, constantValue := 0 }, { name := "NOT_DECIMAL", type := (.object "java/lang/String"), accessFlags := 24, slot := 2, constantValue := 0 }, { name := "TOO_LARGE", type := (.object "java/lang/String"), accessFlags := 24, slot := 3, constantValue := 0 }, { name := "LOCALE_CHARSET", type := (.object "java/nio/charset/Charset"), accessFlags := 24, slot := 4, constantValue := 0 }]
  methods := #[k2m0, k2m1, k2m2, k2m3]
  instanceTypes := #[]
  staticTypes := #[(.object "java/lang/String"), .int, (.object "java/lang/String"), (.object "java/lang/String"), (.object "java/nio/charset/Charset")]
  resolved := Array.replicate 278 none
  statics := none }

def pool3 : Array CpInfo := pool [(1, u "java/lang/Cloneable"), (0, .class_ 1), (0, u "java/lang/Object"), (0, .class_ 3)] 3

/-- java/lang/Cloneable -/
def k3 : Class := { plain "java/lang/Cloneable" (some 0) with
  accessFlags := 1537
  interfaces := #[]
  cf := some (fileOf pool3 2 #[] #[] 1537 4 #[] #[])
  fields := #[]
  methods := #[]
  instanceTypes := #[]
  staticTypes := #[]
  resolved := Array.replicate 8 none
  statics := none }

def pool4 : Array CpInfo := pool [(1, u "java/io/Serializable"), (0, .class_ 1), (0, u "java/lang/Object"), (0, .class_ 3)] 3

/-- java/io/Serializable -/
def k4 : Class := { plain "java/io/Serializable" (some 0) with
  accessFlags := 1537
  interfaces := #[]
  cf := some (fileOf pool4 2 #[] #[] 1537 4 #[] #[])
  fields := #[]
  methods := #[]
  instanceTypes := #[]
  staticTypes := #[]
  resolved := Array.replicate 8 none
  statics := none }

/-- the primitive byte -/
def k5 : Class := { plain "byte" none with kind := .primitive 'B', accessFlags := 0x411 }
/-- [B -/
def k6 : Class := { plain "[B" (some 0) with kind := .array 5 .byte, interfaces := #[3, 4], accessFlags := 1041 }

/-- the primitive int -/
def k7 : Class := { plain "int" none with kind := .primitive 'I', accessFlags := 0x411 }
/-- [I -/
def k8 : Class := { plain "[I" (some 0) with kind := .array 7 .int, interfaces := #[3, 4], accessFlags := 1041 }

def heap : Heap := #[]
def classes : Array Class := #[k0, k1, k2, k3, k4, k5, k6, k7, k8]
def interned : List (Array UInt16 × Addr) := []
def slotsUsed : Nat := 0
def theMethod : MethodId := ⟨1, 1⟩
def args0 : Array Value := #[.long 5, .long 6, .int 1, .int 3]
def aboutOver (below : List Frame) : State where
  vm := { classes := classes, interned := interned.toArray }
  heap := heap
  slotsUsed := slotsUsed
  threads := #[{ frames := .invoking theMethod args0 :: below }]
def below0 : List Frame := [.native { method := ⟨0, 0⟩, args := #[] }]
def about1 : State := aboutOver below0
def p0 : Program := .bare "" "" ""
def e0 : Env := launch0.env 0 0 0
theorem w_frames : about1.frames = Frame.invoking theMethod args0 :: below0 := rfl
set_option maxRecDepth 65536 in
theorem w_args : argsFit about1.vm theMethod args0 = true := by decide +kernel
set_option maxRecDepth 65536 in
theorem w_heap : heapFits about1 = true := by decide +kernel
set_option maxRecDepth 65536 in
theorem w_runnable : about1.curStatus? = some .runnable := by decide +kernel
set_option maxRecDepth 65536 in
theorem w_alone : about1.alone = true := by decide +kernel
set_option maxRecDepth 65536 in
theorem w_named : about1.methodNamed? x = some theMethod := by decide +kernel
set_option maxRecDepth 65536 in
theorem w_hears : about1.hears theMethod below0 = true := by decide +kernel
set_option maxRecDepth 65536 in
theorem w_ripe : about1.ripe theMethod args0 below0 = true := by decide +kernel
theorem w_running : about1.status = .running := rfl
set_option maxRecDepth 65536 in
theorem w_room : about1.hasRoom e0.platform room_1 = true :=
  launch0.hasRoom_least _ room_1 (by decide +kernel) (by decide +kernel) (by decide +kernel) (by decide +kernel) (by decide +kernel) (by decide +kernel)
theorem allAtoms_all (ts : List Jvm.Cond) (a : Array Jvm.Value) (st : Jvm.State) : (allAtoms ts).before a st = ts.all (fun c => c.before a st) := by
  induction ts with
  | nil => rfl
  | cons c t ih =>
    show (Jvm.Cond.and c (allAtoms t)).before a st = _
    rw [Jvm.Cond.before_and, ih, List.all_cons]
def words1 : List Jvm.Cond := Jvm.Cond.code x code maxLocals ret :: tables_1
/-- a 'code' word, met by the world's own term for the bytes: nothing is compared byte by byte -/
theorem code_word {y : MethodName} {bytes : ByteArray} {mx : Nat} {rt : Option FieldType} {a : Array Value} {s : State} {m : MethodId} {meth : Method} {c : Code} (h1 : s.methodNamed? y = some m) (h2 : s.vm.method? m = some meth) (h3 : meth.code = some c) (h4 : c.code = bytes)
    (h5 : (c.maxLocals == mx && c.exceptionTable.isEmpty && decide (c.maxStack ≤ mostOperands) && decide (meth.sig.returnType = rt) && !meth.locks && decide (parseMethodDescriptor y.desc = some meth.sig)) = true) : (Jvm.Cond.code y bytes mx rt).before a s = true := by
  simp only [Bool.and_eq_true, beq_iff_eq, Bool.not_eq_true', decide_eq_true_eq] at h5
  obtain ⟨⟨⟨⟨⟨g1, g2⟩, g3⟩, g4⟩, g5⟩, g6⟩ := h5
  simp [Cond.before, Cond.holds, Cond.value, h1, h2, h3, h4, g1, g2, g3, g4, g5, g6]
def isCode : Jvm.Cond → Bool
  | .code _ _ _ _ => true
  | _ => false
theorem all_split {L : List Jvm.Cond} {P : Jvm.Cond → Bool} (h1 : L.all (fun c => isCode c || P c) = true) (h2 : ∀ c ∈ L.filter isCode, P c = true) : L.all P = true := by
  refine List.all_eq_true.mpr fun c hc => ?_
  have h := List.all_eq_true.mp h1 c hc
  rcases Bool.eq_false_or_eq_true (isCode c) with hi | hi
  · exact h2 c (List.mem_filter.mpr ⟨hc, hi⟩)
  · simpa [hi] using h
set_option maxRecDepth 65536 in
theorem w_c0 : (Jvm.Cond.code x code maxLocals ret).before args0 about1 = true := code_word (m := ⟨1, 1⟩) (meth := k1m1) (c := k1c1) (by decide +kernel) rfl rfl rfl (by decide +kernel)
set_option maxRecDepth 65536 in
theorem w_c1 : (Jvm.Cond.code ({ cls := "com/example/test_collection_measures/testcollectionmeasures/InputFileIsDecimalPinLaw", name := "gen", desc := "(JJI)B" } : Jvm.MethodName) method_3_code (7 : Nat) (Option.some Jvm.ClassFile.FieldType.byte)).before args0 about1 = true := code_word (m := ⟨1, 2⟩) (meth := k1m2) (c := k1c2) (by decide +kernel) rfl rfl rfl (by decide +kernel)
set_option maxRecDepth 65536 in
theorem w_c2 : (Jvm.Cond.code ({ cls := "com/example/test_collection_measures/testcollectionmeasures/InputFileIsDecimalPinLaw", name := "step", desc := "(I[BII)I" } : Jvm.MethodName) method_5_code (5 : Nat) (Option.some Jvm.ClassFile.FieldType.int)).before args0 about1 = true := code_word (m := ⟨1, 4⟩) (meth := k1m4) (c := k1c4) (by decide +kernel) rfl rfl rfl (by decide +kernel)
set_option maxRecDepth 65536 in
theorem w_c3 : (Jvm.Cond.code ({ cls := "com/example/test_collection_measures/testcollectionmeasures/InputFileIsDecimalPinLaw", name := "kind", desc := "(B)I" } : Jvm.MethodName) method_4_code (1 : Nat) (Option.some Jvm.ClassFile.FieldType.int)).before args0 about1 = true := code_word (m := ⟨1, 3⟩) (meth := k1m3) (c := k1c3) (by decide +kernel) rfl rfl rfl (by decide +kernel)
set_option maxRecDepth 65536 in
theorem w_c4 : (Jvm.Cond.code ({ cls := "com/example/test_collection_measures/testcollectionmeasures/InputFile", name := "isDecimal", desc := "([BII)Z" } : Jvm.MethodName) prog_13_method_11_code (7 : Nat) (Option.some Jvm.ClassFile.FieldType.boolean)).before args0 about1 = true := code_word (m := ⟨2, 1⟩) (meth := k2m1) (c := k2c1) (by decide +kernel) rfl rfl rfl (by decide +kernel)
set_option maxRecDepth 65536 in
theorem w_c5 : (Jvm.Cond.code ({ cls := "com/example/test_collection_measures/testcollectionmeasures/InputFile", name := "signEnd", desc := "([BII)I" } : Jvm.MethodName) prog_13_method_12_code (4 : Nat) (Option.some Jvm.ClassFile.FieldType.int)).before args0 about1 = true := code_word (m := ⟨2, 2⟩) (meth := k2m2) (c := k2c2) (by decide +kernel) rfl rfl rfl (by decide +kernel)
set_option maxRecDepth 65536 in
theorem w_c6 : (Jvm.Cond.code ({ cls := "com/example/test_collection_measures/testcollectionmeasures/InputFile", name := "digitsEnd", desc := "([BII)I" } : Jvm.MethodName) prog_13_method_13_code (4 : Nat) (Option.some Jvm.ClassFile.FieldType.int)).before args0 about1 = true := code_word (m := ⟨2, 3⟩) (meth := k2m3) (c := k2c3) (by decide +kernel) rfl rfl rfl (by decide +kernel)
def codes1 : List Jvm.Cond := [Jvm.Cond.code x code maxLocals ret, Jvm.Cond.code ({ cls := "com/example/test_collection_measures/testcollectionmeasures/InputFileIsDecimalPinLaw", name := "gen", desc := "(JJI)B" } : Jvm.MethodName) method_3_code (7 : Nat) (Option.some Jvm.ClassFile.FieldType.byte), Jvm.Cond.code ({ cls := "com/example/test_collection_measures/testcollectionmeasures/InputFileIsDecimalPinLaw", name := "step", desc := "(I[BII)I" } : Jvm.MethodName) method_5_code (5 : Nat) (Option.some Jvm.ClassFile.FieldType.int), Jvm.Cond.code ({ cls := "com/example/test_collection_measures/testcollectionmeasures/InputFileIsDecimalPinLaw", name := "kind", desc := "(B)I" } : Jvm.MethodName) method_4_code (1 : Nat) (Option.some Jvm.ClassFile.FieldType.int), Jvm.Cond.code ({ cls := "com/example/test_collection_measures/testcollectionmeasures/InputFile", name := "isDecimal", desc := "([BII)Z" } : Jvm.MethodName) prog_13_method_11_code (7 : Nat) (Option.some Jvm.ClassFile.FieldType.boolean), Jvm.Cond.code ({ cls := "com/example/test_collection_measures/testcollectionmeasures/InputFile", name := "signEnd", desc := "([BII)I" } : Jvm.MethodName) prog_13_method_12_code (4 : Nat) (Option.some Jvm.ClassFile.FieldType.int), Jvm.Cond.code ({ cls := "com/example/test_collection_measures/testcollectionmeasures/InputFile", name := "digitsEnd", desc := "([BII)I" } : Jvm.MethodName) prog_13_method_13_code (4 : Nat) (Option.some Jvm.ClassFile.FieldType.int)]
set_option maxRecDepth 65536 in
theorem codes_eq : words1.filter isCode = codes1 := rfl
theorem w_codes : ∀ c ∈ words1.filter isCode, c.before args0 about1 = true := by
  rw [codes_eq]
  intro c hc
  simp only [codes1, List.mem_cons, List.not_mem_nil, or_false] at hc
  rcases hc with rfl | rfl | rfl | rfl | rfl | rfl | rfl
  · exact w_c0
  · exact w_c1
  · exact w_c2
  · exact w_c3
  · exact w_c4
  · exact w_c5
  · exact w_c6
set_option maxRecDepth 65536 in
theorem w_t1 : words1.all (fun c => isCode c || c.before args0 about1) = true := by decide +kernel
theorem w_tables : (allAtoms (Jvm.Cond.code x code maxLocals ret :: tables_1)).before args0 about1 = true := by
  rw [allAtoms_all]
  show words1.all (fun c => c.before args0 about1) = true
  refine all_split ?_ w_codes
  rw [w_t1]
set_option maxRecDepth 65536 in
theorem w_case : (Jvm.Cond.and given_1 narrow_1).before args0 about1 = true := by decide +kernel
theorem w_applies : (headSpec (Jvm.Cond.code x code maxLocals ret :: tables_1) room_1).applies x e0.platform about1 = true :=
  (Spec.applies_iff w_frames).mpr ⟨w_running, w_runnable, w_alone, w_named, w_hears, w_ripe, w_room, w_tables⟩
theorem atStart : AtStart classFile x code maxLocals ret World_1 tables_1 room_1 Calls_1 rest_1 Pre_1 launch0 p0 e0 about1 theMethod args0 below0 :=
  ⟨lists_1, trivial, launch0.admits_env _ _ _, launch0.least_env, fairChoices_fair.cas, fairChoices_fair.clock, w_frames, w_args, w_heap, w_applies, trivial, trivial, w_case⟩
end start1
theorem witness_1 : WitnessClaimed_1 := ⟨start1.p0, start1.e0, start1.about1, start1.theMethod, start1.args0, start1.below0, start1.atStart⟩
end Jvm.Pilot.@@N@@
