import JvmDerived
import JvmDerived.Pilot.@@N@@Statement
import JvmDerived.Pilot.@@N@@Code
set_option linter.unusedVariables false
set_option linter.unusedSimpArgs false

namespace Jvm.Pilot.@@N@@
open Jvm Jvm.ClassFile Sem Op Lib Jvm.Free Jvm.Stand Jvm.LawKit Jvm.RoadKit Bundle Jvm.Pilot.@@N@@.Jvm.D
/-! ## own kit: a walk forwards, in small words -/
abbrev owK : Type := Program × Env × State × MethodId × Array Value × List Frame × Method × Code
abbrev owp (k : owK) : Program := k.1
abbrev owe (k : owK) : Env := k.2.1
abbrev ows (k : owK) : State := k.2.2.1
abbrev owm (k : owK) : MethodId := k.2.2.2.1
abbrev owa (k : owK) : Array Value := k.2.2.2.2.1
abbrev owb (k : owK) : List Frame := k.2.2.2.2.2.1
abbrev owM (k : owK) : Method := k.2.2.2.2.2.2.1
abbrev owc (k : owK) : Code := k.2.2.2.2.2.2.2
/-- what stands fast through a body -/
def owC (Z : State) (y : MethodName) (B : ByteArray) (ml : Nat) (rt : Option FieldType) (k : owK) : Prop :=
  (owp k).tables.exec = Jvm.exec ∧ Z.Warmed39 (ows k).vm ∧ (ows k).vm.findClass y.cls = some (owm k).cls ∧ (owc k).code = B ∧ (owc k).maxLocals = ml ∧ (owM k).name = y.name ∧ (owM k).sig.returnType = rt ∧ (owM k).locks = false
/-- where the walk stands: the state T with the heap h; cc cells and ss slots made so far; all writes at or above n0 -/
def Sd (l : Launch) (Z : State) (n0 : Nat) (y : MethodName) (B : ByteArray) (ml : Nat) (rt : Option FieldType) (R : Room) (k : owK) (T : State) (h : Heap) (cc ss : Nat) : Prop :=
  (∃ locs, Stand (owp k) l (owe k) R (ows k) (owm k) (owa k) (owb k) (owM k) (owc k) T locs cc ss ∧ Fr n0 locs) ∧ T.heap = h ∧ owC Z y B ml rt k
/-- from here the walk ends, as Q says -/
def Go (k : owK) (n0 : Nat) (Q : Option Value → Heap → Prop) (kc ks : Nat) (T : State) (pc : Nat) (Ls : Array Slot) (st : List Value) : Prop :=
  ∃ s₂ o, Steps (owp k).tables (owe k) (owb k) (T.setTop (mkF (owm k) pc Ls st)) s₂ ∧ s₂.status = .running ∧ Ended s₂ (owb k) o ∧ ∃ v L, o = .returned v ∧ (Fr n0 L ∧ Q v s₂.heap) ∧ FrameEnd (ows k) o s₂ L kc ks
/-- the contract of a body -/
def Met (l : Launch) (Z : State) (n0 : Nat) (y : MethodName) (B : ByteArray) (ml : Nat) (rt : Option FieldType) (ws : List Jvm.Cond) (R : Room) (as : Array Value) (h0 : Heap) (Q : Option Value → Heap → Prop) (kc ks : Nat) : Prop :=
  MetFree l y (head1 (Jvm.Cond.code y B ml rt :: ws) R) (fun a U => a = as ∧ Z.Warmed39 U.vm ∧ U.heap = h0) (fun _ _ _ _ _ => True) (fun _ U o U' => ∃ v L, o = .returned v ∧ (Fr n0 L ∧ Q v U'.heap) ∧ FrameEnd U o U' L kc ks)
section Ow
variable {l : Launch} {Z : State} {n0 : Nat} {y : MethodName} {B : ByteArray} {ml : Nat} {rt : Option FieldType} {R : Room} {k : owK} {T : State} {h : Heap} {cc ss : Nat} {Q : Option Value → Heap → Prop} {kc ks : Nat} {pc : Nat} {Ls : Array Slot} {st : List Value} {a0 : Array Value}
theorem Met.of {ws : List Jvm.Cond} {as : Array Value} {h0 : Heap} {Ls : Array Slot} (hp : Jvm.plainFor y = true) (hef : Jvm.Sym.laidSlots as.toList ++ List.replicate (ml - (Jvm.Sym.laidSlots as.toList).length) .unset = Ls.toList) (body : ∀ k T, Sd l Z n0 y B ml rt R k T h0 0 0 → Go k n0 Q kc ks T 0 Ls []) : Met l Z n0 y B ml rt ws R as h0 Q kc ks := by
  refine MetFree.of_bodySF hp hisR ?_
  intro p e s m args below meth c s₁ Bd hml hP hK
  obtain ⟨rfl, hZ, hh⟩ := hP
  have hown : s.vm.findClass y.cls = some m.cls := findClass_of_methodNamed Bd.named
  have hnm := (name_of_methodNamed Bd.named Bd.method).1
  have X0 : Stand p l e R s m args below meth c s₁ [] 0 0 := Stand.of_body Bd
  have e0 : s₁.heap = h0 := by rw [← hh, Bd.state]; rfl
  obtain ⟨s2, o, h1, h2, h3, h4⟩ := body (p, e, s, m, args, below, meth, c) s₁ ⟨⟨[], X0, Fr.nil n0⟩, e0, Bd.exec, hZ, hown, Bd.bytes, hml, hnm, Bd.returns, Bd.notSynchronized⟩
  exact ⟨s2, o, (XT.entry hef).trans h1, h2, h3, h4⟩
theorem Go.of {T T' : State} {pc' : Nat} {Ls' : Array Slot} {st' : List Value} (K : Go k n0 Q kc ks T' pc' Ls' st') (f : ∀ t, Steps (owp k).tables (owe k) (owb k) (T'.setTop (mkF (owm k) pc' Ls' st')) t → Steps (owp k).tables (owe k) (owb k) (T.setTop (mkF (owm k) pc Ls st)) t) : Go k n0 Q kc ks T pc Ls st := by
  obtain ⟨s2, o, h1, h2⟩ := K; exact ⟨s2, o, f _ h1, h2⟩
theorem Go.end {v : Option Value} (X : Sd l Z n0 y B ml rt R k T h cc ss) (hk : cc ≤ kc) (hs : ss ≤ ks) (hv : rt = none → v = none) (f : ∀ fs, (∀ (f : JFrame) (acts : List Action), f.method = owm k → f.locked = none → f.entered = [] → (doReturn (owe k) (T.setTop f) acts v).1 = T.setFrames fs) → Steps (owp k).tables (owe k) (owb k) (T.setTop (mkF (owm k) pc Ls st)) (T.setFrames fs)) (hQ : Q v h) : Go k n0 Q kc ks T pc Ls st := by
  obtain ⟨⟨locs, X, N⟩, rfl, hx, hZ, hown, hby, hml, hnm, hrt, hlk⟩ := X
  obtain ⟨fs, hr, hrun, hended, hW, hsame⟩ := X.leave (v := v) (fun q => hv (by rw [← hrt]; exact q)) hlk
  exact ⟨_, _, f fs hr, hrun, hended, _, _, rfl, ⟨N, hQ⟩, ⟨_, rfl⟩, hW, hsame.mono hk hs⟩
theorem Sd.hh (X : Sd l Z n0 y B ml rt R k T h cc ss) : At T (owm k) (owc k) (owb k) := by obtain ⟨⟨_, X, _⟩, _⟩ := X; exact X.here
theorem Sd.x (X : Sd l Z n0 y B ml rt R k T h cc ss) : (owp k).tables.exec = Jvm.exec := X.2.2.1
theorem Sd.d (X : Sd l Z n0 y B ml rt R k T h cc ss) {pc : Nat} {r : Except ClassFile.DecodeError (ClassFile.Instr × Nat)} (hd : decode B pc = r) : decode (owc k).code pc = r := hb X.2.2.2.2.2.1 hd
theorem Sd.heap (X : Sd l Z n0 y B ml rt R k T h cc ss) : T.heap = h := X.2.1
/-! loads, stores, constants -/
theorem g_aloadN (X : Sd l Z n0 y B ml rt R k T h cc ss) {i : Fin 4} {v : Value} (hd : decode B pc = .ok (.aload_n i, 1)) (hl : Ls[i.val]? = some (.val v)) (hv : v.isRef = true) (pc' : Nat) (hp : pc + 1 = pc') (K : Go k n0 Q kc ks T pc' Ls (v :: st)) : Go k n0 Q kc ks T pc Ls st := by subst hp; exact K.of fun _ q => XS.aloadN X.hh X.x rfl (X.d hd) hl hv q
theorem g_aload (X : Sd l Z n0 y B ml rt R k T h cc ss) {i : Nat} {v : Value} (hd : decode B pc = .ok (.aload i, 2)) (hl : Ls[i]? = some (.val v)) (hv : v.isRef = true) (pc' : Nat) (hp : pc + 2 = pc') (K : Go k n0 Q kc ks T pc' Ls (v :: st)) : Go k n0 Q kc ks T pc Ls st := by subst hp; exact K.of fun _ q => XS.aload X.hh X.x rfl (X.d hd) hl hv q
theorem g_iloadN (X : Sd l Z n0 y B ml rt R k T h cc ss) {i : Fin 4} {v : Int32} (hd : decode B pc = .ok (.iload_n i, 1)) (hl : Ls[i.val]? = some (.val (.int v))) (pc' : Nat) (hp : pc + 1 = pc') (K : Go k n0 Q kc ks T pc' Ls (.int v :: st)) : Go k n0 Q kc ks T pc Ls st := by subst hp; exact K.of fun _ q => XS.iloadN X.hh X.x rfl (X.d hd) hl q
theorem g_iload (X : Sd l Z n0 y B ml rt R k T h cc ss) {i : Nat} {v : Int32} (hd : decode B pc = .ok (.iload i, 2)) (hl : Ls[i]? = some (.val (.int v))) (pc' : Nat) (hp : pc + 2 = pc') (K : Go k n0 Q kc ks T pc' Ls (.int v :: st)) : Go k n0 Q kc ks T pc Ls st := by subst hp; exact K.of fun _ q => XS.iload X.hh X.x rfl (X.d hd) hl q
theorem g_lloadN (X : Sd l Z n0 y B ml rt R k T h cc ss) {i : Fin 4} {v : Int64} (hd : decode B pc = .ok (.lload_n i, 1)) (hl : Ls[i.val]? = some (.val (.long v))) (pc' : Nat) (hp : pc + 1 = pc') (K : Go k n0 Q kc ks T pc' Ls (.long v :: st)) : Go k n0 Q kc ks T pc Ls st := by subst hp; exact K.of fun _ q => XT.lloadN X.hh X.x rfl (X.d hd) hl q
theorem g_lload (X : Sd l Z n0 y B ml rt R k T h cc ss) {i : Nat} {v : Int64} (hd : decode B pc = .ok (.lload i, 2)) (hl : Ls[i]? = some (.val (.long v))) (pc' : Nat) (hp : pc + 2 = pc') (K : Go k n0 Q kc ks T pc' Ls (.long v :: st)) : Go k n0 Q kc ks T pc Ls st := by subst hp; exact K.of fun _ q => XT.lload X.hh X.x rfl (X.d hd) hl q
theorem g_istoreN (X : Sd l Z n0 y B ml rt R k T h cc ss) {i : Fin 4} {v : Int32} (hd : decode B pc = .ok (.istore_n i, 1)) (L' : Array Slot) (hl : storeLocals Ls i.val (.int v) = some L') (pc' : Nat) (hp : pc + 1 = pc') (K : Go k n0 Q kc ks T pc' L' st) : Go k n0 Q kc ks T pc Ls (.int v :: st) := by subst hp; exact K.of fun _ q => XS.istoreN X.hh X.x rfl (X.d hd) rfl hl q
theorem g_istore (X : Sd l Z n0 y B ml rt R k T h cc ss) {i : Nat} {v : Int32} (hd : decode B pc = .ok (.istore i, 2)) (L' : Array Slot) (hl : storeLocals Ls i (.int v) = some L') (pc' : Nat) (hp : pc + 2 = pc') (K : Go k n0 Q kc ks T pc' L' st) : Go k n0 Q kc ks T pc Ls (.int v :: st) := by subst hp; exact K.of fun _ q => XS.istore X.hh X.x rfl (X.d hd) rfl hl q
theorem g_lstoreN (X : Sd l Z n0 y B ml rt R k T h cc ss) {i : Fin 4} {v : Int64} (hd : decode B pc = .ok (.lstore_n i, 1)) (L' : Array Slot) (hl : storeLocals Ls i.val (.long v) = some L') (pc' : Nat) (hp : pc + 1 = pc') (K : Go k n0 Q kc ks T pc' L' st) : Go k n0 Q kc ks T pc Ls (.long v :: st) := by subst hp; exact K.of fun _ q => XT.lstoreN X.hh X.x rfl (X.d hd) rfl hl q
theorem g_lstore (X : Sd l Z n0 y B ml rt R k T h cc ss) {i : Nat} {v : Int64} (hd : decode B pc = .ok (.lstore i, 2)) (L' : Array Slot) (hl : storeLocals Ls i (.long v) = some L') (pc' : Nat) (hp : pc + 2 = pc') (K : Go k n0 Q kc ks T pc' L' st) : Go k n0 Q kc ks T pc Ls (.long v :: st) := by subst hp; exact K.of fun _ q => XT.lstore X.hh X.x rfl (X.d hd) rfl hl q
theorem g_astoreN (X : Sd l Z n0 y B ml rt R k T h cc ss) {i : Fin 4} {v : Value} (hd : decode B pc = .ok (.astore_n i, 1)) (hv : v.isRef = true) (L' : Array Slot) (hl : storeLocals Ls i.val v = some L') (pc' : Nat) (hp : pc + 1 = pc') (K : Go k n0 Q kc ks T pc' L' st) : Go k n0 Q kc ks T pc Ls (v :: st) := by subst hp; exact K.of fun _ q => XS.astoreN X.hh X.x rfl (X.d hd) rfl hv hl q
theorem g_astore (X : Sd l Z n0 y B ml rt R k T h cc ss) {i : Nat} {v : Value} (hd : decode B pc = .ok (.astore i, 2)) (hv : v.isRef = true) (L' : Array Slot) (hl : storeLocals Ls i v = some L') (pc' : Nat) (hp : pc + 2 = pc') (K : Go k n0 Q kc ks T pc' L' st) : Go k n0 Q kc ks T pc Ls (v :: st) := by subst hp; exact K.of fun _ q => XS.astore X.hh X.x rfl (X.d hd) rfl hv hl q
theorem g_iconst (X : Sd l Z n0 y B ml rt R k T h cc ss) {i : Int} (v : Int32) (hd : decode B pc = .ok (.iconst i, 1)) (hv : Int32.ofInt i = v) (pc' : Nat) (hp : pc + 1 = pc') (K : Go k n0 Q kc ks T pc' Ls (.int v :: st)) : Go k n0 Q kc ks T pc Ls st := by subst hp; exact K.of fun _ q => XT.iconstV X.hh X.x rfl v (X.d hd) hv q
theorem g_bipush (X : Sd l Z n0 y B ml rt R k T h cc ss) {i : Int} (v : Int32) (hd : decode B pc = .ok (.bipush i, 2)) (hv : (Int8.ofInt i).toInt32 = v) (pc' : Nat) (hp : pc + 2 = pc') (K : Go k n0 Q kc ks T pc' Ls (.int v :: st)) : Go k n0 Q kc ks T pc Ls st := by subst hp; exact K.of fun _ q => XT.bipushV X.hh X.x rfl v (X.d hd) hv q
theorem g_sipush (X : Sd l Z n0 y B ml rt R k T h cc ss) {i : Int} (v : Int32) (hd : decode B pc = .ok (.sipush i, 3)) (hv : (Int16.ofInt i).toInt32 = v) (pc' : Nat) (hp : pc + 3 = pc') (K : Go k n0 Q kc ks T pc' Ls (.int v :: st)) : Go k n0 Q kc ks T pc Ls st := by subst hp; exact K.of fun _ q => XT.sipushV X.hh X.x rfl v (X.d hd) hv q
theorem g_lconst (X : Sd l Z n0 y B ml rt R k T h cc ss) {i : Fin 2} (v : Int64) (hd : decode B pc = .ok (.lconst i, 1)) (hv : Int64.ofNat i = v) (pc' : Nat) (hp : pc + 1 = pc') (K : Go k n0 Q kc ks T pc' Ls (.long v :: st)) : Go k n0 Q kc ks T pc Ls st := by subst hp; exact K.of fun _ q => XT.lconstV X.hh X.x rfl v (X.d hd) hv q
theorem g_null (X : Sd l Z n0 y B ml rt R k T h cc ss) (hd : decode B pc = .ok (.aconst_null, 1)) (pc' : Nat) (hp : pc + 1 = pc') (K : Go k n0 Q kc ks T pc' Ls (.null :: st)) : Go k n0 Q kc ks T pc Ls st := by subst hp; exact K.of fun _ q => XS.aconstNull X.hh X.x rfl (X.d hd) q
theorem g_iinc (X : Sd l Z n0 y B ml rt R k T h cc ss) {i : Nat} {cst : Int} {x : Int32} (v : Int32) (hd : decode B pc = .ok (.iinc i cst, 3)) (hv : Int32.ofInt cst = v) (hl : Ls[i]? = some (.val (.int x))) (L' : Array Slot) (hl' : storeLocals Ls i (.int (x + v)) = some L') (pc' : Nat) (hp : pc + 3 = pc') (K : Go k n0 Q kc ks T pc' L' st) : Go k n0 Q kc ks T pc Ls st := by subst hp; exact K.of fun _ q => XT.iincV X.hh X.x rfl v (X.d hd) hv hl hl' q
/-! arithmetic -/
theorem g_iadd (X : Sd l Z n0 y B ml rt R k T h cc ss) {a b : Int32} (hd : decode B pc = .ok (.iadd, 1)) (pc' : Nat) (hp : pc + 1 = pc') (K : Go k n0 Q kc ks T pc' Ls (.int (a + b) :: st)) : Go k n0 Q kc ks T pc Ls (.int b :: .int a :: st) := by subst hp; exact K.of fun _ q => XS.iadd X.hh X.x rfl (X.d hd) rfl q
theorem g_isub (X : Sd l Z n0 y B ml rt R k T h cc ss) {a b : Int32} (hd : decode B pc = .ok (.isub, 1)) (pc' : Nat) (hp : pc + 1 = pc') (K : Go k n0 Q kc ks T pc' Ls (.int (a - b) :: st)) : Go k n0 Q kc ks T pc Ls (.int b :: .int a :: st) := by subst hp; exact K.of fun _ q => XS.isub X.hh X.x rfl (X.d hd) rfl q
theorem g_imul (X : Sd l Z n0 y B ml rt R k T h cc ss) {a b : Int32} (hd : decode B pc = .ok (.imul, 1)) (pc' : Nat) (hp : pc + 1 = pc') (K : Go k n0 Q kc ks T pc' Ls (.int (a * b) :: st)) : Go k n0 Q kc ks T pc Ls (.int b :: .int a :: st) := by subst hp; exact K.of fun _ q => XS.imul X.hh X.x rfl (X.d hd) rfl q
theorem g_idiv (X : Sd l Z n0 y B ml rt R k T h cc ss) {a b : Int32} (hd : decode B pc = .ok (.idiv, 1)) (hb : b ≠ 0) (pc' : Nat) (hp : pc + 1 = pc') (K : Go k n0 Q kc ks T pc' Ls (.int (a / b) :: st)) : Go k n0 Q kc ks T pc Ls (.int b :: .int a :: st) := by subst hp; exact K.of fun _ q => XS.idiv X.hh X.x rfl (X.d hd) rfl hb q
theorem g_irem (X : Sd l Z n0 y B ml rt R k T h cc ss) {a b : Int32} (hd : decode B pc = .ok (.irem, 1)) (hb : b ≠ 0) (pc' : Nat) (hp : pc + 1 = pc') (K : Go k n0 Q kc ks T pc' Ls (.int (a % b) :: st)) : Go k n0 Q kc ks T pc Ls (.int b :: .int a :: st) := by
  subst hp; obtain ⟨⟨locs, Y, N⟩, eh, hc⟩ := X
  exact K.of fun _ q => iremM Y hc.1 (g := mkF (owm k) pc Ls (.int b :: .int a :: st)) rfl (Jvm.hb hc.2.2.2.1 hd) rfl hb q
theorem g_iand (X : Sd l Z n0 y B ml rt R k T h cc ss) {a b : Int32} (hd : decode B pc = .ok (.iand, 1)) (pc' : Nat) (hp : pc + 1 = pc') (K : Go k n0 Q kc ks T pc' Ls (.int (a &&& b) :: st)) : Go k n0 Q kc ks T pc Ls (.int b :: .int a :: st) := by subst hp; exact K.of fun _ q => XS.iand X.hh X.x rfl (X.d hd) rfl q
theorem g_ior (X : Sd l Z n0 y B ml rt R k T h cc ss) {a b : Int32} (hd : decode B pc = .ok (.ior, 1)) (pc' : Nat) (hp : pc + 1 = pc') (K : Go k n0 Q kc ks T pc' Ls (.int (a ||| b) :: st)) : Go k n0 Q kc ks T pc Ls (.int b :: .int a :: st) := by subst hp; exact K.of fun _ q => XS.ior X.hh X.x rfl (X.d hd) rfl q
theorem g_ixor (X : Sd l Z n0 y B ml rt R k T h cc ss) {a b : Int32} (hd : decode B pc = .ok (.ixor, 1)) (pc' : Nat) (hp : pc + 1 = pc') (K : Go k n0 Q kc ks T pc' Ls (.int (a ^^^ b) :: st)) : Go k n0 Q kc ks T pc Ls (.int b :: .int a :: st) := by subst hp; exact K.of fun _ q => XS.ixor X.hh X.x rfl (X.d hd) rfl q
theorem g_ishl (X : Sd l Z n0 y B ml rt R k T h cc ss) {a b : Int32} (hd : decode B pc = .ok (.ishl, 1)) (pc' : Nat) (hp : pc + 1 = pc') (K : Go k n0 Q kc ks T pc' Ls (.int (a <<< (b &&& 31)) :: st)) : Go k n0 Q kc ks T pc Ls (.int b :: .int a :: st) := by subst hp; exact K.of fun _ q => XS.ishl X.hh X.x rfl (X.d hd) rfl q
theorem g_ishr (X : Sd l Z n0 y B ml rt R k T h cc ss) {a b : Int32} (hd : decode B pc = .ok (.ishr, 1)) (pc' : Nat) (hp : pc + 1 = pc') (K : Go k n0 Q kc ks T pc' Ls (.int (a >>> (b &&& 31)) :: st)) : Go k n0 Q kc ks T pc Ls (.int b :: .int a :: st) := by subst hp; exact K.of fun _ q => XS.ishr X.hh X.x rfl (X.d hd) rfl q
theorem g_iushr (X : Sd l Z n0 y B ml rt R k T h cc ss) {a b : Int32} (hd : decode B pc = .ok (.iushr, 1)) (pc' : Nat) (hp : pc + 1 = pc') (K : Go k n0 Q kc ks T pc' Ls (.int ((a.toUInt32 >>> (b &&& 31).toUInt32).toInt32) :: st)) : Go k n0 Q kc ks T pc Ls (.int b :: .int a :: st) := by subst hp; exact K.of fun _ q => XS.iushr X.hh X.x rfl (X.d hd) rfl q
theorem g_ineg (X : Sd l Z n0 y B ml rt R k T h cc ss) {a : Int32} (hd : decode B pc = .ok (.ineg, 1)) (pc' : Nat) (hp : pc + 1 = pc') (K : Go k n0 Q kc ks T pc' Ls (.int (-a) :: st)) : Go k n0 Q kc ks T pc Ls (.int a :: st) := by subst hp; exact K.of fun _ q => XS.ineg X.hh X.x rfl (X.d hd) rfl q
theorem g_ladd (X : Sd l Z n0 y B ml rt R k T h cc ss) {a b : Int64} (hd : decode B pc = .ok (.ladd, 1)) (pc' : Nat) (hp : pc + 1 = pc') (K : Go k n0 Q kc ks T pc' Ls (.long (a + b) :: st)) : Go k n0 Q kc ks T pc Ls (.long b :: .long a :: st) := by subst hp; exact K.of fun _ q => XS.ladd X.hh X.x rfl (X.d hd) rfl q
theorem g_lsub (X : Sd l Z n0 y B ml rt R k T h cc ss) {a b : Int64} (hd : decode B pc = .ok (.lsub, 1)) (pc' : Nat) (hp : pc + 1 = pc') (K : Go k n0 Q kc ks T pc' Ls (.long (a - b) :: st)) : Go k n0 Q kc ks T pc Ls (.long b :: .long a :: st) := by subst hp; exact K.of fun _ q => XS.lsub X.hh X.x rfl (X.d hd) rfl q
theorem g_land (X : Sd l Z n0 y B ml rt R k T h cc ss) {a b : Int64} (hd : decode B pc = .ok (.land, 1)) (pc' : Nat) (hp : pc + 1 = pc') (K : Go k n0 Q kc ks T pc' Ls (.long (a &&& b) :: st)) : Go k n0 Q kc ks T pc Ls (.long b :: .long a :: st) := by subst hp; exact K.of fun _ q => XS.land X.hh X.x rfl (X.d hd) rfl q
theorem g_lushr (X : Sd l Z n0 y B ml rt R k T h cc ss) {a : Int64} {b : Int32} (hd : decode B pc = .ok (.lushr, 1)) (pc' : Nat) (hp : pc + 1 = pc') (K : Go k n0 Q kc ks T pc' Ls (.long ((a.toUInt64 >>> (b &&& 0x3f).toInt64.toUInt64).toInt64) :: st)) : Go k n0 Q kc ks T pc Ls (.int b :: .long a :: st) := by subst hp; exact K.of fun _ q => XS.lushr X.hh X.x rfl (X.d hd) rfl q
theorem g_i2l (X : Sd l Z n0 y B ml rt R k T h cc ss) {a : Int32} (hd : decode B pc = .ok (.i2l, 1)) (pc' : Nat) (hp : pc + 1 = pc') (K : Go k n0 Q kc ks T pc' Ls (.long a.toInt64 :: st)) : Go k n0 Q kc ks T pc Ls (.int a :: st) := by subst hp; exact K.of fun _ q => XS.i2l X.hh X.x rfl (X.d hd) rfl q
theorem g_l2i (X : Sd l Z n0 y B ml rt R k T h cc ss) {a : Int64} (hd : decode B pc = .ok (.l2i, 1)) (pc' : Nat) (hp : pc + 1 = pc') (K : Go k n0 Q kc ks T pc' Ls (.int a.toInt32 :: st)) : Go k n0 Q kc ks T pc Ls (.long a :: st) := by subst hp; exact K.of fun _ q => XS.l2i X.hh X.x rfl (X.d hd) rfl q
theorem g_i2b (X : Sd l Z n0 y B ml rt R k T h cc ss) {a : Int32} (hd : decode B pc = .ok (.i2b, 1)) (pc' : Nat) (hp : pc + 1 = pc') (K : Go k n0 Q kc ks T pc' Ls (.int a.toInt8.toInt32 :: st)) : Go k n0 Q kc ks T pc Ls (.int a :: st) := by subst hp; exact K.of fun _ q => XS.i2b X.hh X.x rfl (X.d hd) rfl q
theorem g_i2c (X : Sd l Z n0 y B ml rt R k T h cc ss) {a : Int32} (hd : decode B pc = .ok (.i2c, 1)) (pc' : Nat) (hp : pc + 1 = pc') (K : Go k n0 Q kc ks T pc' Ls (.int a.toUInt32.toUInt16.toUInt32.toInt32 :: st)) : Go k n0 Q kc ks T pc Ls (.int a :: st) := by subst hp; exact K.of fun _ q => XS.i2c X.hh X.x rfl (X.d hd) rfl q
theorem g_lcmp (X : Sd l Z n0 y B ml rt R k T h cc ss) {a b : Int64} (hd : decode B pc = .ok (.lcmp, 1)) (pc' : Nat) (hp : pc + 1 = pc') (K : Go k n0 Q kc ks T pc' Ls (.int (XT.cmpL a b) :: st)) : Go k n0 Q kc ks T pc Ls (.long b :: .long a :: st) := by subst hp; exact K.of fun _ q => XT.lcmp X.hh X.x rfl (X.d hd) rfl q
theorem g_dloadN (X : Sd l Z n0 y B ml rt R k T h cc ss) {i : Fin 4} {v : UInt64} (hd : decode B pc = .ok (.dload_n i, 1)) (hl : Ls[i.val]? = some (.val (.double v))) (pc' : Nat) (hp : pc + 1 = pc') (K : Go k n0 Q kc ks T pc' Ls (.double v :: st)) : Go k n0 Q kc ks T pc Ls st := by subst hp; exact K.of fun _ q => XS.dloadN X.hh X.x rfl (X.d hd) hl q
theorem g_dload (X : Sd l Z n0 y B ml rt R k T h cc ss) {i : Nat} {v : UInt64} (hd : decode B pc = .ok (.dload i, 2)) (hl : Ls[i]? = some (.val (.double v))) (pc' : Nat) (hp : pc + 2 = pc') (K : Go k n0 Q kc ks T pc' Ls (.double v :: st)) : Go k n0 Q kc ks T pc Ls st := by subst hp; exact K.of fun _ q => XS.dload X.hh X.x rfl (X.d hd) hl q
theorem g_dstore (X : Sd l Z n0 y B ml rt R k T h cc ss) {i : Nat} {v : UInt64} (hd : decode B pc = .ok (.dstore i, 2)) (L' : Array Slot) (hl : storeLocals Ls i (.double v) = some L') (pc' : Nat) (hp : pc + 2 = pc') (K : Go k n0 Q kc ks T pc' L' st) : Go k n0 Q kc ks T pc Ls (.double v :: st) := by subst hp; exact K.of fun _ q => XS.dstore X.hh X.x rfl (X.d hd) rfl hl q
theorem g_i2d (X : Sd l Z n0 y B ml rt R k T h cc ss) {a : Int32} (hd : decode B pc = .ok (.i2d, 1)) (pc' : Nat) (hp : pc + 1 = pc') (K : Go k n0 Q kc ks T pc' Ls (.double (FP.i2d a) :: st)) : Go k n0 Q kc ks T pc Ls (.int a :: st) := by subst hp; exact K.of fun _ q => XS.i2dS X.hh X.x rfl (X.d hd) rfl rfl q
theorem g_dcmp (X : Sd l Z n0 y B ml rt R k T h cc ss) {o : CmpOp} {a b : UInt64} (hd : decode B pc = .ok (.dcmp o, 1)) (pc' : Nat) (hp : pc + 1 = pc') (K : Go k n0 Q kc ks T pc' Ls (.int (cmpValue (FP.dcmp a b) o) :: st)) : Go k n0 Q kc ks T pc Ls (.double b :: .double a :: st) := by subst hp; exact K.of fun _ q => XS.dcmpS X.hh X.x rfl (X.d hd) rfl rfl q
/-! the stack -/
theorem g_dup (X : Sd l Z n0 y B ml rt R k T h cc ss) {v : Value} (hd : decode B pc = .ok (.dup, 1)) (hc : v.category = 1) (pc' : Nat) (hp : pc + 1 = pc') (K : Go k n0 Q kc ks T pc' Ls (v :: v :: st)) : Go k n0 Q kc ks T pc Ls (v :: st) := by subst hp; exact K.of fun _ q => XS.dup X.hh X.x rfl (X.d hd) rfl hc q
theorem g_pop (X : Sd l Z n0 y B ml rt R k T h cc ss) {v : Value} (hd : decode B pc = .ok (.pop, 1)) (hc : v.category = 1) (pc' : Nat) (hp : pc + 1 = pc') (K : Go k n0 Q kc ks T pc' Ls st) : Go k n0 Q kc ks T pc Ls (v :: st) := by subst hp; exact K.of fun _ q => XS.pop X.hh X.x rfl (X.d hd) rfl hc q
theorem g_dupX1 (X : Sd l Z n0 y B ml rt R k T h cc ss) {v w : Value} (hd : decode B pc = .ok (.dup_x1, 1)) (hc : v.category = 1) (hc2 : w.category = 1) (pc' : Nat) (hp : pc + 1 = pc') (K : Go k n0 Q kc ks T pc' Ls (v :: w :: v :: st)) : Go k n0 Q kc ks T pc Ls (v :: w :: st) := by subst hp; exact K.of fun _ q => XS.dupX1 X.hh X.x rfl (X.d hd) rfl hc hc2 q
theorem g_dup2 (X : Sd l Z n0 y B ml rt R k T h cc ss) {v w : Value} (hd : decode B pc = .ok (.dup2, 1)) (hc : v.category = 1) (hc2 : w.category = 1) (pc' : Nat) (hp : pc + 1 = pc') (K : Go k n0 Q kc ks T pc' Ls (v :: w :: v :: w :: st)) : Go k n0 Q kc ks T pc Ls (v :: w :: st) := by subst hp; exact K.of fun _ q => XT.dup2 X.hh X.x rfl (X.d hd) rfl hc hc2 q
/-! jumps -/
theorem g_goto (X : Sd l Z n0 y B ml rt R k T h cc ss) {o : Int} (hd : decode B pc = .ok (.goto o, 3)) (pc' : Nat) (ho : 0 ≤ (pc : Int) + o) (hp : ((pc : Int) + o).toNat = pc') (K : Go k n0 Q kc ks T pc' Ls st) : Go k n0 Q kc ks T pc Ls st := K.of fun _ q => XS.goto X.hh X.x rfl rfl (X.d hd) ho hp q
theorem g_if (X : Sd l Z n0 y B ml rt R k T h cc ss) {cd : ClassFile.Cond} {a : Int32} {o : Int} {C : Prop} (hc : ifCond.holds cd a = true ↔ C) (hd : decode B pc = .ok (.ifCond cd o, 3)) (pT : Nat) (ho : 0 ≤ (pc : Int) + o) (hT : ((pc : Int) + o).toNat = pT) (pF : Nat) (hF : pc + 3 = pF) (K1 : C → Go k n0 Q kc ks T pT Ls st) (K2 : ¬ C → Go k n0 Q kc ks T pF Ls st) : Go k n0 Q kc ks T pc Ls (.int a :: st) := by
  subst hF
  cases q : ifCond.holds cd a with
  | true => exact (K1 (hc.mp q)).of fun _ z => XS.ifYes X.hh X.x rfl rfl (X.d hd) rfl q ho hT z
  | false => exact (K2 (fun z => by rw [hc.mpr z] at q; cases q)).of fun _ z => XS.ifNo X.hh X.x rfl (X.d hd) rfl q z
theorem g_icmp (X : Sd l Z n0 y B ml rt R k T h cc ss) {cd : ClassFile.Cond} {a b : Int32} {o : Int} {C : Prop} (hc : if_icmp.holds cd a b = true ↔ C) (hd : decode B pc = .ok (.if_icmp cd o, 3)) (pT : Nat) (ho : 0 ≤ (pc : Int) + o) (hT : ((pc : Int) + o).toNat = pT) (pF : Nat) (hF : pc + 3 = pF) (K1 : C → Go k n0 Q kc ks T pT Ls st) (K2 : ¬ C → Go k n0 Q kc ks T pF Ls st) : Go k n0 Q kc ks T pc Ls (.int b :: .int a :: st) := by
  subst hF
  cases q : if_icmp.holds cd a b with
  | true => exact (K1 (hc.mp q)).of fun _ z => XS.icmpYes X.hh X.x rfl rfl (X.d hd) rfl q ho hT z
  | false => exact (K2 (fun z => by rw [hc.mpr z] at q; cases q)).of fun _ z => XS.icmpNo X.hh X.x rfl (X.d hd) rfl q z
/-- the same, told the other way round: the jump is taken where C fails -/
theorem g_ifN (X : Sd l Z n0 y B ml rt R k T h cc ss) {cd : ClassFile.Cond} {a : Int32} {o : Int} {C : Prop} (hc : ifCond.holds cd a = true ↔ ¬ C) (hd : decode B pc = .ok (.ifCond cd o, 3)) (pT : Nat) (ho : 0 ≤ (pc : Int) + o) (hT : ((pc : Int) + o).toNat = pT) (pF : Nat) (hF : pc + 3 = pF) (K1 : C → Go k n0 Q kc ks T pF Ls st) (K2 : ¬ C → Go k n0 Q kc ks T pT Ls st) : Go k n0 Q kc ks T pc Ls (.int a :: st) :=
  g_if X hc hd pT ho hT pF hF K2 fun q => K1 (Classical.not_not.mp q)
theorem g_icmpN (X : Sd l Z n0 y B ml rt R k T h cc ss) {cd : ClassFile.Cond} {a b : Int32} {o : Int} {C : Prop} (hc : if_icmp.holds cd a b = true ↔ ¬ C) (hd : decode B pc = .ok (.if_icmp cd o, 3)) (pT : Nat) (ho : 0 ≤ (pc : Int) + o) (hT : ((pc : Int) + o).toNat = pT) (pF : Nat) (hF : pc + 3 = pF) (K1 : C → Go k n0 Q kc ks T pF Ls st) (K2 : ¬ C → Go k n0 Q kc ks T pT Ls st) : Go k n0 Q kc ks T pc Ls (.int b :: .int a :: st) :=
  g_icmp X hc hd pT ho hT pF hF K2 fun q => K1 (Classical.not_not.mp q)
theorem z_eq {a : Int32} : ifCond.holds .eq a = true ↔ a = 0 := by simp [ifCond.holds]
theorem z_ne {a : Int32} : ifCond.holds .ne a = true ↔ ¬ a = 0 := by simp [ifCond.holds]
theorem z_lt {a : Int32} : ifCond.holds .lt a = true ↔ a < 0 := by simp [ifCond.holds]
theorem z_ge {a : Int32} : ifCond.holds .ge a = true ↔ ¬ a < 0 := by simp [ifCond.holds, Int32.not_lt]
theorem z_gt {a : Int32} : ifCond.holds .gt a = true ↔ 0 < a := by simp [ifCond.holds]
theorem z_le {a : Int32} : ifCond.holds .le a = true ↔ ¬ 0 < a := by simp [ifCond.holds, Int32.not_lt]
theorem i_eq {a b : Int32} : if_icmp.holds .eq a b = true ↔ a = b := by simp [if_icmp.holds]
theorem i_ne {a b : Int32} : if_icmp.holds .ne a b = true ↔ ¬ a = b := by simp [if_icmp.holds]
theorem i_lt {a b : Int32} : if_icmp.holds .lt a b = true ↔ a < b := by simp [if_icmp.holds]
theorem i_ge {a b : Int32} : if_icmp.holds .ge a b = true ↔ ¬ a < b := by simp [if_icmp.holds, Int32.not_lt]
theorem i_gt {a b : Int32} : if_icmp.holds .gt a b = true ↔ b < a := by simp [if_icmp.holds]
theorem i_le {a b : Int32} : if_icmp.holds .le a b = true ↔ ¬ b < a := by simp [if_icmp.holds, Int32.not_lt]
theorem l_of {b : Bool} {C : Prop} (h1 : C → b = true) (h2 : ¬ C → b = false) : b = true ↔ C := ⟨fun q => Classical.byContradiction fun z => Bool.noConfusion ((h2 z).symm.trans q), h1⟩
theorem l_eq {a b : Int64} : ifCond.holds .eq (XT.cmpL a b) = true ↔ a = b := l_of XT.ll_eq_t XT.ll_eq_f
theorem l_ne {a b : Int64} : ifCond.holds .ne (XT.cmpL a b) = true ↔ ¬ a = b := l_of XT.ll_ne_t (fun q => XT.ll_ne_f (Classical.not_not.mp q))
theorem l_lt {a b : Int64} : ifCond.holds .lt (XT.cmpL a b) = true ↔ a < b := l_of XT.ll_lt_t XT.ll_lt_f
theorem l_ge {a b : Int64} : ifCond.holds .ge (XT.cmpL a b) = true ↔ ¬ a < b := l_of XT.ll_ge_t (fun q => XT.ll_ge_f (Classical.not_not.mp q))
theorem l_gt {a b : Int64} : ifCond.holds .gt (XT.cmpL a b) = true ↔ b < a := l_of XT.ll_gt_t XT.ll_gt_f
theorem l_le {a b : Int64} : ifCond.holds .le (XT.cmpL a b) = true ↔ ¬ b < a := l_of XT.ll_le_t (fun q => XT.ll_le_f (Classical.not_not.mp q))
theorem g_nullY (X : Sd l Z n0 y B ml rt R k T h cc ss) {o : Int} (hd : decode B pc = .ok (.ifnull o, 3)) (pc' : Nat) (ho : 0 ≤ (pc : Int) + o) (hp : ((pc : Int) + o).toNat = pc') (K : Go k n0 Q kc ks T pc' Ls st) : Go k n0 Q kc ks T pc Ls (.null :: st) := K.of fun _ q => XS.ifnullYes X.hh X.x rfl rfl (X.d hd) rfl ho hp q
theorem g_nullN (X : Sd l Z n0 y B ml rt R k T h cc ss) {o : Int} {a : Addr} (hd : decode B pc = .ok (.ifnull o, 3)) (pc' : Nat) (hp : pc + 3 = pc') (K : Go k n0 Q kc ks T pc' Ls st) : Go k n0 Q kc ks T pc Ls (.ref a :: st) := by subst hp; exact K.of fun _ q => XS.ifnullNo X.hh X.x rfl (X.d hd) rfl q
theorem g_nonnullY (X : Sd l Z n0 y B ml rt R k T h cc ss) {o : Int} {a : Addr} (hd : decode B pc = .ok (.ifnonnull o, 3)) (pc' : Nat) (ho : 0 ≤ (pc : Int) + o) (hp : ((pc : Int) + o).toNat = pc') (K : Go k n0 Q kc ks T pc' Ls st) : Go k n0 Q kc ks T pc Ls (.ref a :: st) := K.of fun _ q => XS.ifnonnullYes X.hh X.x rfl rfl (X.d hd) rfl ho hp q
theorem g_nonnullN (X : Sd l Z n0 y B ml rt R k T h cc ss) {o : Int} (hd : decode B pc = .ok (.ifnonnull o, 3)) (pc' : Nat) (hp : pc + 3 = pc') (K : Go k n0 Q kc ks T pc' Ls st) : Go k n0 Q kc ks T pc Ls (.null :: st) := by subst hp; exact K.of fun _ q => XS.ifnonnullNo X.hh X.x rfl (X.d hd) rfl q
theorem g_acmpY (X : Sd l Z n0 y B ml rt R k T h cc ss) {cd : ClassFile.ACond} {v w : Value} {o : Int} (hd : decode B pc = .ok (.if_acmp cd o, 3)) (hv : v.isRef = true) (hw : w.isRef = true) (hc : XT.acmp cd v w = true) (pc' : Nat) (ho : 0 ≤ (pc : Int) + o) (hp : ((pc : Int) + o).toNat = pc') (K : Go k n0 Q kc ks T pc' Ls st) : Go k n0 Q kc ks T pc Ls (w :: v :: st) := K.of fun _ q => XT.acmpYes X.hh X.x rfl rfl (X.d hd) rfl hv hw hc ho hp q
theorem g_acmpN (X : Sd l Z n0 y B ml rt R k T h cc ss) {cd : ClassFile.ACond} {v w : Value} {o : Int} (hd : decode B pc = .ok (.if_acmp cd o, 3)) (hv : v.isRef = true) (hw : w.isRef = true) (hc : XT.acmp cd v w = false) (pc' : Nat) (hp : pc + 3 = pc') (K : Go k n0 Q kc ks T pc' Ls st) : Go k n0 Q kc ks T pc Ls (w :: v :: st) := by subst hp; exact K.of fun _ q => XT.acmpNo X.hh X.x rfl (X.d hd) rfl hv hw hc q
theorem a_eq {a b : Addr} : XT.acmp .eq (.ref a) (.ref b) = true ↔ a = b := by simp [XT.acmp]
theorem a_ne {a b : Addr} : XT.acmp .ne (.ref a) (.ref b) = true ↔ ¬ a = b := by simp [XT.acmp]
theorem g_acmp (X : Sd l Z n0 y B ml rt R k T h cc ss) {cd : ClassFile.ACond} {a b : Addr} {o : Int} {C : Prop} (hc : XT.acmp cd (.ref a) (.ref b) = true ↔ C) (hd : decode B pc = .ok (.if_acmp cd o, 3)) (pT : Nat) (ho : 0 ≤ (pc : Int) + o) (hT : ((pc : Int) + o).toNat = pT) (pF : Nat) (hF : pc + 3 = pF) (K1 : C → Go k n0 Q kc ks T pT Ls st) (K2 : ¬ C → Go k n0 Q kc ks T pF Ls st) : Go k n0 Q kc ks T pc Ls (.ref b :: .ref a :: st) := by
  cases q : XT.acmp cd (.ref a) (.ref b) with
  | true => exact g_acmpY X hd rfl rfl q pT ho hT (K1 (hc.mp q))
  | false => exact g_acmpN X hd rfl rfl q pF hF (K2 (fun z => by rw [hc.mpr z] at q; cases q))
theorem g_acmpNN (X : Sd l Z n0 y B ml rt R k T h cc ss) {cd : ClassFile.ACond} {a b : Addr} {o : Int} {C : Prop} (hc : XT.acmp cd (.ref a) (.ref b) = true ↔ ¬ C) (hd : decode B pc = .ok (.if_acmp cd o, 3)) (pT : Nat) (ho : 0 ≤ (pc : Int) + o) (hT : ((pc : Int) + o).toNat = pT) (pF : Nat) (hF : pc + 3 = pF) (K1 : C → Go k n0 Q kc ks T pF Ls st) (K2 : ¬ C → Go k n0 Q kc ks T pT Ls st) : Go k n0 Q kc ks T pc Ls (.ref b :: .ref a :: st) :=
  g_acmp X hc hd pT ho hT pF hF K2 fun q => K1 (Classical.not_not.mp q)
/-! constants of the pool -/
theorem g_ldcI (X : Sd l Z n0 y B ml rt R k T h cc ss) {i : Nat} {v : Int32} (w : (Jvm.Cond.constant y.cls i v).before a0 Z = true) (hd : decode B pc = .ok (.ldc i, 2)) (pc' : Nat) (hp : pc + 2 = pc') (K : Go k n0 Q kc ks T pc' Ls (.int v :: st)) : Go k n0 Q kc ks T pc Ls st := by
  subst hp; obtain ⟨⟨locs, Y, N⟩, eh, hx, hZ, hown, hby, -⟩ := X
  exact K.of fun _ q => Y.ldcI hx hown (mv hZ w) rfl (Jvm.hb hby hd) q
theorem g_ldc2J (X : Sd l Z n0 y B ml rt R k T h cc ss) {i : Nat} {v : Int64} (w : (Jvm.Cond.constantLong y.cls i v).before a0 Z = true) (hd : decode B pc = .ok (.ldc2_w i, 3)) (pc' : Nat) (hp : pc + 3 = pc') (K : Go k n0 Q kc ks T pc' Ls (.long v :: st)) : Go k n0 Q kc ks T pc Ls st := by
  subst hp; obtain ⟨⟨locs, Y, N⟩, eh, hx, hZ, hown, hby, -⟩ := X
  exact K.of fun _ q => Y.ldc2J hx hown (mv hZ w) rfl (Jvm.hb hby hd) q
/-! returns -/
theorem g_retI (X : Sd l Z n0 y B ml (some .int) R k T h cc ss) {z : Int32} (hd : decode B pc = .ok (.ireturn, 1)) (hk : cc ≤ kc) (hs : ss ≤ ks) (hQ : Q (some (.int z)) h) : Go k n0 Q kc ks T pc Ls [.int z] :=
  Go.end X hk hs (fun q => nomatch q) (fun fs hr => by obtain ⟨⟨locs, Y, N⟩, eh, hx, hZ, hown, hby, hml, hnm, hrt, hlk⟩ := X; exact Y.ireturnOut hx hrt rfl (Or.inl rfl) (Jvm.hb hby hd) hr) hQ
theorem g_retN (X : Sd l Z n0 y B ml rt R k T h cc ss) {z : Int32} {t : FieldType} (hrt : rt = some t) (ht : t = .boolean ∨ t = .byte ∨ t = .char ∨ t = .short) (hd : decode B pc = .ok (.ireturn, 1)) (hk : cc ≤ kc) (hs : ss ≤ ks) (hQ : Q (some (.int (nar t z))) h) : Go k n0 Q kc ks T pc Ls [.int z] :=
  Go.end X hk hs (fun q => by rw [hrt] at q; cases q) (fun fs hr => by obtain ⟨⟨locs, Y, N⟩, eh, hx, hZ, hown, hby, hml, hnm, hrt', hlk⟩ := X; exact retN Y hx (hrt'.trans hrt) ht (Jvm.hb hby hd) hr) hQ
theorem g_retZ (X : Sd l Z n0 y B ml (some .boolean) R k T h cc ss) {z : Int32} (hd : decode B pc = .ok (.ireturn, 1)) (hk : cc ≤ kc) (hs : ss ≤ ks) (hQ : Q (some (.int (z &&& 1))) h) : Go k n0 Q kc ks T pc Ls [.int z] := g_retN X rfl (Or.inl rfl) hd hk hs hQ
theorem g_retL (X : Sd l Z n0 y B ml (some .long) R k T h cc ss) {z : Int64} (hd : decode B pc = .ok (.lreturn, 1)) (hk : cc ≤ kc) (hs : ss ≤ ks) (hQ : Q (some (.long z)) h) : Go k n0 Q kc ks T pc Ls [.long z] :=
  Go.end X hk hs (fun q => nomatch q) (fun fs hr => by obtain ⟨⟨locs, Y, N⟩, eh, hx, hZ, hown, hby, hml, hnm, hrt, hlk⟩ := X; exact Y.lreturnOut hx hrt (Jvm.hb hby hd) hr) hQ
theorem g_retA (X : Sd l Z n0 y B ml rt R k T h cc ss) {v : Value} {t : FieldType} (hrt : rt = some t) (ht : t.isReference = true) (hv : v.isRef = true) (hd : decode B pc = .ok (.areturn, 1)) (hk : cc ≤ kc) (hs : ss ≤ ks) (hQ : Q (some v) h) : Go k n0 Q kc ks T pc Ls [v] :=
  Go.end X hk hs (fun q => by rw [hrt] at q; cases q) (fun fs hr => by obtain ⟨⟨locs, Y, N⟩, eh, hx, hZ, hown, hby, hml, hnm, hrt', hlk⟩ := X; exact Y.areturnOut hx hv (hrt'.trans hrt) ht (Jvm.hb hby hd) hr) hQ
theorem g_ret (X : Sd l Z n0 y B ml none R k T h cc ss) (hd : decode B pc = .ok (.return_, 1)) (hk : cc ≤ kc) (hs : ss ≤ ks) (hQ : Q none h) : Go k n0 Q kc ks T pc Ls [] :=
  Go.end X hk hs (fun _ => rfl) (fun fs hr => by obtain ⟨⟨locs, Y, N⟩, eh, hx, hZ, hown, hby, hml, hnm, hrt, hlk⟩ := X; exact Y.returnOut hx hrt (Jvm.hb hby hd) hr) hQ
/-! objects -/
theorem g_new (X : Sd l Z n0 y B ml rt R k T h cc ss) {i n : Nat} {C : String} (w : (Jvm.Cond.classLink y.cls i C).before a0 Z = true) (wi : (Jvm.Cond.instantiable C n).before a0 Z = true) (wz : (Jvm.Cond.initialized C).before a0 Z = true) (hd : decode B pc = .ok (.new i, 3)) (hc : cc + 1 ≤ R.cells) (hl : ss + n ≤ R.slots) (pc' : Nat) (hp : pc + 3 = pc')
    (K : ∀ T' h' a, Sd l Z n0 y B ml rt R k T' h' (cc + 1) (ss + n) → a = h.size → Ext h h' → Exa Z h' a C → (∀ {O nm d : String} {ty : FieldType}, Laid Z a0 C O nm d → parseFieldDescriptor d = some ty → Fld Z h' a O nm d (defaultValue ty)) → Go k n0 Q kc ks T' pc' Ls (.ref a :: st)) : Go k n0 Q kc ks T pc Ls st := by
  subst hp; obtain ⟨⟨locs, Y, N⟩, eh, hx, hZ, hown, hby, hr⟩ := X
  obtain ⟨T2, h2, X2, e2, E2, A2, D2, -, st2⟩ := newO Y hx hZ hown w wi wz eh (g := mkF (owm k) pc Ls st) rfl (Jvm.hb hby hd) hc hl
  exact (K T2 h2 h.size ⟨⟨locs, X2, N⟩, e2, hx, hZ, hown, hby, hr⟩ rfl E2 A2 D2).of st2
theorem g_getF (X : Sd l Z n0 y B ml rt R k T h cc ss) {i : Nat} {R0 O n d : String} (w : (Jvm.Cond.fieldLink y.cls i R0 n d).before a0 Z = true) (via : Via Z R0 O n d) {a : Addr} {v : Value} (F : Fld Z h a O n d v) (hd : decode B pc = .ok (.getfield i, 3)) (pc' : Nat) (hp : pc + 3 = pc')
    (K : ∀ T', Sd l Z n0 y B ml rt R k T' h cc ss → Go k n0 Q kc ks T' pc' Ls (v :: st)) : Go k n0 Q kc ks T pc Ls (.ref a :: st) := by
  subst hp; obtain ⟨⟨locs, Y, N⟩, eh, hx, hZ, hown, hby, hr⟩ := X
  obtain ⟨T2, X2, e2, st2⟩ := getF Y hx hZ hown (host := "") (Or.inl w) via eh F (g := mkF (owm k) pc Ls (.ref a :: st)) rfl rfl (Jvm.hb hby hd)
  exact (K T2 ⟨⟨locs, X2, N⟩, e2, hx, hZ, hown, hby, hr⟩).of st2
theorem g_getFH (X : Sd l Z n0 y B ml rt R k T h cc ss) {i : Nat} {R0 O n d host : String} (w : (Jvm.Cond.fieldLinkNest y.cls i R0 n d host).before a0 Z = true) (via : Via Z R0 O n d) {a : Addr} {v : Value} (F : Fld Z h a O n d v) (hd : decode B pc = .ok (.getfield i, 3)) (pc' : Nat) (hp : pc + 3 = pc')
    (K : ∀ T', Sd l Z n0 y B ml rt R k T' h cc ss → Go k n0 Q kc ks T' pc' Ls (v :: st)) : Go k n0 Q kc ks T pc Ls (.ref a :: st) := by
  subst hp; obtain ⟨⟨locs, Y, N⟩, eh, hx, hZ, hown, hby, hr⟩ := X
  obtain ⟨T2, X2, e2, st2⟩ := getF Y hx hZ hown (Or.inr w) via eh F (g := mkF (owm k) pc Ls (.ref a :: st)) rfl rfl (Jvm.hb hby hd)
  exact (K T2 ⟨⟨locs, X2, N⟩, e2, hx, hZ, hown, hby, hr⟩).of st2
theorem g_getS (X : Sd l Z n0 y B ml rt R k T h cc ss) {i : Nat} {R0 O n d : String} (w : (Jvm.Cond.fieldLink y.cls i R0 n d).before a0 Z = true) (via : Via Z R0 O n d) {v : Value} (F : Sta Z h O n d v) (hd : decode B pc = .ok (.getstatic i, 3)) (pc' : Nat) (hp : pc + 3 = pc')
    (K : ∀ T', Sd l Z n0 y B ml rt R k T' h cc ss → Go k n0 Q kc ks T' pc' Ls (v :: st)) : Go k n0 Q kc ks T pc Ls st := by
  subst hp; obtain ⟨⟨locs, Y, N⟩, eh, hx, hZ, hown, hby, hr⟩ := X
  obtain ⟨T2, X2, e2, st2⟩ := getS2 Y hx hZ hown (host := "") (Or.inl w) via eh F (g := mkF (owm k) pc Ls st) rfl (Jvm.hb hby hd)
  exact (K T2 ⟨⟨locs, X2, N⟩, e2, hx, hZ, hown, hby, hr⟩).of st2
/-- a final field in a constructor of its class -/
theorem g_putFin (X : Sd l Z n0 y B ml rt R k T h cc ss) {i kk : Nat} {O n d C : String} (w : (Jvm.Cond.fieldLink y.cls i O n d).before a0 Z = true) {a : Addr} {v old : Value} (F : Fld Z h a O n d old) (E : Exa Z h a C) (L : (Jvm.Cond.laysFinal C O n d).before a0 Z = true) (ho : y.cls = O) (hi : y.name = "<init>") (wi : (Jvm.Cond.instantiable C kk).before a0 Z = true)
    (g0 : n0 ≤ a) (ty : FieldType) (hty : parseFieldDescriptor d = some ty) (hn : narrow ty v = v) (hf : fits ty v = true) (hd : decode B pc = .ok (.putfield i, 3)) (pc' : Nat) (hp : pc + 3 = pc')
    (K : ∀ T' h', Sd l Z n0 y B ml rt R k T' h' cc ss → Wr h h' a (Jvm.RoadKit.slotOf Z O n d) v → Go k n0 Q kc ks T' pc' Ls st) : Go k n0 Q kc ks T pc Ls (v :: .ref a :: st) := by
  subst hp; obtain ⟨⟨locs, Y, N⟩, eh, hx, hZ, hown, hby, hml, hnm, hr⟩ := X
  obtain ⟨T2, h2, X2, e2, W2, st2⟩ := putF Y hx hZ hown (host := "") (Or.inl w) Via.refl eh F E (Or.inr ⟨L, ho, hnm.trans hi⟩) wi hty hn hf (g := mkF (owm k) pc Ls (v :: .ref a :: st)) rfl rfl (Jvm.hb hby hd)
  exact (K T2 h2 ⟨⟨_, X2, Fr.snoc X2 N g0⟩, e2, hx, hZ, hown, hby, hml, hnm, hr⟩ W2).of st2
theorem g_putF (X : Sd l Z n0 y B ml rt R k T h cc ss) {i kk : Nat} {R0 O n d C : String} (w : (Jvm.Cond.fieldLink y.cls i R0 n d).before a0 Z = true) (via : Via Z R0 O n d) {a : Addr} {v old : Value} (F : Fld Z h a O n d old) (E : Exa Z h a C) (L : (Jvm.Cond.lays C O n d).before a0 Z = true) (wi : (Jvm.Cond.instantiable C kk).before a0 Z = true)
    (g0 : n0 ≤ a) (ty : FieldType) (hty : parseFieldDescriptor d = some ty) (hn : narrow ty v = v) (hf : fits ty v = true) (hd : decode B pc = .ok (.putfield i, 3)) (pc' : Nat) (hp : pc + 3 = pc')
    (K : ∀ T' h', Sd l Z n0 y B ml rt R k T' h' cc ss → Wr h h' a (Jvm.RoadKit.slotOf Z O n d) v → Go k n0 Q kc ks T' pc' Ls st) : Go k n0 Q kc ks T pc Ls (v :: .ref a :: st) := by
  subst hp; obtain ⟨⟨locs, Y, N⟩, eh, hx, hZ, hown, hby, hr⟩ := X
  obtain ⟨T2, h2, X2, e2, W2, st2⟩ := putF Y hx hZ hown (host := "") (Or.inl w) via eh F E (Or.inl L) wi hty hn hf (g := mkF (owm k) pc Ls (v :: .ref a :: st)) rfl rfl (Jvm.hb hby hd)
  exact (K T2 h2 ⟨⟨_, X2, Fr.snoc X2 N g0⟩, e2, hx, hZ, hown, hby, hr⟩ W2).of st2
theorem g_putFinN (X : Sd l Z n0 y B ml rt R k T h cc ss) {i kk : Nat} {O n d C : String} (w : (Jvm.Cond.fieldLink y.cls i O n d).before a0 Z = true) {a : Addr} {v old : Value} (v' : Value) (F : Fld Z h a O n d old) (E : Exa Z h a C) (L : (Jvm.Cond.laysFinal C O n d).before a0 Z = true) (ho : y.cls = O) (hi : y.name = "<init>") (wi : (Jvm.Cond.instantiable C kk).before a0 Z = true)
    (g0 : n0 ≤ a) (ty : FieldType) (hty : parseFieldDescriptor d = some ty) (hn : narrow ty v = v') (hf : fits ty v' = true) (hd : decode B pc = .ok (.putfield i, 3)) (pc' : Nat) (hp : pc + 3 = pc')
    (K : ∀ T' h', Sd l Z n0 y B ml rt R k T' h' cc ss → Wr h h' a (Jvm.RoadKit.slotOf Z O n d) v' → Go k n0 Q kc ks T' pc' Ls st) : Go k n0 Q kc ks T pc Ls (v :: .ref a :: st) := by
  subst hp; obtain ⟨⟨locs, Y, N⟩, eh, hx, hZ, hown, hby, hml, hnm, hr⟩ := X
  obtain ⟨T2, h2, X2, e2, W2, st2⟩ := putFN Y hx hZ hown w Via.refl eh F E (Or.inr ⟨L, ho, hnm.trans hi⟩) wi hty hn hf (g := mkF (owm k) pc Ls (v :: .ref a :: st)) rfl rfl (Jvm.hb hby hd)
  exact (K T2 h2 ⟨⟨_, X2, Fr.snoc X2 N g0⟩, e2, hx, hZ, hown, hby, hml, hnm, hr⟩ W2).of st2
theorem g_initO (X : Sd l Z n0 y B ml rt R k T h cc ss) {i : Nat} {a : Addr} (w1 : (Jvm.Cond.methodLink y.cls i Lib.objectInit).before a0 Z = true) (w2 : (Jvm.Cond.instanceMethod Lib.objectInit).before a0 Z = true) (w3 : (Jvm.Cond.code Lib.objectInit ⟨#[0xb1]⟩ 1 none).before a0 Z = true) (hsz : Ls.size = ml) (hf : 1 ≤ R.frames) (hl : (st.map fun v => v.category).sum + 12 ≤ R.locals) (hd : decode B pc = .ok (.invokespecial i, 3)) (pc' : Nat) (hp : pc + 3 = pc')
    (K : ∀ T', Sd l Z n0 y B ml rt R k T' h cc ss → Go k n0 Q kc ks T' pc' Ls st) : Go k n0 Q kc ks T pc Ls (.ref a :: st) := by
  subst hp; obtain ⟨⟨locs, Y, N⟩, eh, hx, hZ, hown, hby, hml, hr⟩ := X
  obtain ⟨T2, X2, e2, st2⟩ := initO Y hx hZ hown w1 w2 w3 eh (g := mkF (owm k) pc Ls (.ref a :: st)) rfl (hsz.trans hml.symm) rfl (Jvm.hb hby hd) hf (W := (st.map fun v => v.category).sum) (by show 2 * 0 + _ ≤ _; omega) hl
  exact (K T2 ⟨⟨locs, X2, N⟩, e2, hx, hZ, hown, hby, hml, hr⟩).of st2
/-! calls -/
theorem g_callS (X : Sd l Z n0 y B ml rt R k T h cc ss) {i : Nat} {z : MethodName} {Bz : ByteArray} {mz : Nat} {rz : Option FieldType} {rm : Room} {Qz : Option Value → Heap → Prop} (argsL rest : List Value) {ps : List FieldType} {pr : Option FieldType} (M : Met l Z n0 z Bz mz rz [] rm argsL.toArray h Qz rm.cells rm.slots)
    (w1 : (Jvm.Cond.methodLink y.cls i z).before a0 Z = true) (w2 : (Jvm.Cond.static z).before a0 Z = true) (w3 : (Jvm.Cond.initialized z.cls).before a0 Z = true) (w4 : (Jvm.Cond.code z Bz mz rz).before a0 Z = true) (hy : z.cls ≠ "java/lang/invoke/MethodHandle" ∧ z.cls ≠ "java/lang/invoke/VarHandle") (pd : parseMethodDescriptor z.desc = some ⟨ps, pr⟩) (hlen : argsL.length = ps.length)
    (hsz : Ls.size = ml) (hf : rm.frames + 1 ≤ R.frames) (hlo : (rest.map fun v => v.category).sum + (mz + 11) + rm.locals ≤ R.locals) (hc : cc + rm.cells ≤ R.cells) (hs : ss + rm.slots ≤ R.slots) (hd : decode B pc = .ok (.invokestatic i, 3)) (hst : st = argsL.reverse ++ rest) (pc' : Nat) (hp : pc + 3 = pc')
    (K : ∀ v T' h', Sd l Z n0 y B ml rt R k T' h' (cc + rm.cells) (ss + rm.slots) → Qz v h' → Go k n0 Q kc ks T' pc' Ls (v.toList ++ rest)) : Go k n0 Q kc ks T pc Ls st := by
  subst hp; obtain ⟨⟨locs, Y, N⟩, eh, hx, hZ, hown, hby, hml, hr⟩ := X
  obtain ⟨v, _, ⟨T', L', c', n'⟩, -, X', ⟨Lc, hQ, l1, y1, z1⟩, stp⟩ := Jvm.LawKit.callS Y hx (y := z) hown (mvT hZ w1) (mvT hZ w2) (mvT hZ w3) (mvT hZ w4) hy (backOf (W := (rest.map fun v => v.category).sum) (Q := fun v h L => Fr n0 L ∧ Qz v h) M hZ w4 w3 hf hlo) (g := mkF (owm k) pc Ls st) rfl (hsz.trans hml.symm) (argsL := argsL) (rest := rest) (lenOf pd hlen) hst (by show 2 * 0 + _ ≤ _; omega) (Jvm.hb hby hd) (fun _ _ => ⟨rfl, eh, hc, hs⟩)
  dsimp only [Pt.U, Pt.locs, Pt.cells, Pt.slots] at X' l1 y1 z1 stp hQ
  subst l1 y1 z1
  exact (K v T' _ ⟨⟨_, X', N.app hQ.1⟩, rfl, hx, hZ, hown, hby, hml, hr⟩ hQ.2).of stp
theorem g_callI (X : Sd l Z n0 y B ml rt R k T h cc ss) {i : Nat} {z : MethodName} {Bz : ByteArray} {mz : Nat} {rm : Room} {Qz : Option Value → Heap → Prop} (a : Addr) (argsL rest : List Value) {ps : List FieldType} {pr : Option FieldType} (M : Met l Z n0 z Bz mz none [] rm (Value.ref a :: argsL).toArray h Qz rm.cells rm.slots) (hi : z.name = "<init>")
    (w1 : (Jvm.Cond.methodLink y.cls i z).before a0 Z = true) (w2 : (Jvm.Cond.instanceMethod z).before a0 Z = true) (w3 : (Jvm.Cond.initialized z.cls).before a0 Z = true) (w4 : (Jvm.Cond.code z Bz mz none).before a0 Z = true) (hy : z.cls ≠ "java/lang/invoke/MethodHandle" ∧ z.cls ≠ "java/lang/invoke/VarHandle") (pd : parseMethodDescriptor z.desc = some ⟨ps, pr⟩) (hlen : argsL.length = ps.length)
    (hsz : Ls.size = ml) (hf : rm.frames + 1 ≤ R.frames) (hlo : (rest.map fun v => v.category).sum + (mz + 11) + rm.locals ≤ R.locals) (hc : cc + rm.cells ≤ R.cells) (hs : ss + rm.slots ≤ R.slots) (hd : decode B pc = .ok (.invokespecial i, 3)) (hst : st = argsL.reverse ++ .ref a :: rest) (pc' : Nat) (hp : pc + 3 = pc')
    (K : ∀ v T' h', Sd l Z n0 y B ml rt R k T' h' (cc + rm.cells) (ss + rm.slots) → Qz v h' → Go k n0 Q kc ks T' pc' Ls (v.toList ++ rest)) : Go k n0 Q kc ks T pc Ls st := by
  subst hp; obtain ⟨⟨locs, Y, N⟩, eh, hx, hZ, hown, hby, hml, hr⟩ := X
  obtain ⟨v, _, ⟨T', L', c', n'⟩, -, X', ⟨Lc, hQ, l1, y1, z1⟩, stp⟩ := Y.specialBack hx (y := z) hi hown (mvT hZ w1) (mvT hZ w2) (mvT hZ w4) hy (backOf (W := (rest.map fun v => v.category).sum) (Q := fun v h L => Fr n0 L ∧ Qz v h) M hZ w4 w3 hf hlo) (g := mkF (owm k) pc Ls st) rfl (hsz.trans hml.symm) (Steps.refl _) (a := a) (argsL := argsL) (rest := rest) (lenOf pd hlen) hst (by show 2 * 0 + _ ≤ _; omega) (Jvm.hb hby hd) (fun _ _ => ⟨rfl, eh, hc, hs⟩)
  dsimp only [Pt.U, Pt.locs, Pt.cells, Pt.slots] at X' l1 y1 z1 stp hQ
  subst l1 y1 z1
  exact (K v T' _ ⟨⟨_, X', N.app hQ.1⟩, rfl, hx, hZ, hown, hby, hml, hr⟩ hQ.2).of fun _ q => stp.trans q
/-- an instance method, found where it is named -/
theorem g_callV (X : Sd l Z n0 y B ml rt R k T h cc ss) {i : Nat} {z : MethodName} {C : String} {Bz : ByteArray} {mz : Nat} {rz : Option FieldType} {rm : Room} {Qz : Option Value → Heap → Prop} (a : Addr) (argsL rest : List Value) {ps : List FieldType} {pr : Option FieldType} (M : Met l Z n0 z Bz mz rz [] rm (Value.ref a :: argsL).toArray h Qz rm.cells rm.slots) (E : Exa Z h a C)
    (w1 : (Jvm.Cond.methodLink y.cls i z).before a0 Z = true) (w2 : (Jvm.Cond.declares z).before a0 Z = true) (w5 : (Jvm.Cond.selects C z z).before a0 Z = true) (w6 : (Jvm.Cond.instanceMethod z).before a0 Z = true) (w3 : (Jvm.Cond.initialized z.cls).before a0 Z = true) (w4 : (Jvm.Cond.code z Bz mz rz).before a0 Z = true) (hy : z.cls ≠ "java/lang/invoke/MethodHandle" ∧ z.cls ≠ "java/lang/invoke/VarHandle") (pd : parseMethodDescriptor z.desc = some ⟨ps, pr⟩) (hlen : argsL.length = ps.length)
    (hsz : Ls.size = ml) (hf : rm.frames + 1 ≤ R.frames) (hlo : (rest.map fun v => v.category).sum + (mz + 11) + rm.locals ≤ R.locals) (hc : cc + rm.cells ≤ R.cells) (hs : ss + rm.slots ≤ R.slots) (hd : decode B pc = .ok (.invokevirtual i, 3)) (hst : st = argsL.reverse ++ .ref a :: rest) (pc' : Nat) (hp : pc + 3 = pc')
    (K : ∀ v T' h', Sd l Z n0 y B ml rt R k T' h' (cc + rm.cells) (ss + rm.slots) → Qz v h' → Go k n0 Q kc ks T' pc' Ls (v.toList ++ rest)) : Go k n0 Q kc ks T pc Ls st := by
  subst hp; obtain ⟨⟨locs, Y, N⟩, eh, hx, hZ, hown, hby, hml, hr⟩ := X
  obtain ⟨cq, kq, qa, qb, qc⟩ := isOf hZ eh E
  obtain ⟨v, _, ⟨T', L', c', n'⟩, -, X', ⟨Lc, hQ, l1, y1, z1⟩, stp⟩ := Y.virtualBack hx (y := z) (z := z) hown (mvT hZ w1) (mvT hZ w2) (notFace_of_selects (args := #[]) (mvT hZ w5)) (mvT hZ w5) (mvT hZ w6) hy (backOf (W := (rest.map fun v => v.category).sum) (Q := fun v h L => Fr n0 L ∧ Qz v h) M hZ w4 w3 hf hlo) qa qc (g := mkF (owm k) pc Ls st) rfl (hsz.trans hml.symm) (Steps.refl _) (argsL := argsL) (rest := rest) (lenOf pd hlen) hst (by show 2 * 0 + _ ≤ _; omega) (Jvm.hb hby hd) (fun _ _ => ⟨rfl, eh, hc, hs⟩)
  dsimp only [Pt.U, Pt.locs, Pt.cells, Pt.slots] at X' l1 y1 z1 stp hQ
  subst l1 y1 z1
  exact (K v T' _ ⟨⟨_, X', N.app hQ.1⟩, rfl, hx, hZ, hown, hby, hml, hr⟩ hQ.2).of fun _ q => stp.trans q
/-- a private instance method by invokevirtual -/
theorem g_callP (X : Sd l Z n0 y B ml rt R k T h cc ss) {i : Nat} {z : MethodName} {C : String} {Bz : ByteArray} {mz : Nat} {rz : Option FieldType} {rm : Room} {Qz : Option Value → Heap → Prop} (a : Addr) (argsL rest : List Value) {ps : List FieldType} {pr : Option FieldType} (M : Met l Z n0 z Bz mz rz [] rm (Value.ref a :: argsL).toArray h Qz rm.cells rm.slots) (E : Exa Z h a C)
    (w1 : (Jvm.Cond.methodLink y.cls i z).before a0 Z = true) (w2 : (Jvm.Cond.privateMethod z).before a0 Z = true) {kk : Nat} (w5 : (Jvm.Cond.instantiable z.cls kk).before a0 Z = true) (w6 : (Jvm.Cond.instanceMethod z).before a0 Z = true) (w3 : (Jvm.Cond.initialized z.cls).before a0 Z = true) (w4 : (Jvm.Cond.code z Bz mz rz).before a0 Z = true) (hy : z.cls ≠ "java/lang/invoke/MethodHandle" ∧ z.cls ≠ "java/lang/invoke/VarHandle") (pd : parseMethodDescriptor z.desc = some ⟨ps, pr⟩) (hlen : argsL.length = ps.length)
    (hsz : Ls.size = ml) (hf : rm.frames + 1 ≤ R.frames) (hlo : (rest.map fun v => v.category).sum + (mz + 11) + rm.locals ≤ R.locals) (hc : cc + rm.cells ≤ R.cells) (hs : ss + rm.slots ≤ R.slots) (hd : decode B pc = .ok (.invokevirtual i, 3)) (hst : st = argsL.reverse ++ .ref a :: rest) (pc' : Nat) (hp : pc + 3 = pc')
    (K : ∀ v T' h', Sd l Z n0 y B ml rt R k T' h' (cc + rm.cells) (ss + rm.slots) → Qz v h' → Go k n0 Q kc ks T' pc' Ls (v.toList ++ rest)) : Go k n0 Q kc ks T pc Ls st := by
  subst hp; obtain ⟨⟨locs, Y, N⟩, eh, hx, hZ, hown, hby, hml, hr⟩ := X
  obtain ⟨cl, qa, qb⟩ := E.cell
  obtain ⟨cz, kz, cz1, cz2, -, cz4, -⟩ := Cond.instantiable_spec (mvT (s := ows k) (args := owa k) hZ w5)
  have hni : kz.isInterface = false := by revert cz4; cases kz.isInterface <;> simp
  have hpv := Cond.privateMethod_at (mvP (s := ows k) (args := #[]) hZ w2)
  have hsl := Jvm.Stand.selects_self_of_private (args := owa k) cz1 cz2 hni hpv (mvT hZ w6) hy
  obtain ⟨v, _, ⟨T', L', c', n'⟩, -, X', ⟨Lc, hQ, l1, y1, z1⟩, stp⟩ := Y.privateBack hx (y := z) hown (mvT hZ w1) (mvT hZ w6) hsl hpv (mvT hZ w4) hy (backOf (W := (rest.map fun v => v.category).sum) (Q := fun v h L => Fr n0 L ∧ Qz v h) M hZ w4 w3 hf hlo) (g := mkF (owm k) pc Ls st) rfl (hsz.trans hml.symm) (Steps.refl _) (by rw [eh]; exact qa) qb (argsL := argsL) (rest := rest) (lenOf pd hlen) hst (by show 2 * 0 + _ ≤ _; omega) (Jvm.hb hby hd) (fun _ _ => ⟨rfl, eh, hc, hs⟩)
  dsimp only [Pt.U, Pt.locs, Pt.cells, Pt.slots] at X' l1 y1 z1 stp hQ
  subst l1 y1 z1
  exact (K v T' _ ⟨⟨_, X', N.app hQ.1⟩, rfl, hx, hZ, hown, hby, hml, hr⟩ hQ.2).of fun _ q => stp.trans q
/-! arrays: n places, f says what each holds -/
def AI (Z : State) (h : Heap) (a : Addr) (ty : FieldType) (n : Nat) (f : Nat → Value) : Prop := ∃ c : Cell, Arr Z h a c ty ∧ c.slots.size = n ∧ n < 2147483648 ∧ ∀ i, i < n → c.slots[i]? = some (f i)
theorem AI.lt {a : Addr} {ty : FieldType} {n : Nat} {f : Nat → Value} (A : AI Z h a ty n f) : a < h.size := by obtain ⟨c, A, -⟩ := A; exact A.lt
theorem AI.ext {h' : Heap} {a : Addr} {ty : FieldType} {n : Nat} {f : Nat → Value} (A : AI Z h a ty n f) (E : Ext h h') : AI Z h' a ty n f := by obtain ⟨c, A, r⟩ := A; exact ⟨c, A.ext E, r⟩
theorem AI.other {h' : Heap} {a b : Addr} {sl : Nat} {v : Value} {ty : FieldType} {n : Nat} {f : Nat → Value} (A : AI Z h a ty n f) (W : Wr h h' b sl v) (q : a ≠ b) : AI Z h' a ty n f := by obtain ⟨c, A, r⟩ := A; exact ⟨c, A.other W q, r⟩
theorem AI.keep {h' : Heap} {ws : List Addr} {a : Addr} {ty : FieldType} {n : Nat} {f : Nat → Value} (A : AI Z h a ty n f) (K : Keep h h' ws) (q : a ∉ ws) : AI Z h' a ty n f := by obtain ⟨c, A, r⟩ := A; exact ⟨c, ⟨K.2.1 a c A.1 q, A.2⟩, r⟩
theorem AI.to {a : Addr} {ty : FieldType} {n : Nat} {f g : Nat → Value} (A : AI Z h a ty n f) (e : ∀ i, i < n → f i = g i) : AI Z h a ty n g := by obtain ⟨c, A, r1, r2, r3⟩ := A; exact ⟨c, A, r1, r2, fun i hi => by rw [r3 i hi, e i hi]⟩
theorem AI.set {h' : Heap} {a : Addr} {ty : FieldType} {n i : Nat} {v : Value} {f : Nat → Value} (A : AI Z h a ty n f) (W : Wr h h' a i v) : AI Z h' a ty n (fun j => if j = i then v else f j) := by
  obtain ⟨c, A, r1, r2, r3⟩ := A
  refine ⟨_, A.same W, by rw [sz_set]; exact r1, r2, fun j hj => ?_⟩
  obtain ⟨c', q1, -, q3, -⟩ := W
  cases A.1.symm.trans q1
  by_cases e : j = i
  · subst e; simp [Cell.setSlot, r1, hj]
  · have e' : ¬ i = j := fun z => e z.symm
    simp [Cell.setSlot, Array.getElem?_setIfInBounds, e', e, r3 j hj]
theorem AI.new {a : Addr} {ty : FieldType} {cA : ClassId} {m : Int32} (A : Arr Z h a (newA cA ty m) ty) (q : ¬ m < 0) {n : Nat} (e : m.toInt = n) : AI Z h a ty n (fun _ => defaultValue ty) := by
  have e1 : m.toNatClampNeg = n := by simp [Int32.toNatClampNeg, e]
  have e2 : n < 2147483648 := by have := m.toInt_lt; omega
  refine ⟨_, A, by rw [sz_new]; exact e1, e2, fun i hi => ?_⟩
  simp [newA, e1, hi]
theorem ix_of {j : Int32} {i n : Nat} (hj : j.toInt = i) (hi : i < n) : ¬ (j < 0 ∨ n ≤ j.toNatClampNeg) ∧ j.toNatClampNeg = i := by
  have e1 : j.toNatClampNeg = i := by simp [Int32.toNatClampNeg, hj]
  refine ⟨fun q => ?_, e1⟩
  rcases q with q | q
  · rw [Int32.lt_iff_toInt_lt, hj] at q; simp at q; omega
  · omega
theorem g_iaload (X : Sd l Z n0 y B ml rt R k T h cc ss) {a : Addr} {n : Nat} {f : Nat → Value} (A : AI Z h a .int n f) {j : Int32} (i : Nat) (hj : j.toInt = i) (hi : i < n) (v : Value) (hv : f i = v) (hd : decode B pc = .ok (.iaload, 1)) (pc' : Nat) (hp : pc + 1 = pc') (K : Go k n0 Q kc ks T pc' Ls (v :: st)) : Go k n0 Q kc ks T pc Ls (.int j :: .ref a :: st) := by
  subst hp hv; obtain ⟨⟨locs, Y, N⟩, eh, hx, hZ, hown, hby, hr⟩ := X
  obtain ⟨c, A, r1, r2, r3⟩ := A; obtain ⟨q1, q2⟩ := ix_of hj hi
  exact K.of fun t q => Y.iaload hx (by rw [eh]; exact A.1) (State.isArrayOf_alike hZ.alike A.2.1) A.2.2 (by rw [r1]; exact q1) (by rw [q2]; exact r3 i hi) (g := mkF (owm k) pc Ls (.int j :: .ref a :: st)) rfl rfl (Jvm.hb hby hd) t q
theorem g_baload (X : Sd l Z n0 y B ml rt R k T h cc ss) {a : Addr} {n : Nat} {f : Nat → Value} (A : AI Z h a .byte n f) {j : Int32} (i : Nat) (hj : j.toInt = i) (hi : i < n) (v : Value) (hv : f i = v) (hd : decode B pc = .ok (.baload, 1)) (pc' : Nat) (hp : pc + 1 = pc') (K : Go k n0 Q kc ks T pc' Ls (v :: st)) : Go k n0 Q kc ks T pc Ls (.int j :: .ref a :: st) := by
  subst hp hv; obtain ⟨⟨locs, Y, N⟩, eh, hx, hZ, hown, hby, hr⟩ := X
  obtain ⟨c, A, r1, r2, r3⟩ := A; obtain ⟨q1, q2⟩ := ix_of hj hi
  exact K.of fun t q => Y.baloadBytes hx (by rw [eh]; exact A.1) (State.isArrayOf_alike hZ.alike A.2.1) A.2.2 (by rw [r1]; exact q1) (by rw [q2]; exact r3 i hi) (g := mkF (owm k) pc Ls (.int j :: .ref a :: st)) rfl rfl (Jvm.hb hby hd) t q
theorem g_laload (X : Sd l Z n0 y B ml rt R k T h cc ss) {a : Addr} {n : Nat} {f : Nat → Value} (A : AI Z h a .long n f) {j : Int32} (i : Nat) (hj : j.toInt = i) (hi : i < n) (v : Value) (hv : f i = v) (hd : decode B pc = .ok (.laload, 1)) (pc' : Nat) (hp : pc + 1 = pc') (K : Go k n0 Q kc ks T pc' Ls (v :: st)) : Go k n0 Q kc ks T pc Ls (.int j :: .ref a :: st) := by
  subst hp hv; obtain ⟨⟨locs, Y, N⟩, eh, hx, hZ, hown, hby, hr⟩ := X
  obtain ⟨c, A, r1, r2, r3⟩ := A; obtain ⟨q1, q2⟩ := ix_of hj hi
  exact K.of fun t q => Y.laload hx (by rw [eh]; exact A.1) (State.isArrayOf_alike hZ.alike A.2.1) A.2.2 (by rw [r1]; exact q1) (by rw [q2]; exact r3 i hi) (g := mkF (owm k) pc Ls (.int j :: .ref a :: st)) rfl rfl (Jvm.hb hby hd) t q
theorem g_aaload (X : Sd l Z n0 y B ml rt R k T h cc ss) {a : Addr} {ty : FieldType} {n : Nat} {f : Nat → Value} (A : AI Z h a ty n f) (hty : ty.isReference = true) {j : Int32} (i : Nat) (hj : j.toInt = i) (hi : i < n) (v : Value) (hv : f i = v) (hd : decode B pc = .ok (.aaload, 1)) (pc' : Nat) (hp : pc + 1 = pc') (K : Go k n0 Q kc ks T pc' Ls (v :: st)) : Go k n0 Q kc ks T pc Ls (.int j :: .ref a :: st) := by
  subst hp hv; obtain ⟨⟨locs, Y, N⟩, eh, hx, hZ, hown, hby, hr⟩ := X
  obtain ⟨c, A, r1, r2, r3⟩ := A; obtain ⟨q1, q2⟩ := ix_of hj hi
  exact K.of fun t q => Y.aaload hx (by rw [eh]; exact A.1) (State.isArrayOf_alike hZ.alike A.2.1) hty A.2.2 (by rw [r1]; exact q1) (by rw [q2]; exact r3 i hi) (g := mkF (owm k) pc Ls (.int j :: .ref a :: st)) rfl rfl (Jvm.hb hby hd) t q
theorem g_alen (X : Sd l Z n0 y B ml rt R k T h cc ss) {a : Addr} {ty : FieldType} {n : Nat} {f : Nat → Value} (A : AI Z h a ty n f) (v : Int32) (hv : v.toInt = n) (hd : decode B pc = .ok (.arraylength, 1)) (pc' : Nat) (hp : pc + 1 = pc') (K : Go k n0 Q kc ks T pc' Ls (.int v :: st)) : Go k n0 Q kc ks T pc Ls (.ref a :: st) := by
  subst hp; obtain ⟨⟨locs, Y, N⟩, eh, hx, hZ, hown, hby, hr⟩ := X
  obtain ⟨c, A, r1, r2, r3⟩ := A
  have ev : c.slots.size.toInt32 = v := by
    rw [r1]; apply Int32.toInt_inj.mp; rw [hv]
    show (Int32.ofNat n).toInt = _
    rw [Int32.toInt_ofNat_of_lt (by omega)]
  exact K.of fun t q => Y.arraylength hx (by rw [eh]; exact A.1) (State.isArrayOf_alike hZ.alike A.2.1) (g := mkF (owm k) pc Ls (.ref a :: st)) rfl rfl (Jvm.hb hby hd) t (by rw [ev]; exact q)
theorem g_newP (X : Sd l Z n0 y B ml rt R k T h cc ss) {aty : ArrayType} (w : (Jvm.Cond.arrayClass (newarray.typeOf aty)).before a0 Z = true) {m : Int32} (n cap : Nat) (hm : m.toInt = n) (hn : n ≤ cap) (hb : cap * 8 ≤ 536870912) (hd : decode B pc = .ok (.newarray aty, 2)) (hc : cc + 1 ≤ R.cells) (hl : ss + cap ≤ R.slots) (pc' : Nat) (hp : pc + 2 = pc')
    (K : ∀ T' h' a, Sd l Z n0 y B ml rt R k T' h' (cc + 1) (ss + cap) → a = h.size → Ext h h' → AI Z h' a (newarray.typeOf aty) n (fun _ => defaultValue (newarray.typeOf aty)) → Go k n0 Q kc ks T' pc' Ls (.ref a :: st)) : Go k n0 Q kc ks T pc Ls (.int m :: st) := by
  subst hp; obtain ⟨⟨locs, Y, N⟩, eh, hx, hZ, hown, hby, hr⟩ := X
  have q : ¬ m < 0 := by
    have e : (0 : Int32).toInt = 0 := by decide
    rw [Int32.lt_iff_toInt_lt, hm]; omega
  have e1 : m.toNatClampNeg = n := by simp [Int32.toNatClampNeg, hm]
  obtain ⟨T2, h2, cA, X2, e2, E2, A2, st2⟩ := newP Y hx hZ w eh (g := mkF (owm k) pc Ls (.int m :: st)) rfl (Jvm.hb hby hd) rfl q (cap := cap) (by omega) hb hc hl
  exact (K T2 h2 h.size ⟨⟨locs, X2, N⟩, e2, hx, hZ, hown, hby, hr⟩ rfl E2 (AI.new A2 q hm)).of st2
theorem g_iastore (X : Sd l Z n0 y B ml rt R k T h cc ss) {a : Addr} {n : Nat} {f : Nat → Value} (A : AI Z h a .int n f) {j x : Int32} (i : Nat) (hj : j.toInt = i) (hi : i < n) (g0 : n0 ≤ a) (hd : decode B pc = .ok (.iastore, 1)) (pc' : Nat) (hp : pc + 1 = pc')
    (K : ∀ T' h', Sd l Z n0 y B ml rt R k T' h' cc ss → Wr h h' a i (.int x) → Go k n0 Q kc ks T' pc' Ls st) : Go k n0 Q kc ks T pc Ls (.int x :: .int j :: .ref a :: st) := by
  subst hp; obtain ⟨⟨locs, Y, N⟩, eh, hx, hZ, hown, hby, hr⟩ := X
  obtain ⟨c, A, r1, r2, r3⟩ := A; obtain ⟨q1, q2⟩ := ix_of hj hi
  obtain ⟨T2, h2, X2, e2, W2, st2⟩ := stI Y hx hZ eh A (j := j) (x := x) (by rw [r1]; exact q1) (g := mkF (owm k) pc Ls (.int x :: .int j :: .ref a :: st)) rfl rfl (Jvm.hb hby hd)
  rw [q2] at X2 W2
  exact (K T2 h2 ⟨⟨_, X2, Fr.snoc X2 N g0⟩, e2, hx, hZ, hown, hby, hr⟩ W2).of st2
theorem g_lastore (X : Sd l Z n0 y B ml rt R k T h cc ss) {a : Addr} {n : Nat} {f : Nat → Value} (A : AI Z h a .long n f) {j : Int32} {x : Int64} (i : Nat) (hj : j.toInt = i) (hi : i < n) (g0 : n0 ≤ a) (hd : decode B pc = .ok (.lastore, 1)) (pc' : Nat) (hp : pc + 1 = pc')
    (K : ∀ T' h', Sd l Z n0 y B ml rt R k T' h' cc ss → Wr h h' a i (.long x) → Go k n0 Q kc ks T' pc' Ls st) : Go k n0 Q kc ks T pc Ls (.long x :: .int j :: .ref a :: st) := by
  subst hp; obtain ⟨⟨locs, Y, N⟩, eh, hx, hZ, hown, hby, hr⟩ := X
  obtain ⟨c, A, r1, r2, r3⟩ := A; obtain ⟨q1, q2⟩ := ix_of hj hi
  obtain ⟨T2, h2, X2, e2, W2, st2⟩ := stJ Y hx hZ eh A (j := j) (x := x) (by rw [r1]; exact q1) (g := mkF (owm k) pc Ls (.long x :: .int j :: .ref a :: st)) rfl rfl (Jvm.hb hby hd)
  rw [q2] at X2 W2
  exact (K T2 h2 ⟨⟨_, X2, Fr.snoc X2 N g0⟩, e2, hx, hZ, hown, hby, hr⟩ W2).of st2
theorem g_bastore (X : Sd l Z n0 y B ml rt R k T h cc ss) {a : Addr} {n : Nat} {f : Nat → Value} (A : AI Z h a .byte n f) {j x : Int32} (i : Nat) (hj : j.toInt = i) (hi : i < n) (g0 : n0 ≤ a) (hd : decode B pc = .ok (.bastore, 1)) (pc' : Nat) (hp : pc + 1 = pc')
    (K : ∀ T' h', Sd l Z n0 y B ml rt R k T' h' cc ss → Wr h h' a i (.int x.toInt8.toInt32) → Go k n0 Q kc ks T' pc' Ls st) : Go k n0 Q kc ks T pc Ls (.int x :: .int j :: .ref a :: st) := by
  subst hp; obtain ⟨⟨locs, Y, N⟩, eh, hx, hZ, hown, hby, hr⟩ := X
  obtain ⟨c, A, r1, r2, r3⟩ := A; obtain ⟨q1, q2⟩ := ix_of hj hi
  obtain ⟨T2, h2, X2, e2, W2, st2⟩ := stB Y hx hZ eh A (j := j) (x := x) (by rw [r1]; exact q1) (g := mkF (owm k) pc Ls (.int x :: .int j :: .ref a :: st)) rfl rfl (Jvm.hb hby hd)
  rw [q2] at X2 W2
  exact (K T2 h2 ⟨⟨_, X2, Fr.snoc X2 N g0⟩, e2, hx, hZ, hown, hby, hr⟩ W2).of st2
/-! arrays of references of the class C -/
def AR (Z : State) (h : Heap) (a : Addr) (C : String) (n : Nat) (f : Nat → Value) : Prop := ∃ c : Cell, Arr Z h a c (.object C) ∧ Ovr Z c.cls C ∧ c.slots.size = n ∧ n < 2147483648 ∧ ∀ i, i < n → c.slots[i]? = some (f i)
theorem AR.ai {a : Addr} {C : String} {n : Nat} {f : Nat → Value} (A : AR Z h a C n f) : AI Z h a (.object C) n f := by obtain ⟨c, A, -, r⟩ := A; exact ⟨c, A, r⟩
theorem AR.lt {a : Addr} {C : String} {n : Nat} {f : Nat → Value} (A : AR Z h a C n f) : a < h.size := A.ai.lt
theorem AR.ext {h' : Heap} {a : Addr} {C : String} {n : Nat} {f : Nat → Value} (A : AR Z h a C n f) (E : Ext h h') : AR Z h' a C n f := by obtain ⟨c, A, r⟩ := A; exact ⟨c, A.ext E, r⟩
theorem AR.other {h' : Heap} {a b : Addr} {sl : Nat} {v : Value} {C : String} {n : Nat} {f : Nat → Value} (A : AR Z h a C n f) (W : Wr h h' b sl v) (q : a ≠ b) : AR Z h' a C n f := by obtain ⟨c, A, r⟩ := A; exact ⟨c, A.other W q, r⟩
theorem AR.keep {h' : Heap} {ws : List Addr} {a : Addr} {C : String} {n : Nat} {f : Nat → Value} (A : AR Z h a C n f) (K : Keep h h' ws) (q : a ∉ ws) : AR Z h' a C n f := by obtain ⟨c, A, r⟩ := A; exact ⟨c, ⟨K.2.1 a c A.1 q, A.2⟩, r⟩
theorem AR.to {a : Addr} {C : String} {n : Nat} {f g : Nat → Value} (A : AR Z h a C n f) (e : ∀ i, i < n → f i = g i) : AR Z h a C n g := by obtain ⟨c, A, r0, r1, r2, r3⟩ := A; exact ⟨c, A, r0, r1, r2, fun i hi => by rw [r3 i hi, e i hi]⟩
theorem AR.set {h' : Heap} {a : Addr} {C : String} {n i : Nat} {v : Value} {f : Nat → Value} (A : AR Z h a C n f) (W : Wr h h' a i v) : AR Z h' a C n (fun j => if j = i then v else f j) := by
  obtain ⟨c, A, r0, r1, r2, r3⟩ := A
  refine ⟨_, A.same W, r0, by rw [sz_set]; exact r1, r2, fun j hj => ?_⟩
  obtain ⟨c', q1, -, q3, -⟩ := W
  cases A.1.symm.trans q1
  by_cases e : j = i
  · subst e; simp [Cell.setSlot, r1, hj]
  · have e' : ¬ i = j := fun z => e z.symm
    simp [Cell.setSlot, Array.getElem?_setIfInBounds, e', e, r3 j hj]
theorem g_newR (X : Sd l Z n0 y B ml rt R k T h cc ss) {i : Nat} {C : String} (w1 : (Jvm.Cond.classLink y.cls i C).before a0 Z = true) (w2 : (Jvm.Cond.arrayOver (.object C)).before a0 Z = true) {m : Int32} (n cap : Nat) (hm : m.toInt = n) (hn : n ≤ cap) (hb : cap * 8 ≤ 536870912) (hd : decode B pc = .ok (.anewarray i, 3)) (hc : cc + 1 ≤ R.cells) (hl : ss + cap ≤ R.slots) (pc' : Nat) (hp : pc + 3 = pc')
    (K : ∀ T' h' a, Sd l Z n0 y B ml rt R k T' h' (cc + 1) (ss + cap) → a = h.size → Ext h h' → AR Z h' a C n (fun _ => .null) → Go k n0 Q kc ks T' pc' Ls (.ref a :: st)) : Go k n0 Q kc ks T pc Ls (.int m :: st) := by
  subst hp; obtain ⟨⟨locs, Y, N⟩, eh, hx, hZ, hown, hby, hr⟩ := X
  have q : ¬ m < 0 := by
    have e : (0 : Int32).toInt = 0 := by decide
    rw [Int32.lt_iff_toInt_lt, hm]; omega
  have e1 : m.toNatClampNeg = n := by simp [Int32.toNatClampNeg, hm]
  obtain ⟨T2, h2, cA, X2, e2, E2, A2, O2, st2⟩ := newR Y hx hZ hown w1 w2 eh (g := mkF (owm k) pc Ls (.int m :: st)) rfl (Jvm.hb hby hd) rfl q (cap := cap) (by omega) hb hc hl
  obtain ⟨c, A3, r1, r2, r3⟩ := AI.new A2 q hm
  cases A2.1.symm.trans A3.1
  exact (K T2 h2 h.size ⟨⟨locs, X2, N⟩, e2, hx, hZ, hown, hby, hr⟩ rfl E2 ⟨_, A2, O2, r1, r2, r3⟩).of st2
theorem g_aastore (X : Sd l Z n0 y B ml rt R k T h cc ss) {a b : Addr} {C : String} {n : Nat} {f : Nat → Value} (A : AR Z h a C n f) {j : Int32} (i : Nat) (hj : j.toInt = i) (hi : i < n) (I : Ins Z h b C true) (g0 : n0 ≤ a) (hd : decode B pc = .ok (.aastore, 1)) (pc' : Nat) (hp : pc + 1 = pc')
    (K : ∀ T' h', Sd l Z n0 y B ml rt R k T' h' cc ss → Wr h h' a i (.ref b) → Go k n0 Q kc ks T' pc' Ls st) : Go k n0 Q kc ks T pc Ls (.ref b :: .int j :: .ref a :: st) := by
  subst hp; obtain ⟨⟨locs, Y, N⟩, eh, hx, hZ, hown, hby, hr⟩ := X
  obtain ⟨c, A, r0, r1, r2, r3⟩ := A; obtain ⟨q1, q2⟩ := ix_of hj hi
  obtain ⟨T2, h2, X2, e2, W2, st2⟩ := stR Y hx hZ eh A (j := j) (v := .ref b) (by rw [r1]; exact q1) rfl (Sto.of A r0 I) (g := mkF (owm k) pc Ls (.ref b :: .int j :: .ref a :: st)) rfl rfl (Jvm.hb hby hd)
  rw [q2] at X2 W2
  exact (K T2 h2 ⟨⟨_, X2, Fr.snoc X2 N g0⟩, e2, hx, hZ, hown, hby, hr⟩ W2).of st2
theorem g_inst1 (X : Sd l Z n0 y B ml rt R k T h cc ss) {i : Nat} {C : String} {a : Addr} (w : (Jvm.Cond.classLink y.cls i C).before a0 Z = true) (I : Ins Z h a C true) (hd : decode B pc = .ok (.instanceof i, 3)) (pc' : Nat) (hp : pc + 3 = pc')
    (K : ∀ T', Sd l Z n0 y B ml rt R k T' h cc ss → Go k n0 Q kc ks T' pc' Ls (.int 1 :: st)) : Go k n0 Q kc ks T pc Ls (.ref a :: st) := by
  subst hp; obtain ⟨⟨locs, Y, N⟩, eh, hx, hZ, hown, hby, hr⟩ := X
  obtain ⟨T2, X2, e2, st2⟩ := instY Y hx hZ hown w eh I (g := mkF (owm k) pc Ls (.ref a :: st)) rfl rfl (Jvm.hb hby hd)
  exact (K T2 ⟨⟨locs, X2, N⟩, e2, hx, hZ, hown, hby, hr⟩).of st2
theorem g_inst0 (X : Sd l Z n0 y B ml rt R k T h cc ss) {i : Nat} {C D : String} {a : Addr} (w : (Jvm.Cond.classLink y.cls i C).before a0 Z = true) (E : Exa Z h a D) (F : ∃ c t, Z.vm.findClass D = some c ∧ Z.vm.findClass C = some t ∧ Z.vm.assignable c t = false) (hd : decode B pc = .ok (.instanceof i, 3)) (pc' : Nat) (hp : pc + 3 = pc')
    (K : ∀ T', Sd l Z n0 y B ml rt R k T' h cc ss → Go k n0 Q kc ks T' pc' Ls (.int 0 :: st)) : Go k n0 Q kc ks T pc Ls (.ref a :: st) := by
  subst hp; obtain ⟨⟨locs, Y, N⟩, eh, hx, hZ, hown, hby, hr⟩ := X
  obtain ⟨T2, X2, e2, st2⟩ := instNo Y hx hZ hown w eh E F (g := mkF (owm k) pc Ls (.ref a :: st)) rfl rfl (Jvm.hb hby hd)
  exact (K T2 ⟨⟨locs, X2, N⟩, e2, hx, hZ, hown, hby, hr⟩).of st2
theorem g_instN (X : Sd l Z n0 y B ml rt R k T h cc ss) {i : Nat} (hd : decode B pc = .ok (.instanceof i, 3)) (pc' : Nat) (hp : pc + 3 = pc') (K : Go k n0 Q kc ks T pc' Ls (.int 0 :: st)) : Go k n0 Q kc ks T pc Ls (.null :: st) := by
  subst hp; obtain ⟨⟨locs, Y, N⟩, eh, hx, hZ, hown, hby, hr⟩ := X
  exact K.of fun t q => Y.instanceofNull hx (g := mkF (owm k) pc Ls (.null :: st)) rfl rfl (Jvm.hb hby hd) t q
theorem g_cast (X : Sd l Z n0 y B ml rt R k T h cc ss) {i : Nat} {C : String} {a : Addr} (w : (Jvm.Cond.classLink y.cls i C).before a0 Z = true) (I : Ins Z h a C true) (hd : decode B pc = .ok (.checkcast i, 3)) (pc' : Nat) (hp : pc + 3 = pc')
    (K : ∀ T', Sd l Z n0 y B ml rt R k T' h cc ss → Go k n0 Q kc ks T' pc' Ls (.ref a :: st)) : Go k n0 Q kc ks T pc Ls (.ref a :: st) := by
  subst hp; obtain ⟨⟨locs, Y, N⟩, eh, hx, hZ, hown, hby, hr⟩ := X
  obtain ⟨T2, X2, e2, st2⟩ := castY Y hx hZ hown w eh I (g := mkF (owm k) pc Ls (.ref a :: st)) rfl rfl (Jvm.hb hby hd)
  exact (K T2 ⟨⟨locs, X2, N⟩, e2, hx, hZ, hown, hby, hr⟩).of st2
end Ow
theorem own_i0 : (0 : Int32).toInt = 0 := by decide
theorem own_i1 : (1 : Int32).toInt = 1 := by decide
theorem own_z0 : (0 : Int32).toInt = ((0 : Nat) : Int) := by decide
theorem own_nn {o : Int32} (h : 0 ≤ o.toInt) : ¬ o < 0 := by rw [Int32.lt_iff_toInt_lt, own_i0]; omega
theorem own_b1 : ((1 : Int32) &&& 1) = 1 := by decide
theorem own_b0 : ((0 : Int32) &&& 1) = 0 := by decide
theorem own_one : (some (Value.int ((1 : Int32) &&& 1))) = some (.int 1) := congrArg (fun z => some (Value.int z)) own_b1
theorem w0 {Z : State} {a0 : Array Value} (hw : ∀ d ∈ tables_1, d.before a0 Z = true) : (Jvm.Cond.classLink "com/example/libaxes/libaxes/xpath/OperatorMirroredPinLaw" (7 : Nat) "com/example/libaxes/libaxes/xpath/Operator").before a0 Z = true := hw _ (List.mem_of_getElem? (i := 0) rfl)
theorem w1 {Z : State} {a0 : Array Value} (hw : ∀ d ∈ tables_1, d.before a0 Z = true) : (Jvm.Cond.arrayOver (Jvm.ClassFile.FieldType.object "com/example/libaxes/libaxes/xpath/Operator")).before a0 Z = true := hw _ (List.mem_of_getElem? (i := 1) rfl)
theorem w2 {Z : State} {a0 : Array Value} (hw : ∀ d ∈ tables_1, d.before a0 Z = true) : (Jvm.Cond.fieldLink "com/example/libaxes/libaxes/xpath/OperatorMirroredPinLaw" (9 : Nat) "com/example/libaxes/libaxes/xpath/Operator" "OR" "Lcom/example/libaxes/libaxes/xpath/Operator;").before a0 Z = true := hw _ (List.mem_of_getElem? (i := 2) rfl)
theorem w3 {Z : State} {a0 : Array Value} (hw : ∀ d ∈ tables_1, d.before a0 Z = true) : (Jvm.Cond.initialized "com/example/libaxes/libaxes/xpath/Operator").before a0 Z = true := hw _ (List.mem_of_getElem? (i := 3) rfl)
theorem w4 {Z : State} {a0 : Array Value} (hw : ∀ d ∈ tables_1, d.before a0 Z = true) : (Jvm.Cond.laysStatic "com/example/libaxes/libaxes/xpath/Operator" "OR" "Lcom/example/libaxes/libaxes/xpath/Operator;").before a0 Z = true := hw _ (List.mem_of_getElem? (i := 4) rfl)
theorem w6 {Z : State} {a0 : Array Value} (hw : ∀ d ∈ tables_1, d.before a0 Z = true) : (Jvm.Cond.fieldLink "com/example/libaxes/libaxes/xpath/OperatorMirroredPinLaw" (13 : Nat) "com/example/libaxes/libaxes/xpath/Operator" "AND" "Lcom/example/libaxes/libaxes/xpath/Operator;").before a0 Z = true := hw _ (List.mem_of_getElem? (i := 6) rfl)
theorem w7 {Z : State} {a0 : Array Value} (hw : ∀ d ∈ tables_1, d.before a0 Z = true) : (Jvm.Cond.laysStatic "com/example/libaxes/libaxes/xpath/Operator" "AND" "Lcom/example/libaxes/libaxes/xpath/Operator;").before a0 Z = true := hw _ (List.mem_of_getElem? (i := 7) rfl)
theorem w8 {Z : State} {a0 : Array Value} (hw : ∀ d ∈ tables_1, d.before a0 Z = true) : (Jvm.Cond.fieldLink "com/example/libaxes/libaxes/xpath/OperatorMirroredPinLaw" (16 : Nat) "com/example/libaxes/libaxes/xpath/Operator" "EQUALS" "Lcom/example/libaxes/libaxes/xpath/Operator;").before a0 Z = true := hw _ (List.mem_of_getElem? (i := 8) rfl)
theorem w9 {Z : State} {a0 : Array Value} (hw : ∀ d ∈ tables_1, d.before a0 Z = true) : (Jvm.Cond.laysStatic "com/example/libaxes/libaxes/xpath/Operator" "EQUALS" "Lcom/example/libaxes/libaxes/xpath/Operator;").before a0 Z = true := hw _ (List.mem_of_getElem? (i := 9) rfl)
theorem w10 {Z : State} {a0 : Array Value} (hw : ∀ d ∈ tables_1, d.before a0 Z = true) : (Jvm.Cond.fieldLink "com/example/libaxes/libaxes/xpath/OperatorMirroredPinLaw" (19 : Nat) "com/example/libaxes/libaxes/xpath/Operator" "NOT_EQUALS" "Lcom/example/libaxes/libaxes/xpath/Operator;").before a0 Z = true := hw _ (List.mem_of_getElem? (i := 10) rfl)
theorem w11 {Z : State} {a0 : Array Value} (hw : ∀ d ∈ tables_1, d.before a0 Z = true) : (Jvm.Cond.laysStatic "com/example/libaxes/libaxes/xpath/Operator" "NOT_EQUALS" "Lcom/example/libaxes/libaxes/xpath/Operator;").before a0 Z = true := hw _ (List.mem_of_getElem? (i := 11) rfl)
theorem w12 {Z : State} {a0 : Array Value} (hw : ∀ d ∈ tables_1, d.before a0 Z = true) : (Jvm.Cond.fieldLink "com/example/libaxes/libaxes/xpath/OperatorMirroredPinLaw" (22 : Nat) "com/example/libaxes/libaxes/xpath/Operator" "LESS" "Lcom/example/libaxes/libaxes/xpath/Operator;").before a0 Z = true := hw _ (List.mem_of_getElem? (i := 12) rfl)
theorem w13 {Z : State} {a0 : Array Value} (hw : ∀ d ∈ tables_1, d.before a0 Z = true) : (Jvm.Cond.laysStatic "com/example/libaxes/libaxes/xpath/Operator" "LESS" "Lcom/example/libaxes/libaxes/xpath/Operator;").before a0 Z = true := hw _ (List.mem_of_getElem? (i := 13) rfl)
theorem w14 {Z : State} {a0 : Array Value} (hw : ∀ d ∈ tables_1, d.before a0 Z = true) : (Jvm.Cond.fieldLink "com/example/libaxes/libaxes/xpath/OperatorMirroredPinLaw" (25 : Nat) "com/example/libaxes/libaxes/xpath/Operator" "LESS_OR_EQUAL" "Lcom/example/libaxes/libaxes/xpath/Operator;").before a0 Z = true := hw _ (List.mem_of_getElem? (i := 14) rfl)
theorem w15 {Z : State} {a0 : Array Value} (hw : ∀ d ∈ tables_1, d.before a0 Z = true) : (Jvm.Cond.laysStatic "com/example/libaxes/libaxes/xpath/Operator" "LESS_OR_EQUAL" "Lcom/example/libaxes/libaxes/xpath/Operator;").before a0 Z = true := hw _ (List.mem_of_getElem? (i := 15) rfl)
theorem w16 {Z : State} {a0 : Array Value} (hw : ∀ d ∈ tables_1, d.before a0 Z = true) : (Jvm.Cond.fieldLink "com/example/libaxes/libaxes/xpath/OperatorMirroredPinLaw" (28 : Nat) "com/example/libaxes/libaxes/xpath/Operator" "GREATER" "Lcom/example/libaxes/libaxes/xpath/Operator;").before a0 Z = true := hw _ (List.mem_of_getElem? (i := 16) rfl)
theorem w17 {Z : State} {a0 : Array Value} (hw : ∀ d ∈ tables_1, d.before a0 Z = true) : (Jvm.Cond.laysStatic "com/example/libaxes/libaxes/xpath/Operator" "GREATER" "Lcom/example/libaxes/libaxes/xpath/Operator;").before a0 Z = true := hw _ (List.mem_of_getElem? (i := 17) rfl)
theorem w18 {Z : State} {a0 : Array Value} (hw : ∀ d ∈ tables_1, d.before a0 Z = true) : (Jvm.Cond.fieldLink "com/example/libaxes/libaxes/xpath/OperatorMirroredPinLaw" (31 : Nat) "com/example/libaxes/libaxes/xpath/Operator" "GREATER_OR_EQUAL" "Lcom/example/libaxes/libaxes/xpath/Operator;").before a0 Z = true := hw _ (List.mem_of_getElem? (i := 18) rfl)
theorem w19 {Z : State} {a0 : Array Value} (hw : ∀ d ∈ tables_1, d.before a0 Z = true) : (Jvm.Cond.laysStatic "com/example/libaxes/libaxes/xpath/Operator" "GREATER_OR_EQUAL" "Lcom/example/libaxes/libaxes/xpath/Operator;").before a0 Z = true := hw _ (List.mem_of_getElem? (i := 19) rfl)
theorem w20 {Z : State} {a0 : Array Value} (hw : ∀ d ∈ tables_1, d.before a0 Z = true) : (Jvm.Cond.fieldLink "com/example/libaxes/libaxes/xpath/OperatorMirroredPinLaw" (34 : Nat) "com/example/libaxes/libaxes/xpath/Operator" "PLUS" "Lcom/example/libaxes/libaxes/xpath/Operator;").before a0 Z = true := hw _ (List.mem_of_getElem? (i := 20) rfl)
theorem w21 {Z : State} {a0 : Array Value} (hw : ∀ d ∈ tables_1, d.before a0 Z = true) : (Jvm.Cond.laysStatic "com/example/libaxes/libaxes/xpath/Operator" "PLUS" "Lcom/example/libaxes/libaxes/xpath/Operator;").before a0 Z = true := hw _ (List.mem_of_getElem? (i := 21) rfl)
theorem w22 {Z : State} {a0 : Array Value} (hw : ∀ d ∈ tables_1, d.before a0 Z = true) : (Jvm.Cond.fieldLink "com/example/libaxes/libaxes/xpath/OperatorMirroredPinLaw" (37 : Nat) "com/example/libaxes/libaxes/xpath/Operator" "MINUS" "Lcom/example/libaxes/libaxes/xpath/Operator;").before a0 Z = true := hw _ (List.mem_of_getElem? (i := 22) rfl)
theorem w23 {Z : State} {a0 : Array Value} (hw : ∀ d ∈ tables_1, d.before a0 Z = true) : (Jvm.Cond.laysStatic "com/example/libaxes/libaxes/xpath/Operator" "MINUS" "Lcom/example/libaxes/libaxes/xpath/Operator;").before a0 Z = true := hw _ (List.mem_of_getElem? (i := 23) rfl)
theorem w24 {Z : State} {a0 : Array Value} (hw : ∀ d ∈ tables_1, d.before a0 Z = true) : (Jvm.Cond.fieldLink "com/example/libaxes/libaxes/xpath/OperatorMirroredPinLaw" (40 : Nat) "com/example/libaxes/libaxes/xpath/Operator" "MULTIPLY" "Lcom/example/libaxes/libaxes/xpath/Operator;").before a0 Z = true := hw _ (List.mem_of_getElem? (i := 24) rfl)
theorem w25 {Z : State} {a0 : Array Value} (hw : ∀ d ∈ tables_1, d.before a0 Z = true) : (Jvm.Cond.laysStatic "com/example/libaxes/libaxes/xpath/Operator" "MULTIPLY" "Lcom/example/libaxes/libaxes/xpath/Operator;").before a0 Z = true := hw _ (List.mem_of_getElem? (i := 25) rfl)
theorem w26 {Z : State} {a0 : Array Value} (hw : ∀ d ∈ tables_1, d.before a0 Z = true) : (Jvm.Cond.fieldLink "com/example/libaxes/libaxes/xpath/OperatorMirroredPinLaw" (43 : Nat) "com/example/libaxes/libaxes/xpath/Operator" "DIV" "Lcom/example/libaxes/libaxes/xpath/Operator;").before a0 Z = true := hw _ (List.mem_of_getElem? (i := 26) rfl)
theorem w27 {Z : State} {a0 : Array Value} (hw : ∀ d ∈ tables_1, d.before a0 Z = true) : (Jvm.Cond.laysStatic "com/example/libaxes/libaxes/xpath/Operator" "DIV" "Lcom/example/libaxes/libaxes/xpath/Operator;").before a0 Z = true := hw _ (List.mem_of_getElem? (i := 27) rfl)
theorem w28 {Z : State} {a0 : Array Value} (hw : ∀ d ∈ tables_1, d.before a0 Z = true) : (Jvm.Cond.fieldLink "com/example/libaxes/libaxes/xpath/OperatorMirroredPinLaw" (46 : Nat) "com/example/libaxes/libaxes/xpath/Operator" "MOD" "Lcom/example/libaxes/libaxes/xpath/Operator;").before a0 Z = true := hw _ (List.mem_of_getElem? (i := 28) rfl)
theorem w29 {Z : State} {a0 : Array Value} (hw : ∀ d ∈ tables_1, d.before a0 Z = true) : (Jvm.Cond.laysStatic "com/example/libaxes/libaxes/xpath/Operator" "MOD" "Lcom/example/libaxes/libaxes/xpath/Operator;").before a0 Z = true := hw _ (List.mem_of_getElem? (i := 29) rfl)
theorem w30 {Z : State} {a0 : Array Value} (hw : ∀ d ∈ tables_1, d.before a0 Z = true) : (Jvm.Cond.constant "com/example/libaxes/libaxes/xpath/OperatorMirroredPinLaw" (49 : Nat) (2147483647 : Int32)).before a0 Z = true := hw _ (List.mem_of_getElem? (i := 30) rfl)
theorem w31 {Z : State} {a0 : Array Value} (hw : ∀ d ∈ tables_1, d.before a0 Z = true) : (Jvm.Cond.methodLink "com/example/libaxes/libaxes/xpath/OperatorMirroredPinLaw" (50 : Nat) ({ cls := "com/example/libaxes/libaxes/xpath/Operator", name := "mirrored", desc := "()Lcom/example/libaxes/libaxes/xpath/Operator;" } : Jvm.MethodName)).before a0 Z = true := hw _ (List.mem_of_getElem? (i := 31) rfl)
theorem w32 {Z : State} {a0 : Array Value} (hw : ∀ d ∈ tables_1, d.before a0 Z = true) : (Jvm.Cond.declares ({ cls := "com/example/libaxes/libaxes/xpath/Operator", name := "mirrored", desc := "()Lcom/example/libaxes/libaxes/xpath/Operator;" } : Jvm.MethodName)).before a0 Z = true := hw _ (List.mem_of_getElem? (i := 32) rfl)
theorem w33 {Z : State} {a0 : Array Value} (hw : ∀ d ∈ tables_1, d.before a0 Z = true) : (Jvm.Cond.instanceMethod ({ cls := "com/example/libaxes/libaxes/xpath/Operator", name := "mirrored", desc := "()Lcom/example/libaxes/libaxes/xpath/Operator;" } : Jvm.MethodName)).before a0 Z = true := hw _ (List.mem_of_getElem? (i := 33) rfl)
theorem w34 {Z : State} {a0 : Array Value} (hw : ∀ d ∈ tables_1, d.before a0 Z = true) : (Jvm.Cond.selects "com/example/libaxes/libaxes/xpath/Operator" ({ cls := "com/example/libaxes/libaxes/xpath/Operator", name := "mirrored", desc := "()Lcom/example/libaxes/libaxes/xpath/Operator;" } : Jvm.MethodName) ({ cls := "com/example/libaxes/libaxes/xpath/Operator", name := "mirrored", desc := "()Lcom/example/libaxes/libaxes/xpath/Operator;" } : Jvm.MethodName)).before a0 Z = true := hw _ (List.mem_of_getElem? (i := 34) rfl)
theorem w35 {Z : State} {a0 : Array Value} (hw : ∀ d ∈ tables_1, d.before a0 Z = true) : (Jvm.Cond.code ({ cls := "com/example/libaxes/libaxes/xpath/Operator", name := "mirrored", desc := "()Lcom/example/libaxes/libaxes/xpath/Operator;" } : Jvm.MethodName) prog_89_method_7_code (2 : Nat) (Option.some (Jvm.ClassFile.FieldType.object "com/example/libaxes/libaxes/xpath/Operator"))).before a0 Z = true := hw _ (List.mem_of_getElem? (i := 35) rfl)
theorem w36 {Z : State} {a0 : Array Value} (hw : ∀ d ∈ tables_1, d.before a0 Z = true) : (Jvm.Cond.fieldLink "com/example/libaxes/libaxes/xpath/Operator" (16 : Nat) "com/example/libaxes/libaxes/xpath/Operator" "LESS" "Lcom/example/libaxes/libaxes/xpath/Operator;").before a0 Z = true := hw _ (List.mem_of_getElem? (i := 36) rfl)
theorem w37 {Z : State} {a0 : Array Value} (hw : ∀ d ∈ tables_1, d.before a0 Z = true) : (Jvm.Cond.fieldLink "com/example/libaxes/libaxes/xpath/Operator" (19 : Nat) "com/example/libaxes/libaxes/xpath/Operator" "LESS_OR_EQUAL" "Lcom/example/libaxes/libaxes/xpath/Operator;").before a0 Z = true := hw _ (List.mem_of_getElem? (i := 37) rfl)
theorem w38 {Z : State} {a0 : Array Value} (hw : ∀ d ∈ tables_1, d.before a0 Z = true) : (Jvm.Cond.fieldLink "com/example/libaxes/libaxes/xpath/Operator" (22 : Nat) "com/example/libaxes/libaxes/xpath/Operator" "GREATER" "Lcom/example/libaxes/libaxes/xpath/Operator;").before a0 Z = true := hw _ (List.mem_of_getElem? (i := 38) rfl)
theorem w39 {Z : State} {a0 : Array Value} (hw : ∀ d ∈ tables_1, d.before a0 Z = true) : (Jvm.Cond.fieldLink "com/example/libaxes/libaxes/xpath/Operator" (25 : Nat) "com/example/libaxes/libaxes/xpath/Operator" "GREATER_OR_EQUAL" "Lcom/example/libaxes/libaxes/xpath/Operator;").before a0 Z = true := hw _ (List.mem_of_getElem? (i := 39) rfl)
theorem w40 {Z : State} {a0 : Array Value} (hw : ∀ d ∈ tables_1, d.before a0 Z = true) : (Jvm.Cond.methodLink "com/example/libaxes/libaxes/xpath/OperatorMirroredPinLaw" (54 : Nat) ({ cls := "com/example/libaxes/libaxes/xpath/Operator", name := "level", desc := "()I" } : Jvm.MethodName)).before a0 Z = true := hw _ (List.mem_of_getElem? (i := 40) rfl)
theorem w41 {Z : State} {a0 : Array Value} (hw : ∀ d ∈ tables_1, d.before a0 Z = true) : (Jvm.Cond.declares ({ cls := "com/example/libaxes/libaxes/xpath/Operator", name := "level", desc := "()I" } : Jvm.MethodName)).before a0 Z = true := hw _ (List.mem_of_getElem? (i := 41) rfl)
theorem w42 {Z : State} {a0 : Array Value} (hw : ∀ d ∈ tables_1, d.before a0 Z = true) : (Jvm.Cond.instanceMethod ({ cls := "com/example/libaxes/libaxes/xpath/Operator", name := "level", desc := "()I" } : Jvm.MethodName)).before a0 Z = true := hw _ (List.mem_of_getElem? (i := 42) rfl)
theorem w43 {Z : State} {a0 : Array Value} (hw : ∀ d ∈ tables_1, d.before a0 Z = true) : (Jvm.Cond.selects "com/example/libaxes/libaxes/xpath/Operator" ({ cls := "com/example/libaxes/libaxes/xpath/Operator", name := "level", desc := "()I" } : Jvm.MethodName) ({ cls := "com/example/libaxes/libaxes/xpath/Operator", name := "level", desc := "()I" } : Jvm.MethodName)).before a0 Z = true := hw _ (List.mem_of_getElem? (i := 43) rfl)
theorem w44 {Z : State} {a0 : Array Value} (hw : ∀ d ∈ tables_1, d.before a0 Z = true) : (Jvm.Cond.code ({ cls := "com/example/libaxes/libaxes/xpath/Operator", name := "level", desc := "()I" } : Jvm.MethodName) prog_89_method_5_code (1 : Nat) (Option.some Jvm.ClassFile.FieldType.int)).before a0 Z = true := hw _ (List.mem_of_getElem? (i := 44) rfl)
theorem w45 {Z : State} {a0 : Array Value} (hw : ∀ d ∈ tables_1, d.before a0 Z = true) : (Jvm.Cond.fieldLink "com/example/libaxes/libaxes/xpath/Operator" (66 : Nat) "com/example/libaxes/libaxes/xpath/Operator" "level" "I").before a0 Z = true := hw _ (List.mem_of_getElem? (i := 45) rfl)
theorem w47 {Z : State} {a0 : Array Value} (hw : ∀ d ∈ tables_1, d.before a0 Z = true) : (Jvm.Cond.methodLink "com/example/libaxes/libaxes/xpath/OperatorMirroredPinLaw" (58 : Nat) ({ cls := "com/example/libaxes/libaxes/xpath/Operator", name := "compares", desc := "(DD)Z" } : Jvm.MethodName)).before a0 Z = true := hw _ (List.mem_of_getElem? (i := 47) rfl)
theorem w48 {Z : State} {a0 : Array Value} (hw : ∀ d ∈ tables_1, d.before a0 Z = true) : (Jvm.Cond.declares ({ cls := "com/example/libaxes/libaxes/xpath/Operator", name := "compares", desc := "(DD)Z" } : Jvm.MethodName)).before a0 Z = true := hw _ (List.mem_of_getElem? (i := 48) rfl)
theorem w49 {Z : State} {a0 : Array Value} (hw : ∀ d ∈ tables_1, d.before a0 Z = true) : (Jvm.Cond.instanceMethod ({ cls := "com/example/libaxes/libaxes/xpath/Operator", name := "compares", desc := "(DD)Z" } : Jvm.MethodName)).before a0 Z = true := hw _ (List.mem_of_getElem? (i := 49) rfl)
theorem w50 {Z : State} {a0 : Array Value} (hw : ∀ d ∈ tables_1, d.before a0 Z = true) : (Jvm.Cond.selects "com/example/libaxes/libaxes/xpath/Operator" ({ cls := "com/example/libaxes/libaxes/xpath/Operator", name := "compares", desc := "(DD)Z" } : Jvm.MethodName) ({ cls := "com/example/libaxes/libaxes/xpath/Operator", name := "compares", desc := "(DD)Z" } : Jvm.MethodName)).before a0 Z = true := hw _ (List.mem_of_getElem? (i := 50) rfl)
theorem w51 {Z : State} {a0 : Array Value} (hw : ∀ d ∈ tables_1, d.before a0 Z = true) : (Jvm.Cond.code ({ cls := "com/example/libaxes/libaxes/xpath/Operator", name := "compares", desc := "(DD)Z" } : Jvm.MethodName) prog_89_method_10_code (6 : Nat) (Option.some Jvm.ClassFile.FieldType.boolean)).before a0 Z = true := hw _ (List.mem_of_getElem? (i := 51) rfl)
theorem w52 {Z : State} {a0 : Array Value} (hw : ∀ d ∈ tables_1, d.before a0 Z = true) : (Jvm.Cond.fieldLink "com/example/libaxes/libaxes/xpath/Operator" (10 : Nat) "com/example/libaxes/libaxes/xpath/Operator" "EQUALS" "Lcom/example/libaxes/libaxes/xpath/Operator;").before a0 Z = true := hw _ (List.mem_of_getElem? (i := 52) rfl)
theorem w53 {Z : State} {a0 : Array Value} (hw : ∀ d ∈ tables_1, d.before a0 Z = true) : (Jvm.Cond.fieldLink "com/example/libaxes/libaxes/xpath/Operator" (13 : Nat) "com/example/libaxes/libaxes/xpath/Operator" "NOT_EQUALS" "Lcom/example/libaxes/libaxes/xpath/Operator;").before a0 Z = true := hw _ (List.mem_of_getElem? (i := 53) rfl)
theorem pd0 : parseMethodDescriptor "()Lcom/example/libaxes/libaxes/xpath/Operator;" = some ⟨[], some (.object "com/example/libaxes/libaxes/xpath/Operator")⟩ := by decide +kernel
theorem pd1 : parseMethodDescriptor "()I" = some ⟨[], some .int⟩ := by decide +kernel
theorem pd2 : parseMethodDescriptor "(DD)Z" = some ⟨[.double, .double], some .boolean⟩ := by decide +kernel
theorem pn0 : Jvm.plainFor (⟨"com/example/libaxes/libaxes/xpath/Operator", "mirrored", "()Lcom/example/libaxes/libaxes/xpath/Operator;"⟩ : MethodName) = true := by first | exact plainFor_of_name (by first | (simp [Jvm.plainName, overriddenIn]; done) | decide +kernel) | decide +kernel
theorem pn1 : Jvm.plainFor (⟨"com/example/libaxes/libaxes/xpath/Operator", "level", "()I"⟩ : MethodName) = true := by first | exact plainFor_of_name (by first | (simp [Jvm.plainName, overriddenIn]; done) | decide +kernel) | decide +kernel
theorem pn2 : Jvm.plainFor (⟨"com/example/libaxes/libaxes/xpath/Operator", "compares", "(DD)Z"⟩ : MethodName) = true := by first | exact plainFor_of_name (by first | (simp [Jvm.plainName, overriddenIn]; done) | decide +kernel) | decide +kernel
theorem pn3 : Jvm.plainFor (⟨"com/example/libaxes/libaxes/xpath/OperatorMirroredPinLaw", "law", "(III)Z"⟩ : MethodName) = true := by first | exact plainFor_of_name (by first | (simp [Jvm.plainName, overriddenIn]; done) | decide +kernel) | decide +kernel
def fM (a lt le gt ge : Addr) : Addr := if a = lt then gt else if a = le then ge else if a = gt then lt else if a = ge then le else a
def fC (a eq ne lt le gt ge : Addr) (x y : UInt64) : Int32 := if a = eq then (if cmpValue (FP.dcmp x y) .l = 0 then 1 else 0) else if a = ne then (if cmpValue (FP.dcmp x y) .l = 0 then 0 else 1) else if a = lt then (if cmpValue (FP.dcmp x y) .g < 0 then 1 else 0) else if a = le then (if 0 < cmpValue (FP.dcmp x y) .g then 0 else 1) else if a = gt then (if 0 < cmpValue (FP.dcmp x y) .l then 1 else 0) else (if cmpValue (FP.dcmp x y) .l < 0 then 0 else 1)
theorem own_b53 (x : Int32) : B53 x.toInt64 := by have r := rng32 x; unfold B53; rw [Int32.toInt_toInt64]; omega
theorem own_cv (x y : Int32) (o : CmpOp) : cmpValue (FP.dcmp (FP.i2d x) (FP.i2d y)) o = if x.toInt < y.toInt then -1 else if x.toInt = y.toInt then 0 else 1 := by
  rw [i2d_w, i2d_w, dcmp_ws (own_b53 x) (own_b53 y), Int32.toInt_toInt64, Int32.toInt_toInt64]
  split
  · rfl
  · split <;> rfl
theorem own_tri {P : Int32 → Int32 → Prop} (x y : Int32) (h1 : P (-1) 1) (h2 : P 0 0) (h3 : P 1 (-1)) (o o' : CmpOp) : P (cmpValue (FP.dcmp (FP.i2d x) (FP.i2d y)) o) (cmpValue (FP.dcmp (FP.i2d y) (FP.i2d x)) o') := by
  rw [own_cv, own_cv]
  by_cases a : x.toInt < y.toInt
  · rw [if_pos a, if_neg (by omega), if_neg (by omega)]; exact h1
  · by_cases b : x.toInt = y.toInt
    · rw [if_neg a, if_pos b, if_neg (by omega), if_pos b.symm]; exact h2
    · rw [if_neg a, if_neg b, if_pos (by omega)]; exact h3
theorem own_irem (k : Int32) : ∃ j : Nat, ((k &&& 2147483647) % 13).toInt = j ∧ j < 13 := by
  have a := c_mask k 2147483647 31 (by decide) (by decide)
  have e : (13 : Int32).toInt = 13 := by decide
  have b : ((k &&& 2147483647) % 13).toInt = (k &&& 2147483647).toInt.tmod 13 := by rw [Int32.toInt_mod, e]
  rw [Int.tmod_eq_emod_of_nonneg (by omega)] at b
  exact ⟨((k &&& 2147483647) % 13).toInt.toNat, by omega, by omega⟩
theorem d1_0 : decode prog_89_method_7_code 0 = .ok (.aload_n 0, 1) := by decide +kernel
theorem d1_1 : decode prog_89_method_7_code 1 = .ok (.getstatic 16, 3) := by decide +kernel
theorem d1_4 : decode prog_89_method_7_code 4 = .ok (.if_acmp .ne 10, 3) := by decide +kernel
theorem d1_7 : decode prog_89_method_7_code 7 = .ok (.getstatic 22, 3) := by decide +kernel
theorem d1_10 : decode prog_89_method_7_code 10 = .ok (.astore_n 1, 1) := by decide +kernel
theorem d1_11 : decode prog_89_method_7_code 11 = .ok (.goto 47, 3) := by decide +kernel
theorem d1_14 : decode prog_89_method_7_code 14 = .ok (.aload_n 0, 1) := by decide +kernel
theorem d1_15 : decode prog_89_method_7_code 15 = .ok (.getstatic 19, 3) := by decide +kernel
theorem d1_18 : decode prog_89_method_7_code 18 = .ok (.if_acmp .ne 10, 3) := by decide +kernel
theorem d1_21 : decode prog_89_method_7_code 21 = .ok (.getstatic 25, 3) := by decide +kernel
theorem d1_24 : decode prog_89_method_7_code 24 = .ok (.astore_n 1, 1) := by decide +kernel
theorem d1_25 : decode prog_89_method_7_code 25 = .ok (.goto 33, 3) := by decide +kernel
theorem d1_28 : decode prog_89_method_7_code 28 = .ok (.aload_n 0, 1) := by decide +kernel
theorem d1_29 : decode prog_89_method_7_code 29 = .ok (.getstatic 22, 3) := by decide +kernel
theorem d1_32 : decode prog_89_method_7_code 32 = .ok (.if_acmp .ne 10, 3) := by decide +kernel
theorem d1_35 : decode prog_89_method_7_code 35 = .ok (.getstatic 16, 3) := by decide +kernel
theorem d1_38 : decode prog_89_method_7_code 38 = .ok (.astore_n 1, 1) := by decide +kernel
theorem d1_39 : decode prog_89_method_7_code 39 = .ok (.goto 19, 3) := by decide +kernel
theorem d1_42 : decode prog_89_method_7_code 42 = .ok (.aload_n 0, 1) := by decide +kernel
theorem d1_43 : decode prog_89_method_7_code 43 = .ok (.getstatic 25, 3) := by decide +kernel
theorem d1_46 : decode prog_89_method_7_code 46 = .ok (.if_acmp .ne 10, 3) := by decide +kernel
theorem d1_49 : decode prog_89_method_7_code 49 = .ok (.getstatic 19, 3) := by decide +kernel
theorem d1_52 : decode prog_89_method_7_code 52 = .ok (.astore_n 1, 1) := by decide +kernel
theorem d1_53 : decode prog_89_method_7_code 53 = .ok (.goto 5, 3) := by decide +kernel
theorem d1_56 : decode prog_89_method_7_code 56 = .ok (.aload_n 0, 1) := by decide +kernel
theorem d1_57 : decode prog_89_method_7_code 57 = .ok (.astore_n 1, 1) := by decide +kernel
theorem d1_58 : decode prog_89_method_7_code 58 = .ok (.aload_n 1, 1) := by decide +kernel
theorem d1_59 : decode prog_89_method_7_code 59 = .ok (.areturn, 1) := by decide +kernel
abbrev Q1 (a : Addr) (oLT : Addr) (oLE : Addr) (oGT : Addr) (oGE : Addr) (r : Addr) (h0 : Heap) : Option Value → Heap → Prop := fun v h => v = some (.ref r) ∧ h0 = h
set_option maxRecDepth 65536 in
set_option maxHeartbeats 40000000 in
theorem rm1 {l : Launch} {Z : State} {a0 : Array Value} (hw : ∀ d ∈ tables_1, d.before a0 Z = true) (n0 : Nat) (a : Addr) (oLT : Addr) (oLE : Addr) (oGT : Addr) (oGE : Addr) (r : Addr) (h0 : Heap) (SoLT : Sta Z h0 "com/example/libaxes/libaxes/xpath/Operator" "LESS" "Lcom/example/libaxes/libaxes/xpath/Operator;" (.ref oLT)) (SoLE : Sta Z h0 "com/example/libaxes/libaxes/xpath/Operator" "LESS_OR_EQUAL" "Lcom/example/libaxes/libaxes/xpath/Operator;" (.ref oLE)) (SoGT : Sta Z h0 "com/example/libaxes/libaxes/xpath/Operator" "GREATER" "Lcom/example/libaxes/libaxes/xpath/Operator;" (.ref oGT)) (SoGE : Sta Z h0 "com/example/libaxes/libaxes/xpath/Operator" "GREATER_OR_EQUAL" "Lcom/example/libaxes/libaxes/xpath/Operator;" (.ref oGE)) (hr : fM a oLT oLE oGT oGE = r) :
    Met l Z n0 (⟨"com/example/libaxes/libaxes/xpath/Operator", "mirrored", "()Lcom/example/libaxes/libaxes/xpath/Operator;"⟩ : MethodName) prog_89_method_7_code 2 (some (.object "com/example/libaxes/libaxes/xpath/Operator")) [] ({ frames := 0, cells := 0, slots := 0, locals := 0 } : Room) #[(.ref a)] h0 (Q1 a oLT oLE oGT oGE r h0) 0 0 := by
  refine Met.of pn0 (Ls := #[.val (.ref a), .unset]) rfl (fun k T0 X0 => ?_)
  refine g_aloadN X0 d1_0 rfl rfl 1 rfl ?_
  refine g_getS X0 (w36 hw) Via.refl SoLT d1_1 4 rfl (fun T1 X1 => ?_)
  refine g_acmpNN X1 a_ne d1_4 14 (by decide) (by decide) 7 rfl (fun h2 => ?_) (fun h2 => ?_)
  · skip
    refine g_getS X1 (w38 hw) Via.refl SoGT d1_7 10 rfl (fun T3 X3 => ?_)
    refine g_astoreN X3 d1_10 rfl #[.val (.ref a), .val (.ref oGT)] rfl 11 rfl ?_
    refine g_goto X3 d1_11 58 (by decide) (by decide) ?_
    refine g_aloadN X3 d1_58 rfl rfl 59 rfl ?_
    exact g_retA X3 rfl rfl rfl d1_59 (by decide) (by decide) ⟨congrArg (fun z => some (Value.ref z)) (by rw [← hr]; unfold fM; rw [if_pos h2]), rfl⟩
  · skip
    refine g_aloadN X1 d1_14 rfl rfl 15 rfl ?_
    refine g_getS X1 (w37 hw) Via.refl SoLE d1_15 18 rfl (fun T4 X4 => ?_)
    refine g_acmpNN X4 a_ne d1_18 28 (by decide) (by decide) 21 rfl (fun h5 => ?_) (fun h5 => ?_)
    · skip
      refine g_getS X4 (w39 hw) Via.refl SoGE d1_21 24 rfl (fun T6 X6 => ?_)
      refine g_astoreN X6 d1_24 rfl #[.val (.ref a), .val (.ref oGE)] rfl 25 rfl ?_
      refine g_goto X6 d1_25 58 (by decide) (by decide) ?_
      refine g_aloadN X6 d1_58 rfl rfl 59 rfl ?_
      exact g_retA X6 rfl rfl rfl d1_59 (by decide) (by decide) ⟨congrArg (fun z => some (Value.ref z)) (by rw [← hr]; unfold fM; rw [if_neg h2, if_pos h5]), rfl⟩
    · skip
      refine g_aloadN X4 d1_28 rfl rfl 29 rfl ?_
      refine g_getS X4 (w38 hw) Via.refl SoGT d1_29 32 rfl (fun T7 X7 => ?_)
      refine g_acmpNN X7 a_ne d1_32 42 (by decide) (by decide) 35 rfl (fun h8 => ?_) (fun h8 => ?_)
      · skip
        refine g_getS X7 (w36 hw) Via.refl SoLT d1_35 38 rfl (fun T9 X9 => ?_)
        refine g_astoreN X9 d1_38 rfl #[.val (.ref a), .val (.ref oLT)] rfl 39 rfl ?_
        refine g_goto X9 d1_39 58 (by decide) (by decide) ?_
        refine g_aloadN X9 d1_58 rfl rfl 59 rfl ?_
        exact g_retA X9 rfl rfl rfl d1_59 (by decide) (by decide) ⟨congrArg (fun z => some (Value.ref z)) (by rw [← hr]; unfold fM; rw [if_neg h2, if_neg h5, if_pos h8]), rfl⟩
      · skip
        refine g_aloadN X7 d1_42 rfl rfl 43 rfl ?_
        refine g_getS X7 (w39 hw) Via.refl SoGE d1_43 46 rfl (fun T10 X10 => ?_)
        refine g_acmpNN X10 a_ne d1_46 56 (by decide) (by decide) 49 rfl (fun h11 => ?_) (fun h11 => ?_)
        · skip
          refine g_getS X10 (w37 hw) Via.refl SoLE d1_49 52 rfl (fun T12 X12 => ?_)
          refine g_astoreN X12 d1_52 rfl #[.val (.ref a), .val (.ref oLE)] rfl 53 rfl ?_
          refine g_goto X12 d1_53 58 (by decide) (by decide) ?_
          refine g_aloadN X12 d1_58 rfl rfl 59 rfl ?_
          exact g_retA X12 rfl rfl rfl d1_59 (by decide) (by decide) ⟨congrArg (fun z => some (Value.ref z)) (by rw [← hr]; unfold fM; rw [if_neg h2, if_neg h5, if_neg h8, if_pos h11]), rfl⟩
        · skip
          refine g_aloadN X10 d1_56 rfl rfl 57 rfl ?_
          refine g_astoreN X10 d1_57 rfl #[.val (.ref a), .val (.ref a)] rfl 58 rfl ?_
          refine g_aloadN X10 d1_58 rfl rfl 59 rfl ?_
          exact g_retA X10 rfl rfl rfl d1_59 (by decide) (by decide) ⟨congrArg (fun z => some (Value.ref z)) (by rw [← hr]; unfold fM; rw [if_neg h2, if_neg h5, if_neg h8, if_neg h11]), rfl⟩
theorem d2_0 : decode prog_89_method_5_code 0 = .ok (.aload_n 0, 1) := by decide +kernel
theorem d2_1 : decode prog_89_method_5_code 1 = .ok (.getfield 66, 3) := by decide +kernel
theorem d2_4 : decode prog_89_method_5_code 4 = .ok (.ireturn, 1) := by decide +kernel
abbrev Q2 (a : Addr) (n : Int32) (h0 : Heap) : Option Value → Heap → Prop := fun v h => v = some (.int n) ∧ h0 = h
set_option maxRecDepth 65536 in
set_option maxHeartbeats 40000000 in
theorem rm2 {l : Launch} {Z : State} {a0 : Array Value} (hw : ∀ d ∈ tables_1, d.before a0 Z = true) (n0 : Nat) (a : Addr) (n : Int32) (h0 : Heap) (F : Fld Z h0 a "com/example/libaxes/libaxes/xpath/Operator" "level" "I" (.int n)) :
    Met l Z n0 (⟨"com/example/libaxes/libaxes/xpath/Operator", "level", "()I"⟩ : MethodName) prog_89_method_5_code 1 (some .int) [] ({ frames := 0, cells := 0, slots := 0, locals := 0 } : Room) #[(.ref a)] h0 (Q2 a n h0) 0 0 := by
  refine Met.of pn1 (Ls := #[.val (.ref a)]) rfl (fun k T0 X0 => ?_)
  refine g_aloadN X0 d2_0 rfl rfl 1 rfl ?_
  refine g_getF X0 (w45 hw) Via.refl F d2_1 4 rfl (fun T1 X1 => ?_)
  exact g_retI X1 d2_4 (by decide) (by decide) ⟨rfl, rfl⟩
theorem d3_0 : decode prog_89_method_10_code 0 = .ok (.aload_n 0, 1) := by decide +kernel
theorem d3_1 : decode prog_89_method_10_code 1 = .ok (.getstatic 10, 3) := by decide +kernel
theorem d3_4 : decode prog_89_method_10_code 4 = .ok (.if_acmp .ne 19, 3) := by decide +kernel
theorem d3_7 : decode prog_89_method_10_code 7 = .ok (.dload_n 1, 1) := by decide +kernel
theorem d3_8 : decode prog_89_method_10_code 8 = .ok (.dload_n 3, 1) := by decide +kernel
theorem d3_9 : decode prog_89_method_10_code 9 = .ok (.dcmp .l, 1) := by decide +kernel
theorem d3_10 : decode prog_89_method_10_code 10 = .ok (.ifCond .ne 7, 3) := by decide +kernel
theorem d3_13 : decode prog_89_method_10_code 13 = .ok (.iconst 1, 1) := by decide +kernel
theorem d3_14 : decode prog_89_method_10_code 14 = .ok (.goto 4, 3) := by decide +kernel
theorem d3_17 : decode prog_89_method_10_code 17 = .ok (.iconst 0, 1) := by decide +kernel
theorem d3_18 : decode prog_89_method_10_code 18 = .ok (.istore 5, 2) := by decide +kernel
theorem d3_20 : decode prog_89_method_10_code 20 = .ok (.goto 135, 3) := by decide +kernel
theorem d3_23 : decode prog_89_method_10_code 23 = .ok (.aload_n 0, 1) := by decide +kernel
theorem d3_24 : decode prog_89_method_10_code 24 = .ok (.getstatic 13, 3) := by decide +kernel
theorem d3_27 : decode prog_89_method_10_code 27 = .ok (.if_acmp .ne 19, 3) := by decide +kernel
theorem d3_30 : decode prog_89_method_10_code 30 = .ok (.dload_n 1, 1) := by decide +kernel
theorem d3_31 : decode prog_89_method_10_code 31 = .ok (.dload_n 3, 1) := by decide +kernel
theorem d3_32 : decode prog_89_method_10_code 32 = .ok (.dcmp .l, 1) := by decide +kernel
theorem d3_33 : decode prog_89_method_10_code 33 = .ok (.ifCond .eq 7, 3) := by decide +kernel
theorem d3_36 : decode prog_89_method_10_code 36 = .ok (.iconst 1, 1) := by decide +kernel
theorem d3_37 : decode prog_89_method_10_code 37 = .ok (.goto 4, 3) := by decide +kernel
theorem d3_40 : decode prog_89_method_10_code 40 = .ok (.iconst 0, 1) := by decide +kernel
theorem d3_41 : decode prog_89_method_10_code 41 = .ok (.istore 5, 2) := by decide +kernel
theorem d3_43 : decode prog_89_method_10_code 43 = .ok (.goto 112, 3) := by decide +kernel
theorem d3_46 : decode prog_89_method_10_code 46 = .ok (.aload_n 0, 1) := by decide +kernel
theorem d3_47 : decode prog_89_method_10_code 47 = .ok (.getstatic 16, 3) := by decide +kernel
theorem d3_50 : decode prog_89_method_10_code 50 = .ok (.if_acmp .ne 19, 3) := by decide +kernel
theorem d3_53 : decode prog_89_method_10_code 53 = .ok (.dload_n 1, 1) := by decide +kernel
theorem d3_54 : decode prog_89_method_10_code 54 = .ok (.dload_n 3, 1) := by decide +kernel
theorem d3_55 : decode prog_89_method_10_code 55 = .ok (.dcmp .g, 1) := by decide +kernel
theorem d3_56 : decode prog_89_method_10_code 56 = .ok (.ifCond .ge 7, 3) := by decide +kernel
theorem d3_59 : decode prog_89_method_10_code 59 = .ok (.iconst 1, 1) := by decide +kernel
theorem d3_60 : decode prog_89_method_10_code 60 = .ok (.goto 4, 3) := by decide +kernel
theorem d3_63 : decode prog_89_method_10_code 63 = .ok (.iconst 0, 1) := by decide +kernel
theorem d3_64 : decode prog_89_method_10_code 64 = .ok (.istore 5, 2) := by decide +kernel
theorem d3_66 : decode prog_89_method_10_code 66 = .ok (.goto 89, 3) := by decide +kernel
theorem d3_69 : decode prog_89_method_10_code 69 = .ok (.aload_n 0, 1) := by decide +kernel
theorem d3_70 : decode prog_89_method_10_code 70 = .ok (.getstatic 19, 3) := by decide +kernel
theorem d3_73 : decode prog_89_method_10_code 73 = .ok (.if_acmp .ne 19, 3) := by decide +kernel
theorem d3_76 : decode prog_89_method_10_code 76 = .ok (.dload_n 1, 1) := by decide +kernel
theorem d3_77 : decode prog_89_method_10_code 77 = .ok (.dload_n 3, 1) := by decide +kernel
theorem d3_78 : decode prog_89_method_10_code 78 = .ok (.dcmp .g, 1) := by decide +kernel
theorem d3_79 : decode prog_89_method_10_code 79 = .ok (.ifCond .gt 7, 3) := by decide +kernel
theorem d3_82 : decode prog_89_method_10_code 82 = .ok (.iconst 1, 1) := by decide +kernel
theorem d3_83 : decode prog_89_method_10_code 83 = .ok (.goto 4, 3) := by decide +kernel
theorem d3_86 : decode prog_89_method_10_code 86 = .ok (.iconst 0, 1) := by decide +kernel
theorem d3_87 : decode prog_89_method_10_code 87 = .ok (.istore 5, 2) := by decide +kernel
theorem d3_89 : decode prog_89_method_10_code 89 = .ok (.goto 66, 3) := by decide +kernel
theorem d3_92 : decode prog_89_method_10_code 92 = .ok (.aload_n 0, 1) := by decide +kernel
theorem d3_93 : decode prog_89_method_10_code 93 = .ok (.getstatic 22, 3) := by decide +kernel
theorem d3_96 : decode prog_89_method_10_code 96 = .ok (.if_acmp .ne 19, 3) := by decide +kernel
theorem d3_99 : decode prog_89_method_10_code 99 = .ok (.dload_n 1, 1) := by decide +kernel
theorem d3_100 : decode prog_89_method_10_code 100 = .ok (.dload_n 3, 1) := by decide +kernel
theorem d3_101 : decode prog_89_method_10_code 101 = .ok (.dcmp .l, 1) := by decide +kernel
theorem d3_102 : decode prog_89_method_10_code 102 = .ok (.ifCond .le 7, 3) := by decide +kernel
theorem d3_105 : decode prog_89_method_10_code 105 = .ok (.iconst 1, 1) := by decide +kernel
theorem d3_106 : decode prog_89_method_10_code 106 = .ok (.goto 4, 3) := by decide +kernel
theorem d3_109 : decode prog_89_method_10_code 109 = .ok (.iconst 0, 1) := by decide +kernel
theorem d3_110 : decode prog_89_method_10_code 110 = .ok (.istore 5, 2) := by decide +kernel
theorem d3_112 : decode prog_89_method_10_code 112 = .ok (.goto 43, 3) := by decide +kernel
theorem d3_115 : decode prog_89_method_10_code 115 = .ok (.aload_n 0, 1) := by decide +kernel
theorem d3_116 : decode prog_89_method_10_code 116 = .ok (.getstatic 25, 3) := by decide +kernel
theorem d3_119 : decode prog_89_method_10_code 119 = .ok (.if_acmp .ne 19, 3) := by decide +kernel
theorem d3_122 : decode prog_89_method_10_code 122 = .ok (.dload_n 1, 1) := by decide +kernel
theorem d3_123 : decode prog_89_method_10_code 123 = .ok (.dload_n 3, 1) := by decide +kernel
theorem d3_124 : decode prog_89_method_10_code 124 = .ok (.dcmp .l, 1) := by decide +kernel
theorem d3_125 : decode prog_89_method_10_code 125 = .ok (.ifCond .lt 7, 3) := by decide +kernel
theorem d3_128 : decode prog_89_method_10_code 128 = .ok (.iconst 1, 1) := by decide +kernel
theorem d3_129 : decode prog_89_method_10_code 129 = .ok (.goto 4, 3) := by decide +kernel
theorem d3_132 : decode prog_89_method_10_code 132 = .ok (.iconst 0, 1) := by decide +kernel
theorem d3_133 : decode prog_89_method_10_code 133 = .ok (.istore 5, 2) := by decide +kernel
theorem d3_135 : decode prog_89_method_10_code 135 = .ok (.goto 20, 3) := by decide +kernel
theorem d3_155 : decode prog_89_method_10_code 155 = .ok (.iload 5, 2) := by decide +kernel
theorem d3_157 : decode prog_89_method_10_code 157 = .ok (.ireturn, 1) := by decide +kernel
abbrev Q3 (a : Addr) (x : UInt64) (y : UInt64) (oEQ : Addr) (oNE : Addr) (oLT : Addr) (oLE : Addr) (oGT : Addr) (oGE : Addr) (h0 : Heap) : Option Value → Heap → Prop := fun v h => v = some (.int (fC a oEQ oNE oLT oLE oGT oGE x y)) ∧ h0 = h
set_option maxRecDepth 65536 in
set_option maxHeartbeats 40000000 in
theorem rm3 {l : Launch} {Z : State} {a0 : Array Value} (hw : ∀ d ∈ tables_1, d.before a0 Z = true) (n0 : Nat) (a : Addr) (x : UInt64) (y : UInt64) (oEQ : Addr) (oNE : Addr) (oLT : Addr) (oLE : Addr) (oGT : Addr) (oGE : Addr) (h0 : Heap) (SoEQ : Sta Z h0 "com/example/libaxes/libaxes/xpath/Operator" "EQUALS" "Lcom/example/libaxes/libaxes/xpath/Operator;" (.ref oEQ)) (SoNE : Sta Z h0 "com/example/libaxes/libaxes/xpath/Operator" "NOT_EQUALS" "Lcom/example/libaxes/libaxes/xpath/Operator;" (.ref oNE)) (SoLT : Sta Z h0 "com/example/libaxes/libaxes/xpath/Operator" "LESS" "Lcom/example/libaxes/libaxes/xpath/Operator;" (.ref oLT)) (SoLE : Sta Z h0 "com/example/libaxes/libaxes/xpath/Operator" "LESS_OR_EQUAL" "Lcom/example/libaxes/libaxes/xpath/Operator;" (.ref oLE)) (SoGT : Sta Z h0 "com/example/libaxes/libaxes/xpath/Operator" "GREATER" "Lcom/example/libaxes/libaxes/xpath/Operator;" (.ref oGT)) (SoGE : Sta Z h0 "com/example/libaxes/libaxes/xpath/Operator" "GREATER_OR_EQUAL" "Lcom/example/libaxes/libaxes/xpath/Operator;" (.ref oGE)) (hm : a = oEQ ∨ a = oNE ∨ a = oLT ∨ a = oLE ∨ a = oGT ∨ a = oGE) :
    Met l Z n0 (⟨"com/example/libaxes/libaxes/xpath/Operator", "compares", "(DD)Z"⟩ : MethodName) prog_89_method_10_code 6 (some .boolean) [] ({ frames := 0, cells := 0, slots := 0, locals := 0 } : Room) #[(.ref a), (.double x), (.double y)] h0 (Q3 a x y oEQ oNE oLT oLE oGT oGE h0) 0 0 := by
  refine Met.of pn2 (Ls := #[.val (.ref a), .val (.double x), .second, .val (.double y), .second, .unset]) rfl (fun k T0 X0 => ?_)
  refine g_aloadN X0 d3_0 rfl rfl 1 rfl ?_
  refine g_getS X0 (w52 hw) Via.refl SoEQ d3_1 4 rfl (fun T1 X1 => ?_)
  refine g_acmpNN X1 a_ne d3_4 23 (by decide) (by decide) 7 rfl (fun h2 => ?_) (fun h2 => ?_)
  · skip
    refine g_dloadN X1 d3_7 rfl 8 rfl ?_
    refine g_dloadN X1 d3_8 rfl 9 rfl ?_
    refine g_dcmp X1 d3_9 10 rfl ?_
    have k18_1 : ∀ (v3 : Int32), (Q3 a x y oEQ oNE oLT oLE oGT oGE h0) (some (.int (v3 &&& 1))) h0 → Go k n0 (Q3 a x y oEQ oNE oLT oLE oGT oGE h0) 0 0 T1 18 #[.val (.ref a), .val (.double x), .second, .val (.double y), .second, .unset] [(.int v3)] := by
      intro v3 hQ
      refine g_istore X1 d3_18 #[.val (.ref a), .val (.double x), .second, .val (.double y), .second, .val (.int v3)] rfl 20 rfl ?_
      refine g_goto X1 d3_20 155 (by decide) (by decide) ?_
      refine g_iload X1 d3_155 rfl 157 rfl ?_
      exact g_retZ X1 d3_157 (by decide) (by decide) hQ
    refine g_ifN X1 z_ne d3_10 17 (by decide) (by decide) 13 rfl (fun h4 => ?_) (fun h4 => ?_)
    · skip
      refine g_iconst X1 (1 : Int32) d3_13 rfl 14 rfl ?_
      refine g_goto X1 d3_14 18 (by decide) (by decide) ?_
      exact k18_1 ((1 : Int32)) ⟨congrArg (fun z => some (Value.int z)) (own_b1.trans (by unfold fC; rw [if_pos h2, if_pos h4])), rfl⟩
    · skip
      refine g_iconst X1 (0 : Int32) d3_17 rfl 18 rfl ?_
      exact k18_1 ((0 : Int32)) ⟨congrArg (fun z => some (Value.int z)) (own_b0.trans (by unfold fC; rw [if_pos h2, if_neg h4])), rfl⟩
  · skip
    refine g_aloadN X1 d3_23 rfl rfl 24 rfl ?_
    refine g_getS X1 (w53 hw) Via.refl SoNE d3_24 27 rfl (fun T5 X5 => ?_)
    refine g_acmpNN X5 a_ne d3_27 46 (by decide) (by decide) 30 rfl (fun h6 => ?_) (fun h6 => ?_)
    · skip
      refine g_dloadN X5 d3_30 rfl 31 rfl ?_
      refine g_dloadN X5 d3_31 rfl 32 rfl ?_
      refine g_dcmp X5 d3_32 33 rfl ?_
      have k41_2 : ∀ (v7 : Int32), (Q3 a x y oEQ oNE oLT oLE oGT oGE h0) (some (.int (v7 &&& 1))) h0 → Go k n0 (Q3 a x y oEQ oNE oLT oLE oGT oGE h0) 0 0 T5 41 #[.val (.ref a), .val (.double x), .second, .val (.double y), .second, .unset] [(.int v7)] := by
        intro v7 hQ
        refine g_istore X5 d3_41 #[.val (.ref a), .val (.double x), .second, .val (.double y), .second, .val (.int v7)] rfl 43 rfl ?_
        refine g_goto X5 d3_43 155 (by decide) (by decide) ?_
        refine g_iload X5 d3_155 rfl 157 rfl ?_
        exact g_retZ X5 d3_157 (by decide) (by decide) hQ
      refine g_if X5 z_eq d3_33 40 (by decide) (by decide) 36 rfl (fun h8 => ?_) (fun h8 => ?_)
      · skip
        refine g_iconst X5 (0 : Int32) d3_40 rfl 41 rfl ?_
        exact k41_2 ((0 : Int32)) ⟨congrArg (fun z => some (Value.int z)) (own_b0.trans (by unfold fC; rw [if_neg h2, if_pos h6, if_pos h8])), rfl⟩
      · skip
        refine g_iconst X5 (1 : Int32) d3_36 rfl 37 rfl ?_
        refine g_goto X5 d3_37 41 (by decide) (by decide) ?_
        exact k41_2 ((1 : Int32)) ⟨congrArg (fun z => some (Value.int z)) (own_b1.trans (by unfold fC; rw [if_neg h2, if_pos h6, if_neg h8])), rfl⟩
    · skip
      refine g_aloadN X5 d3_46 rfl rfl 47 rfl ?_
      refine g_getS X5 (w36 hw) Via.refl SoLT d3_47 50 rfl (fun T9 X9 => ?_)
      refine g_acmpNN X9 a_ne d3_50 69 (by decide) (by decide) 53 rfl (fun h10 => ?_) (fun h10 => ?_)
      · skip
        refine g_dloadN X9 d3_53 rfl 54 rfl ?_
        refine g_dloadN X9 d3_54 rfl 55 rfl ?_
        refine g_dcmp X9 d3_55 56 rfl ?_
        have k64_3 : ∀ (v11 : Int32), (Q3 a x y oEQ oNE oLT oLE oGT oGE h0) (some (.int (v11 &&& 1))) h0 → Go k n0 (Q3 a x y oEQ oNE oLT oLE oGT oGE h0) 0 0 T9 64 #[.val (.ref a), .val (.double x), .second, .val (.double y), .second, .unset] [(.int v11)] := by
          intro v11 hQ
          refine g_istore X9 d3_64 #[.val (.ref a), .val (.double x), .second, .val (.double y), .second, .val (.int v11)] rfl 66 rfl ?_
          refine g_goto X9 d3_66 155 (by decide) (by decide) ?_
          refine g_iload X9 d3_155 rfl 157 rfl ?_
          exact g_retZ X9 d3_157 (by decide) (by decide) hQ
        refine g_ifN X9 z_ge d3_56 63 (by decide) (by decide) 59 rfl (fun h12 => ?_) (fun h12 => ?_)
        · skip
          refine g_iconst X9 (1 : Int32) d3_59 rfl 60 rfl ?_
          refine g_goto X9 d3_60 64 (by decide) (by decide) ?_
          exact k64_3 ((1 : Int32)) ⟨congrArg (fun z => some (Value.int z)) (own_b1.trans (by unfold fC; rw [if_neg h2, if_neg h6, if_pos h10, if_pos h12])), rfl⟩
        · skip
          refine g_iconst X9 (0 : Int32) d3_63 rfl 64 rfl ?_
          exact k64_3 ((0 : Int32)) ⟨congrArg (fun z => some (Value.int z)) (own_b0.trans (by unfold fC; rw [if_neg h2, if_neg h6, if_pos h10, if_neg h12])), rfl⟩
      · skip
        refine g_aloadN X9 d3_69 rfl rfl 70 rfl ?_
        refine g_getS X9 (w37 hw) Via.refl SoLE d3_70 73 rfl (fun T13 X13 => ?_)
        refine g_acmpNN X13 a_ne d3_73 92 (by decide) (by decide) 76 rfl (fun h14 => ?_) (fun h14 => ?_)
        · skip
          refine g_dloadN X13 d3_76 rfl 77 rfl ?_
          refine g_dloadN X13 d3_77 rfl 78 rfl ?_
          refine g_dcmp X13 d3_78 79 rfl ?_
          have k87_4 : ∀ (v15 : Int32), (Q3 a x y oEQ oNE oLT oLE oGT oGE h0) (some (.int (v15 &&& 1))) h0 → Go k n0 (Q3 a x y oEQ oNE oLT oLE oGT oGE h0) 0 0 T13 87 #[.val (.ref a), .val (.double x), .second, .val (.double y), .second, .unset] [(.int v15)] := by
            intro v15 hQ
            refine g_istore X13 d3_87 #[.val (.ref a), .val (.double x), .second, .val (.double y), .second, .val (.int v15)] rfl 89 rfl ?_
            refine g_goto X13 d3_89 155 (by decide) (by decide) ?_
            refine g_iload X13 d3_155 rfl 157 rfl ?_
            exact g_retZ X13 d3_157 (by decide) (by decide) hQ
          refine g_if X13 z_gt d3_79 86 (by decide) (by decide) 82 rfl (fun h16 => ?_) (fun h16 => ?_)
          · skip
            refine g_iconst X13 (0 : Int32) d3_86 rfl 87 rfl ?_
            exact k87_4 ((0 : Int32)) ⟨congrArg (fun z => some (Value.int z)) (own_b0.trans (by unfold fC; rw [if_neg h2, if_neg h6, if_neg h10, if_pos h14, if_pos h16])), rfl⟩
          · skip
            refine g_iconst X13 (1 : Int32) d3_82 rfl 83 rfl ?_
            refine g_goto X13 d3_83 87 (by decide) (by decide) ?_
            exact k87_4 ((1 : Int32)) ⟨congrArg (fun z => some (Value.int z)) (own_b1.trans (by unfold fC; rw [if_neg h2, if_neg h6, if_neg h10, if_pos h14, if_neg h16])), rfl⟩
        · skip
          refine g_aloadN X13 d3_92 rfl rfl 93 rfl ?_
          refine g_getS X13 (w38 hw) Via.refl SoGT d3_93 96 rfl (fun T17 X17 => ?_)
          refine g_acmpNN X17 a_ne d3_96 115 (by decide) (by decide) 99 rfl (fun h18 => ?_) (fun h18 => ?_)
          · skip
            refine g_dloadN X17 d3_99 rfl 100 rfl ?_
            refine g_dloadN X17 d3_100 rfl 101 rfl ?_
            refine g_dcmp X17 d3_101 102 rfl ?_
            have k110_5 : ∀ (v19 : Int32), (Q3 a x y oEQ oNE oLT oLE oGT oGE h0) (some (.int (v19 &&& 1))) h0 → Go k n0 (Q3 a x y oEQ oNE oLT oLE oGT oGE h0) 0 0 T17 110 #[.val (.ref a), .val (.double x), .second, .val (.double y), .second, .unset] [(.int v19)] := by
              intro v19 hQ
              refine g_istore X17 d3_110 #[.val (.ref a), .val (.double x), .second, .val (.double y), .second, .val (.int v19)] rfl 112 rfl ?_
              refine g_goto X17 d3_112 155 (by decide) (by decide) ?_
              refine g_iload X17 d3_155 rfl 157 rfl ?_
              exact g_retZ X17 d3_157 (by decide) (by decide) hQ
            refine g_ifN X17 z_le d3_102 109 (by decide) (by decide) 105 rfl (fun h20 => ?_) (fun h20 => ?_)
            · skip
              refine g_iconst X17 (1 : Int32) d3_105 rfl 106 rfl ?_
              refine g_goto X17 d3_106 110 (by decide) (by decide) ?_
              exact k110_5 ((1 : Int32)) ⟨congrArg (fun z => some (Value.int z)) (own_b1.trans (by unfold fC; rw [if_neg h2, if_neg h6, if_neg h10, if_neg h14, if_pos h18, if_pos h20])), rfl⟩
            · skip
              refine g_iconst X17 (0 : Int32) d3_109 rfl 110 rfl ?_
              exact k110_5 ((0 : Int32)) ⟨congrArg (fun z => some (Value.int z)) (own_b0.trans (by unfold fC; rw [if_neg h2, if_neg h6, if_neg h10, if_neg h14, if_pos h18, if_neg h20])), rfl⟩
          · skip
            refine g_aloadN X17 d3_115 rfl rfl 116 rfl ?_
            refine g_getS X17 (w39 hw) Via.refl SoGE d3_116 119 rfl (fun T21 X21 => ?_)
            refine g_acmpNN X21 a_ne d3_119 138 (by decide) (by decide) 122 rfl (fun h22 => ?_) (fun h22 => ?_)
            · skip
              refine g_dloadN X21 d3_122 rfl 123 rfl ?_
              refine g_dloadN X21 d3_123 rfl 124 rfl ?_
              refine g_dcmp X21 d3_124 125 rfl ?_
              have k133_6 : ∀ (v23 : Int32), (Q3 a x y oEQ oNE oLT oLE oGT oGE h0) (some (.int (v23 &&& 1))) h0 → Go k n0 (Q3 a x y oEQ oNE oLT oLE oGT oGE h0) 0 0 T21 133 #[.val (.ref a), .val (.double x), .second, .val (.double y), .second, .unset] [(.int v23)] := by
                intro v23 hQ
                refine g_istore X21 d3_133 #[.val (.ref a), .val (.double x), .second, .val (.double y), .second, .val (.int v23)] rfl 135 rfl ?_
                refine g_goto X21 d3_135 155 (by decide) (by decide) ?_
                refine g_iload X21 d3_155 rfl 157 rfl ?_
                exact g_retZ X21 d3_157 (by decide) (by decide) hQ
              refine g_if X21 z_lt d3_125 132 (by decide) (by decide) 128 rfl (fun h24 => ?_) (fun h24 => ?_)
              · skip
                refine g_iconst X21 (0 : Int32) d3_132 rfl 133 rfl ?_
                exact k133_6 ((0 : Int32)) ⟨congrArg (fun z => some (Value.int z)) (own_b0.trans (by unfold fC; rw [if_neg h2, if_neg h6, if_neg h10, if_neg h14, if_neg h18, if_pos h24])), rfl⟩
              · skip
                refine g_iconst X21 (1 : Int32) d3_128 rfl 129 rfl ?_
                refine g_goto X21 d3_129 133 (by decide) (by decide) ?_
                exact k133_6 ((1 : Int32)) ⟨congrArg (fun z => some (Value.int z)) (own_b1.trans (by unfold fC; rw [if_neg h2, if_neg h6, if_neg h10, if_neg h14, if_neg h18, if_neg h24])), rfl⟩
            · skip
              exact absurd hm (by simp [h2, h6, h10, h14, h18, h22])
abbrev Q0 (k0 : Int32) (dx : Int32) (dy : Int32) (oOR : Addr) (oAN : Addr) (oEQ : Addr) (oNE : Addr) (oLT : Addr) (oLE : Addr) (oGT : Addr) (oGE : Addr) (oPL : Addr) (oMI : Addr) (oMU : Addr) (oDI : Addr) (oMO : Addr) (h0 : Heap) : Option Value → Heap → Prop := fun v h => v = some (.int 1)
set_option maxRecDepth 65536 in
set_option maxHeartbeats 40000000 in
theorem rm0 {l : Launch} {Z : State} {a0 : Array Value} (hw : ∀ d ∈ tables_1, d.before a0 Z = true) (n0 : Nat) (k0 : Int32) (dx : Int32) (dy : Int32) (oOR : Addr) (oAN : Addr) (oEQ : Addr) (oNE : Addr) (oLT : Addr) (oLE : Addr) (oGT : Addr) (oGE : Addr) (oPL : Addr) (oMI : Addr) (oMU : Addr) (oDI : Addr) (oMO : Addr) (h0 : Heap) (Z0 : n0 ≤ h0.size) (SoOR : Sta Z h0 "com/example/libaxes/libaxes/xpath/Operator" "OR" "Lcom/example/libaxes/libaxes/xpath/Operator;" (.ref oOR)) (SoAN : Sta Z h0 "com/example/libaxes/libaxes/xpath/Operator" "AND" "Lcom/example/libaxes/libaxes/xpath/Operator;" (.ref oAN)) (SoEQ : Sta Z h0 "com/example/libaxes/libaxes/xpath/Operator" "EQUALS" "Lcom/example/libaxes/libaxes/xpath/Operator;" (.ref oEQ)) (SoNE : Sta Z h0 "com/example/libaxes/libaxes/xpath/Operator" "NOT_EQUALS" "Lcom/example/libaxes/libaxes/xpath/Operator;" (.ref oNE)) (SoLT : Sta Z h0 "com/example/libaxes/libaxes/xpath/Operator" "LESS" "Lcom/example/libaxes/libaxes/xpath/Operator;" (.ref oLT)) (SoLE : Sta Z h0 "com/example/libaxes/libaxes/xpath/Operator" "LESS_OR_EQUAL" "Lcom/example/libaxes/libaxes/xpath/Operator;" (.ref oLE)) (SoGT : Sta Z h0 "com/example/libaxes/libaxes/xpath/Operator" "GREATER" "Lcom/example/libaxes/libaxes/xpath/Operator;" (.ref oGT)) (SoGE : Sta Z h0 "com/example/libaxes/libaxes/xpath/Operator" "GREATER_OR_EQUAL" "Lcom/example/libaxes/libaxes/xpath/Operator;" (.ref oGE)) (SoPL : Sta Z h0 "com/example/libaxes/libaxes/xpath/Operator" "PLUS" "Lcom/example/libaxes/libaxes/xpath/Operator;" (.ref oPL)) (SoMI : Sta Z h0 "com/example/libaxes/libaxes/xpath/Operator" "MINUS" "Lcom/example/libaxes/libaxes/xpath/Operator;" (.ref oMI)) (SoMU : Sta Z h0 "com/example/libaxes/libaxes/xpath/Operator" "MULTIPLY" "Lcom/example/libaxes/libaxes/xpath/Operator;" (.ref oMU)) (SoDI : Sta Z h0 "com/example/libaxes/libaxes/xpath/Operator" "DIV" "Lcom/example/libaxes/libaxes/xpath/Operator;" (.ref oDI)) (SoMO : Sta Z h0 "com/example/libaxes/libaxes/xpath/Operator" "MOD" "Lcom/example/libaxes/libaxes/xpath/Operator;" (.ref oMO)) (EoOR : Exa Z h0 oOR "com/example/libaxes/libaxes/xpath/Operator") (EoAN : Exa Z h0 oAN "com/example/libaxes/libaxes/xpath/Operator") (EoEQ : Exa Z h0 oEQ "com/example/libaxes/libaxes/xpath/Operator") (EoNE : Exa Z h0 oNE "com/example/libaxes/libaxes/xpath/Operator") (EoLT : Exa Z h0 oLT "com/example/libaxes/libaxes/xpath/Operator") (EoLE : Exa Z h0 oLE "com/example/libaxes/libaxes/xpath/Operator") (EoGT : Exa Z h0 oGT "com/example/libaxes/libaxes/xpath/Operator") (EoGE : Exa Z h0 oGE "com/example/libaxes/libaxes/xpath/Operator") (EoPL : Exa Z h0 oPL "com/example/libaxes/libaxes/xpath/Operator") (EoMI : Exa Z h0 oMI "com/example/libaxes/libaxes/xpath/Operator") (EoMU : Exa Z h0 oMU "com/example/libaxes/libaxes/xpath/Operator") (EoDI : Exa Z h0 oDI "com/example/libaxes/libaxes/xpath/Operator") (EoMO : Exa Z h0 oMO "com/example/libaxes/libaxes/xpath/Operator") (FoOR : Fld Z h0 oOR "com/example/libaxes/libaxes/xpath/Operator" "level" "I" (.int (0 : Int32))) (FoAN : Fld Z h0 oAN "com/example/libaxes/libaxes/xpath/Operator" "level" "I" (.int (1 : Int32))) (FoEQ : Fld Z h0 oEQ "com/example/libaxes/libaxes/xpath/Operator" "level" "I" (.int (2 : Int32))) (FoNE : Fld Z h0 oNE "com/example/libaxes/libaxes/xpath/Operator" "level" "I" (.int (2 : Int32))) (FoLT : Fld Z h0 oLT "com/example/libaxes/libaxes/xpath/Operator" "level" "I" (.int (3 : Int32))) (FoLE : Fld Z h0 oLE "com/example/libaxes/libaxes/xpath/Operator" "level" "I" (.int (3 : Int32))) (FoGT : Fld Z h0 oGT "com/example/libaxes/libaxes/xpath/Operator" "level" "I" (.int (3 : Int32))) (FoGE : Fld Z h0 oGE "com/example/libaxes/libaxes/xpath/Operator" "level" "I" (.int (3 : Int32))) (FoPL : Fld Z h0 oPL "com/example/libaxes/libaxes/xpath/Operator" "level" "I" (.int (4 : Int32))) (FoMI : Fld Z h0 oMI "com/example/libaxes/libaxes/xpath/Operator" "level" "I" (.int (4 : Int32))) (FoMU : Fld Z h0 oMU "com/example/libaxes/libaxes/xpath/Operator" "level" "I" (.int (5 : Int32))) (FoDI : Fld Z h0 oDI "com/example/libaxes/libaxes/xpath/Operator" "level" "I" (.int (5 : Int32))) (FoMO : Fld Z h0 oMO "com/example/libaxes/libaxes/xpath/Operator" "level" "I" (.int (5 : Int32))) (GoOR : Fld Z h0 oOR "java/lang/Enum" "ordinal" "I" (.int (0 : Int32))) (GoAN : Fld Z h0 oAN "java/lang/Enum" "ordinal" "I" (.int (1 : Int32))) (GoEQ : Fld Z h0 oEQ "java/lang/Enum" "ordinal" "I" (.int (2 : Int32))) (GoNE : Fld Z h0 oNE "java/lang/Enum" "ordinal" "I" (.int (3 : Int32))) (GoLT : Fld Z h0 oLT "java/lang/Enum" "ordinal" "I" (.int (4 : Int32))) (GoLE : Fld Z h0 oLE "java/lang/Enum" "ordinal" "I" (.int (5 : Int32))) (GoGT : Fld Z h0 oGT "java/lang/Enum" "ordinal" "I" (.int (6 : Int32))) (GoGE : Fld Z h0 oGE "java/lang/Enum" "ordinal" "I" (.int (7 : Int32))) (GoPL : Fld Z h0 oPL "java/lang/Enum" "ordinal" "I" (.int (8 : Int32))) (GoMI : Fld Z h0 oMI "java/lang/Enum" "ordinal" "I" (.int (9 : Int32))) (GoMU : Fld Z h0 oMU "java/lang/Enum" "ordinal" "I" (.int (10 : Int32))) (GoDI : Fld Z h0 oDI "java/lang/Enum" "ordinal" "I" (.int (11 : Int32))) (GoMO : Fld Z h0 oMO "java/lang/Enum" "ordinal" "I" (.int (12 : Int32))) :
    Met l Z n0 x code maxLocals ret tables_1 room_1 #[(.int k0), (.int dx), (.int dy)] h0 (Q0 k0 dx dy oOR oAN oEQ oNE oLT oLE oGT oGE oPL oMI oMU oDI oMO h0) 16 128 := by
  refine Met.of pn3 (Ls := #[.val (.int k0), .val (.int dx), .val (.int dy), .unset, .unset, .unset, .unset, .unset, .unset, .unset, .unset]) rfl (fun k T0 X0 => ?_)
  have n_oOR_oEQ : ¬ oOR = oEQ := Fld.ne GoOR GoEQ (by decide)
  have n_oOR_oNE : ¬ oOR = oNE := Fld.ne GoOR GoNE (by decide)
  have n_oOR_oLT : ¬ oOR = oLT := Fld.ne GoOR GoLT (by decide)
  have n_oOR_oLE : ¬ oOR = oLE := Fld.ne GoOR GoLE (by decide)
  have n_oOR_oGT : ¬ oOR = oGT := Fld.ne GoOR GoGT (by decide)
  have n_oOR_oGE : ¬ oOR = oGE := Fld.ne GoOR GoGE (by decide)
  have n_oAN_oEQ : ¬ oAN = oEQ := Fld.ne GoAN GoEQ (by decide)
  have n_oAN_oNE : ¬ oAN = oNE := Fld.ne GoAN GoNE (by decide)
  have n_oAN_oLT : ¬ oAN = oLT := Fld.ne GoAN GoLT (by decide)
  have n_oAN_oLE : ¬ oAN = oLE := Fld.ne GoAN GoLE (by decide)
  have n_oAN_oGT : ¬ oAN = oGT := Fld.ne GoAN GoGT (by decide)
  have n_oAN_oGE : ¬ oAN = oGE := Fld.ne GoAN GoGE (by decide)
  have n_oEQ_oNE : ¬ oEQ = oNE := Fld.ne GoEQ GoNE (by decide)
  have n_oEQ_oLT : ¬ oEQ = oLT := Fld.ne GoEQ GoLT (by decide)
  have n_oEQ_oLE : ¬ oEQ = oLE := Fld.ne GoEQ GoLE (by decide)
  have n_oEQ_oGT : ¬ oEQ = oGT := Fld.ne GoEQ GoGT (by decide)
  have n_oEQ_oGE : ¬ oEQ = oGE := Fld.ne GoEQ GoGE (by decide)
  have n_oNE_oEQ : ¬ oNE = oEQ := Fld.ne GoNE GoEQ (by decide)
  have n_oNE_oLT : ¬ oNE = oLT := Fld.ne GoNE GoLT (by decide)
  have n_oNE_oLE : ¬ oNE = oLE := Fld.ne GoNE GoLE (by decide)
  have n_oNE_oGT : ¬ oNE = oGT := Fld.ne GoNE GoGT (by decide)
  have n_oNE_oGE : ¬ oNE = oGE := Fld.ne GoNE GoGE (by decide)
  have n_oLT_oEQ : ¬ oLT = oEQ := Fld.ne GoLT GoEQ (by decide)
  have n_oLT_oNE : ¬ oLT = oNE := Fld.ne GoLT GoNE (by decide)
  have n_oLT_oLE : ¬ oLT = oLE := Fld.ne GoLT GoLE (by decide)
  have n_oLT_oGT : ¬ oLT = oGT := Fld.ne GoLT GoGT (by decide)
  have n_oLT_oGE : ¬ oLT = oGE := Fld.ne GoLT GoGE (by decide)
  have n_oLE_oEQ : ¬ oLE = oEQ := Fld.ne GoLE GoEQ (by decide)
  have n_oLE_oNE : ¬ oLE = oNE := Fld.ne GoLE GoNE (by decide)
  have n_oLE_oLT : ¬ oLE = oLT := Fld.ne GoLE GoLT (by decide)
  have n_oLE_oGT : ¬ oLE = oGT := Fld.ne GoLE GoGT (by decide)
  have n_oLE_oGE : ¬ oLE = oGE := Fld.ne GoLE GoGE (by decide)
  have n_oGT_oEQ : ¬ oGT = oEQ := Fld.ne GoGT GoEQ (by decide)
  have n_oGT_oNE : ¬ oGT = oNE := Fld.ne GoGT GoNE (by decide)
  have n_oGT_oLT : ¬ oGT = oLT := Fld.ne GoGT GoLT (by decide)
  have n_oGT_oLE : ¬ oGT = oLE := Fld.ne GoGT GoLE (by decide)
  have n_oGT_oGE : ¬ oGT = oGE := Fld.ne GoGT GoGE (by decide)
  have n_oGE_oEQ : ¬ oGE = oEQ := Fld.ne GoGE GoEQ (by decide)
  have n_oGE_oNE : ¬ oGE = oNE := Fld.ne GoGE GoNE (by decide)
  have n_oGE_oLT : ¬ oGE = oLT := Fld.ne GoGE GoLT (by decide)
  have n_oGE_oLE : ¬ oGE = oLE := Fld.ne GoGE GoLE (by decide)
  have n_oGE_oGT : ¬ oGE = oGT := Fld.ne GoGE GoGT (by decide)
  have n_oPL_oEQ : ¬ oPL = oEQ := Fld.ne GoPL GoEQ (by decide)
  have n_oPL_oNE : ¬ oPL = oNE := Fld.ne GoPL GoNE (by decide)
  have n_oPL_oLT : ¬ oPL = oLT := Fld.ne GoPL GoLT (by decide)
  have n_oPL_oLE : ¬ oPL = oLE := Fld.ne GoPL GoLE (by decide)
  have n_oPL_oGT : ¬ oPL = oGT := Fld.ne GoPL GoGT (by decide)
  have n_oPL_oGE : ¬ oPL = oGE := Fld.ne GoPL GoGE (by decide)
  have n_oMI_oEQ : ¬ oMI = oEQ := Fld.ne GoMI GoEQ (by decide)
  have n_oMI_oNE : ¬ oMI = oNE := Fld.ne GoMI GoNE (by decide)
  have n_oMI_oLT : ¬ oMI = oLT := Fld.ne GoMI GoLT (by decide)
  have n_oMI_oLE : ¬ oMI = oLE := Fld.ne GoMI GoLE (by decide)
  have n_oMI_oGT : ¬ oMI = oGT := Fld.ne GoMI GoGT (by decide)
  have n_oMI_oGE : ¬ oMI = oGE := Fld.ne GoMI GoGE (by decide)
  have n_oMU_oEQ : ¬ oMU = oEQ := Fld.ne GoMU GoEQ (by decide)
  have n_oMU_oNE : ¬ oMU = oNE := Fld.ne GoMU GoNE (by decide)
  have n_oMU_oLT : ¬ oMU = oLT := Fld.ne GoMU GoLT (by decide)
  have n_oMU_oLE : ¬ oMU = oLE := Fld.ne GoMU GoLE (by decide)
  have n_oMU_oGT : ¬ oMU = oGT := Fld.ne GoMU GoGT (by decide)
  have n_oMU_oGE : ¬ oMU = oGE := Fld.ne GoMU GoGE (by decide)
  have n_oDI_oEQ : ¬ oDI = oEQ := Fld.ne GoDI GoEQ (by decide)
  have n_oDI_oNE : ¬ oDI = oNE := Fld.ne GoDI GoNE (by decide)
  have n_oDI_oLT : ¬ oDI = oLT := Fld.ne GoDI GoLT (by decide)
  have n_oDI_oLE : ¬ oDI = oLE := Fld.ne GoDI GoLE (by decide)
  have n_oDI_oGT : ¬ oDI = oGT := Fld.ne GoDI GoGT (by decide)
  have n_oDI_oGE : ¬ oDI = oGE := Fld.ne GoDI GoGE (by decide)
  have n_oMO_oEQ : ¬ oMO = oEQ := Fld.ne GoMO GoEQ (by decide)
  have n_oMO_oNE : ¬ oMO = oNE := Fld.ne GoMO GoNE (by decide)
  have n_oMO_oLT : ¬ oMO = oLT := Fld.ne GoMO GoLT (by decide)
  have n_oMO_oLE : ¬ oMO = oLE := Fld.ne GoMO GoLE (by decide)
  have n_oMO_oGT : ¬ oMO = oGT := Fld.ne GoMO GoGT (by decide)
  have n_oMO_oGE : ¬ oMO = oGE := Fld.ne GoMO GoGE (by decide)
  refine g_bipush X0 (13 : Int32) at_0 rfl 2 rfl ?_
  refine g_newR X0 (w0 hw) (w1 hw) 13 13 (by decide) (by decide) (by decide) at_2 (by decide) (by decide) 5 rfl (fun T1 h1 b1 X1 g1 E1 A1 => ?_)
  have ne2 : oOR ≠ b1 := Nat.ne_of_lt (Nat.lt_of_lt_of_le EoOR.lt (Nat.le_of_eq g1.symm))
  have ne3 : oAN ≠ b1 := Nat.ne_of_lt (Nat.lt_of_lt_of_le EoAN.lt (Nat.le_of_eq g1.symm))
  have ne4 : oEQ ≠ b1 := Nat.ne_of_lt (Nat.lt_of_lt_of_le EoEQ.lt (Nat.le_of_eq g1.symm))
  have ne5 : oNE ≠ b1 := Nat.ne_of_lt (Nat.lt_of_lt_of_le EoNE.lt (Nat.le_of_eq g1.symm))
  have ne6 : oLT ≠ b1 := Nat.ne_of_lt (Nat.lt_of_lt_of_le EoLT.lt (Nat.le_of_eq g1.symm))
  have ne7 : oLE ≠ b1 := Nat.ne_of_lt (Nat.lt_of_lt_of_le EoLE.lt (Nat.le_of_eq g1.symm))
  have ne8 : oGT ≠ b1 := Nat.ne_of_lt (Nat.lt_of_lt_of_le EoGT.lt (Nat.le_of_eq g1.symm))
  have ne9 : oGE ≠ b1 := Nat.ne_of_lt (Nat.lt_of_lt_of_le EoGE.lt (Nat.le_of_eq g1.symm))
  have ne10 : oPL ≠ b1 := Nat.ne_of_lt (Nat.lt_of_lt_of_le EoPL.lt (Nat.le_of_eq g1.symm))
  have ne11 : oMI ≠ b1 := Nat.ne_of_lt (Nat.lt_of_lt_of_le EoMI.lt (Nat.le_of_eq g1.symm))
  have ne12 : oMU ≠ b1 := Nat.ne_of_lt (Nat.lt_of_lt_of_le EoMU.lt (Nat.le_of_eq g1.symm))
  have ne13 : oDI ≠ b1 := Nat.ne_of_lt (Nat.lt_of_lt_of_le EoDI.lt (Nat.le_of_eq g1.symm))
  have ne14 : oMO ≠ b1 := Nat.ne_of_lt (Nat.lt_of_lt_of_le EoMO.lt (Nat.le_of_eq g1.symm))
  have g_b1 : n0 ≤ b1 := Nat.le_trans Z0 (Nat.le_of_eq g1.symm)
  have z15 : n0 ≤ h1.size := Nat.le_trans Z0 E1.1
  refine g_dup X1 at_5 rfl 6 rfl ?_
  refine g_iconst X1 (0 : Int32) at_6 rfl 7 rfl ?_
  have ft16 := (SoOR.ext E1)
  refine g_getS X1 (w2 hw) Via.refl ft16 at_7 10 rfl (fun T17 X17 => ?_)
  have ft19 := (EoOR.ext E1)
  refine g_aastore X17 A1 0 (by decide) (by decide) (Ins.self ft19) g_b1 at_10 11 rfl (fun T18 h18 X18 W18 => ?_)
  have z20 : n0 ≤ h18.size := Nat.le_trans z15 (Nat.le_of_eq W18.size.symm)
  have A18 := AR.set A1 W18
  refine g_dup X18 at_11 rfl 12 rfl ?_
  refine g_iconst X18 (1 : Int32) at_12 rfl 13 rfl ?_
  have ft21 := ((SoAN.ext E1).wr W18)
  refine g_getS X18 (w6 hw) Via.refl ft21 at_13 16 rfl (fun T22 X22 => ?_)
  have ft24 := ((EoAN.ext E1).wr W18)
  refine g_aastore X22 A18 1 (by decide) (by decide) (Ins.self ft24) g_b1 at_16 17 rfl (fun T23 h23 X23 W23 => ?_)
  have z25 : n0 ≤ h23.size := Nat.le_trans z20 (Nat.le_of_eq W23.size.symm)
  have A23 := AR.set A18 W23
  refine g_dup X23 at_17 rfl 18 rfl ?_
  refine g_iconst X23 (2 : Int32) at_18 rfl 19 rfl ?_
  have ft26 := (((SoEQ.ext E1).wr W18).wr W23)
  refine g_getS X23 (w8 hw) Via.refl ft26 at_19 22 rfl (fun T27 X27 => ?_)
  have ft29 := (((EoEQ.ext E1).wr W18).wr W23)
  refine g_aastore X27 A23 2 (by decide) (by decide) (Ins.self ft29) g_b1 at_22 23 rfl (fun T28 h28 X28 W28 => ?_)
  have z30 : n0 ≤ h28.size := Nat.le_trans z25 (Nat.le_of_eq W28.size.symm)
  have A28 := AR.set A23 W28
  refine g_dup X28 at_23 rfl 24 rfl ?_
  refine g_iconst X28 (3 : Int32) at_24 rfl 25 rfl ?_
  have ft31 := ((((SoNE.ext E1).wr W18).wr W23).wr W28)
  refine g_getS X28 (w10 hw) Via.refl ft31 at_25 28 rfl (fun T32 X32 => ?_)
  have ft34 := ((((EoNE.ext E1).wr W18).wr W23).wr W28)
  refine g_aastore X32 A28 3 (by decide) (by decide) (Ins.self ft34) g_b1 at_28 29 rfl (fun T33 h33 X33 W33 => ?_)
  have z35 : n0 ≤ h33.size := Nat.le_trans z30 (Nat.le_of_eq W33.size.symm)
  have A33 := AR.set A28 W33
  refine g_dup X33 at_29 rfl 30 rfl ?_
  refine g_iconst X33 (4 : Int32) at_30 rfl 31 rfl ?_
  have ft36 := (((((SoLT.ext E1).wr W18).wr W23).wr W28).wr W33)
  refine g_getS X33 (w12 hw) Via.refl ft36 at_31 34 rfl (fun T37 X37 => ?_)
  have ft39 := (((((EoLT.ext E1).wr W18).wr W23).wr W28).wr W33)
  refine g_aastore X37 A33 4 (by decide) (by decide) (Ins.self ft39) g_b1 at_34 35 rfl (fun T38 h38 X38 W38 => ?_)
  have z40 : n0 ≤ h38.size := Nat.le_trans z35 (Nat.le_of_eq W38.size.symm)
  have A38 := AR.set A33 W38
  refine g_dup X38 at_35 rfl 36 rfl ?_
  refine g_iconst X38 (5 : Int32) at_36 rfl 37 rfl ?_
  have ft41 := ((((((SoLE.ext E1).wr W18).wr W23).wr W28).wr W33).wr W38)
  refine g_getS X38 (w14 hw) Via.refl ft41 at_37 40 rfl (fun T42 X42 => ?_)
  have ft44 := ((((((EoLE.ext E1).wr W18).wr W23).wr W28).wr W33).wr W38)
  refine g_aastore X42 A38 5 (by decide) (by decide) (Ins.self ft44) g_b1 at_40 41 rfl (fun T43 h43 X43 W43 => ?_)
  have z45 : n0 ≤ h43.size := Nat.le_trans z40 (Nat.le_of_eq W43.size.symm)
  have A43 := AR.set A38 W43
  refine g_dup X43 at_41 rfl 42 rfl ?_
  refine g_bipush X43 (6 : Int32) at_42 rfl 44 rfl ?_
  have ft46 := (((((((SoGT.ext E1).wr W18).wr W23).wr W28).wr W33).wr W38).wr W43)
  refine g_getS X43 (w16 hw) Via.refl ft46 at_44 47 rfl (fun T47 X47 => ?_)
  have ft49 := (((((((EoGT.ext E1).wr W18).wr W23).wr W28).wr W33).wr W38).wr W43)
  refine g_aastore X47 A43 6 (by decide) (by decide) (Ins.self ft49) g_b1 at_47 48 rfl (fun T48 h48 X48 W48 => ?_)
  have z50 : n0 ≤ h48.size := Nat.le_trans z45 (Nat.le_of_eq W48.size.symm)
  have A48 := AR.set A43 W48
  refine g_dup X48 at_48 rfl 49 rfl ?_
  refine g_bipush X48 (7 : Int32) at_49 rfl 51 rfl ?_
  have ft51 := ((((((((SoGE.ext E1).wr W18).wr W23).wr W28).wr W33).wr W38).wr W43).wr W48)
  refine g_getS X48 (w18 hw) Via.refl ft51 at_51 54 rfl (fun T52 X52 => ?_)
  have ft54 := ((((((((EoGE.ext E1).wr W18).wr W23).wr W28).wr W33).wr W38).wr W43).wr W48)
  refine g_aastore X52 A48 7 (by decide) (by decide) (Ins.self ft54) g_b1 at_54 55 rfl (fun T53 h53 X53 W53 => ?_)
  have z55 : n0 ≤ h53.size := Nat.le_trans z50 (Nat.le_of_eq W53.size.symm)
  have A53 := AR.set A48 W53
  refine g_dup X53 at_55 rfl 56 rfl ?_
  refine g_bipush X53 (8 : Int32) at_56 rfl 58 rfl ?_
  have ft56 := (((((((((SoPL.ext E1).wr W18).wr W23).wr W28).wr W33).wr W38).wr W43).wr W48).wr W53)
  refine g_getS X53 (w20 hw) Via.refl ft56 at_58 61 rfl (fun T57 X57 => ?_)
  have ft59 := (((((((((EoPL.ext E1).wr W18).wr W23).wr W28).wr W33).wr W38).wr W43).wr W48).wr W53)
  refine g_aastore X57 A53 8 (by decide) (by decide) (Ins.self ft59) g_b1 at_61 62 rfl (fun T58 h58 X58 W58 => ?_)
  have z60 : n0 ≤ h58.size := Nat.le_trans z55 (Nat.le_of_eq W58.size.symm)
  have A58 := AR.set A53 W58
  refine g_dup X58 at_62 rfl 63 rfl ?_
  refine g_bipush X58 (9 : Int32) at_63 rfl 65 rfl ?_
  have ft61 := ((((((((((SoMI.ext E1).wr W18).wr W23).wr W28).wr W33).wr W38).wr W43).wr W48).wr W53).wr W58)
  refine g_getS X58 (w22 hw) Via.refl ft61 at_65 68 rfl (fun T62 X62 => ?_)
  have ft64 := ((((((((((EoMI.ext E1).wr W18).wr W23).wr W28).wr W33).wr W38).wr W43).wr W48).wr W53).wr W58)
  refine g_aastore X62 A58 9 (by decide) (by decide) (Ins.self ft64) g_b1 at_68 69 rfl (fun T63 h63 X63 W63 => ?_)
  have z65 : n0 ≤ h63.size := Nat.le_trans z60 (Nat.le_of_eq W63.size.symm)
  have A63 := AR.set A58 W63
  refine g_dup X63 at_69 rfl 70 rfl ?_
  refine g_bipush X63 (10 : Int32) at_70 rfl 72 rfl ?_
  have ft66 := (((((((((((SoMU.ext E1).wr W18).wr W23).wr W28).wr W33).wr W38).wr W43).wr W48).wr W53).wr W58).wr W63)
  refine g_getS X63 (w24 hw) Via.refl ft66 at_72 75 rfl (fun T67 X67 => ?_)
  have ft69 := (((((((((((EoMU.ext E1).wr W18).wr W23).wr W28).wr W33).wr W38).wr W43).wr W48).wr W53).wr W58).wr W63)
  refine g_aastore X67 A63 10 (by decide) (by decide) (Ins.self ft69) g_b1 at_75 76 rfl (fun T68 h68 X68 W68 => ?_)
  have z70 : n0 ≤ h68.size := Nat.le_trans z65 (Nat.le_of_eq W68.size.symm)
  have A68 := AR.set A63 W68
  refine g_dup X68 at_76 rfl 77 rfl ?_
  refine g_bipush X68 (11 : Int32) at_77 rfl 79 rfl ?_
  have ft71 := ((((((((((((SoDI.ext E1).wr W18).wr W23).wr W28).wr W33).wr W38).wr W43).wr W48).wr W53).wr W58).wr W63).wr W68)
  refine g_getS X68 (w26 hw) Via.refl ft71 at_79 82 rfl (fun T72 X72 => ?_)
  have ft74 := ((((((((((((EoDI.ext E1).wr W18).wr W23).wr W28).wr W33).wr W38).wr W43).wr W48).wr W53).wr W58).wr W63).wr W68)
  refine g_aastore X72 A68 11 (by decide) (by decide) (Ins.self ft74) g_b1 at_82 83 rfl (fun T73 h73 X73 W73 => ?_)
  have z75 : n0 ≤ h73.size := Nat.le_trans z70 (Nat.le_of_eq W73.size.symm)
  have A73 := AR.set A68 W73
  refine g_dup X73 at_83 rfl 84 rfl ?_
  refine g_bipush X73 (12 : Int32) at_84 rfl 86 rfl ?_
  have ft76 := (((((((((((((SoMO.ext E1).wr W18).wr W23).wr W28).wr W33).wr W38).wr W43).wr W48).wr W53).wr W58).wr W63).wr W68).wr W73)
  refine g_getS X73 (w28 hw) Via.refl ft76 at_86 89 rfl (fun T77 X77 => ?_)
  have ft79 := (((((((((((((EoMO.ext E1).wr W18).wr W23).wr W28).wr W33).wr W38).wr W43).wr W48).wr W53).wr W58).wr W63).wr W68).wr W73)
  refine g_aastore X77 A73 12 (by decide) (by decide) (Ins.self ft79) g_b1 at_89 90 rfl (fun T78 h78 X78 W78 => ?_)
  have z80 : n0 ≤ h78.size := Nat.le_trans z75 (Nat.le_of_eq W78.size.symm)
  have A78 := AR.set A73 W78
  refine g_astoreN X78 at_90 rfl #[.val (.int k0), .val (.int dx), .val (.int dy), .val (.ref b1), .unset, .unset, .unset, .unset, .unset, .unset, .unset] rfl 91 rfl ?_
  refine g_aloadN X78 at_91 rfl rfl 92 rfl ?_
  refine g_iloadN X78 at_92 rfl 93 rfl ?_
  refine g_ldcI X78 (w30 hw) at_93 95 rfl ?_
  refine g_iand X78 at_95 96 rfl ?_
  refine g_bipush X78 (13 : Int32) at_96 rfl 98 rfl ?_
  refine g_irem X78 at_98 (by decide) 99 rfl ?_
  obtain ⟨j, hj, hj13⟩ := own_irem k0
  have q13 : j = 0 ∨ j = 1 ∨ j = 2 ∨ j = 3 ∨ j = 4 ∨ j = 5 ∨ j = 6 ∨ j = 7 ∨ j = 8 ∨ j = 9 ∨ j = 10 ∨ j = 11 ∨ j = 12 := by omega
  rcases q13 with rfl | rfl | rfl | rfl | rfl | rfl | rfl | rfl | rfl | rfl | rfl | rfl | rfl
  · skip
    refine g_aaload X78 (AR.ai A78) rfl 0 hj (by decide) (.ref oOR) rfl at_99 100 rfl ?_
    refine g_astore X78 at_100 rfl #[.val (.int k0), .val (.int dx), .val (.int dy), .val (.ref b1), .val (.ref oOR), .unset, .unset, .unset, .unset, .unset, .unset] rfl 102 rfl ?_
    refine g_aload X78 at_102 rfl rfl 104 rfl ?_
    have ft81 := (((((((((ft36.wr W38).wr W43).wr W48).wr W53).wr W58).wr W63).wr W68).wr W73).wr W78)
    have ft82 := ((((((((ft41.wr W43).wr W48).wr W53).wr W58).wr W63).wr W68).wr W73).wr W78)
    have ft83 := (((((((ft46.wr W48).wr W53).wr W58).wr W63).wr W68).wr W73).wr W78)
    have ft84 := ((((((ft51.wr W53).wr W58).wr W63).wr W68).wr W73).wr W78)
    have ft86 := (((((((((((((ft19.wr W18).wr W23).wr W28).wr W33).wr W38).wr W43).wr W48).wr W53).wr W58).wr W63).wr W68).wr W73).wr W78)
    refine g_callV X78 oOR [] [] (rm1 hw n0 oOR oLT oLE oGT oGE oOR h78 ft81 ft82 ft83 ft84 (by unfold fM; rw [if_neg n_oOR_oLT, if_neg n_oOR_oLE, if_neg n_oOR_oGT, if_neg n_oOR_oGE])) ft86 (w31 hw) (w32 hw) (w34 hw) (w33 hw) (w3 hw) (w35 hw) (by decide) pd0 rfl rfl (by decide) (Nat.le_of_ble_eq_true rfl) (by decide) (by decide) at_104 rfl 107 rfl (fun v85 T85 h85 X85 q85 => ?_)
    obtain ⟨rfl, rfl⟩ := q85
    show Go k n0 (Q0 k0 dx dy oOR oAN oEQ oNE oLT oLE oGT oGE oPL oMI oMU oDI oMO h0) 16 128 T85 107 #[.val (.int k0), .val (.int dx), .val (.int dy), .val (.ref b1), .val (.ref oOR), .unset, .unset, .unset, .unset, .unset, .unset] [(.ref oOR)]
    refine g_astore X85 at_107 rfl #[.val (.int k0), .val (.int dx), .val (.int dy), .val (.ref b1), .val (.ref oOR), .val (.ref oOR), .unset, .unset, .unset, .unset, .unset] rfl 109 rfl ?_
    refine g_aload X85 at_109 rfl rfl 111 rfl ?_
    refine g_nonnullY X85 at_111 116 (by decide) (by decide) ?_
    refine g_aload X85 at_116 rfl rfl 118 rfl ?_
    refine g_callV X85 oOR [] [] (rm1 hw n0 oOR oLT oLE oGT oGE oOR h78 ft81 ft82 ft83 ft84 (by unfold fM; rw [if_neg n_oOR_oLT, if_neg n_oOR_oLE, if_neg n_oOR_oGT, if_neg n_oOR_oGE])) ft86 (w31 hw) (w32 hw) (w34 hw) (w33 hw) (w3 hw) (w35 hw) (by decide) pd0 rfl rfl (by decide) (Nat.le_of_ble_eq_true rfl) (by decide) (by decide) at_118 rfl 121 rfl (fun v87 T87 h87 X87 q87 => ?_)
    obtain ⟨rfl, rfl⟩ := q87
    show Go k n0 (Q0 k0 dx dy oOR oAN oEQ oNE oLT oLE oGT oGE oPL oMI oMU oDI oMO h0) 16 128 T87 121 #[.val (.int k0), .val (.int dx), .val (.int dy), .val (.ref b1), .val (.ref oOR), .val (.ref oOR), .unset, .unset, .unset, .unset, .unset] [(.ref oOR)]
    refine g_aload X87 at_121 rfl rfl 123 rfl ?_
    refine g_acmp X87 a_eq at_123 128 (by decide) (by decide) 126 rfl (fun h88 => ?_) (fun h88 => ?_)
    · skip
      refine g_aload X87 at_128 rfl rfl 130 rfl ?_
      have ft89 := ((((((((((((((FoOR.ext E1).other W18 (Or.inl ne2)).other W23 (Or.inl ne2)).other W28 (Or.inl ne2)).other W33 (Or.inl ne2)).other W38 (Or.inl ne2)).other W43 (Or.inl ne2)).other W48 (Or.inl ne2)).other W53 (Or.inl ne2)).other W58 (Or.inl ne2)).other W63 (Or.inl ne2)).other W68 (Or.inl ne2)).other W73 (Or.inl ne2)).other W78 (Or.inl ne2))
      refine g_callV X87 oOR [] [] (rm2 hw n0 oOR (0 : Int32) h78 ft89) ft86 (w40 hw) (w41 hw) (w43 hw) (w42 hw) (w3 hw) (w44 hw) (by decide) pd1 rfl rfl (by decide) (Nat.le_of_ble_eq_true rfl) (by decide) (by decide) at_130 rfl 133 rfl (fun v90 T90 h90 X90 q90 => ?_)
      obtain ⟨rfl, rfl⟩ := q90
      show Go k n0 (Q0 k0 dx dy oOR oAN oEQ oNE oLT oLE oGT oGE oPL oMI oMU oDI oMO h0) 16 128 T90 133 #[.val (.int k0), .val (.int dx), .val (.int dy), .val (.ref b1), .val (.ref oOR), .val (.ref oOR), .unset, .unset, .unset, .unset, .unset] [(.int (0 : Int32))]
      refine g_istore X90 at_133 #[.val (.int k0), .val (.int dx), .val (.int dy), .val (.ref b1), .val (.ref oOR), .val (.ref oOR), .val (.int (0 : Int32)), .unset, .unset, .unset, .unset] rfl 135 rfl ?_
      refine g_iload X90 at_135 rfl 137 rfl ?_
      refine g_iconst X90 (2 : Int32) at_137 rfl 138 rfl ?_
      refine g_icmp X90 i_eq at_138 147 (by decide) (by decide) 141 rfl (fun h91 => ?_) (fun h91 => ?_)
      · exact absurd h91 (by decide)
      · skip
        refine g_iload X90 at_141 rfl 143 rfl ?_
        refine g_iconst X90 (3 : Int32) at_143 rfl 144 rfl ?_
        refine g_icmpN X90 i_ne at_144 194 (by decide) (by decide) 147 rfl (fun h92 => ?_) (fun h92 => ?_)
        · exact absurd h92 (by decide)
        · skip
          refine g_aload X90 at_194 rfl rfl 196 rfl ?_
          refine g_aload X90 at_196 rfl rfl 198 rfl ?_
          refine g_acmpNN X90 a_ne at_198 205 (by decide) (by decide) 201 rfl (fun h93 => ?_) (fun h93 => ?_)
          · skip
            refine g_iconst X90 (1 : Int32) at_201 rfl 202 rfl ?_
            refine g_goto X90 at_202 206 (by decide) (by decide) ?_
            exact g_retZ X90 at_206 (by decide) (by decide) own_one
          · exact absurd rfl h93
    · exact absurd rfl h88
  · skip
    refine g_aaload X78 (AR.ai A78) rfl 1 hj (by decide) (.ref oAN) rfl at_99 100 rfl ?_
    refine g_astore X78 at_100 rfl #[.val (.int k0), .val (.int dx), .val (.int dy), .val (.ref b1), .val (.ref oAN), .unset, .unset, .unset, .unset, .unset, .unset] rfl 102 rfl ?_
    refine g_aload X78 at_102 rfl rfl 104 rfl ?_
    have ft94 := (((((((((ft36.wr W38).wr W43).wr W48).wr W53).wr W58).wr W63).wr W68).wr W73).wr W78)
    have ft95 := ((((((((ft41.wr W43).wr W48).wr W53).wr W58).wr W63).wr W68).wr W73).wr W78)
    have ft96 := (((((((ft46.wr W48).wr W53).wr W58).wr W63).wr W68).wr W73).wr W78)
    have ft97 := ((((((ft51.wr W53).wr W58).wr W63).wr W68).wr W73).wr W78)
    have ft99 := ((((((((((((ft24.wr W23).wr W28).wr W33).wr W38).wr W43).wr W48).wr W53).wr W58).wr W63).wr W68).wr W73).wr W78)
    refine g_callV X78 oAN [] [] (rm1 hw n0 oAN oLT oLE oGT oGE oAN h78 ft94 ft95 ft96 ft97 (by unfold fM; rw [if_neg n_oAN_oLT, if_neg n_oAN_oLE, if_neg n_oAN_oGT, if_neg n_oAN_oGE])) ft99 (w31 hw) (w32 hw) (w34 hw) (w33 hw) (w3 hw) (w35 hw) (by decide) pd0 rfl rfl (by decide) (Nat.le_of_ble_eq_true rfl) (by decide) (by decide) at_104 rfl 107 rfl (fun v98 T98 h98 X98 q98 => ?_)
    obtain ⟨rfl, rfl⟩ := q98
    show Go k n0 (Q0 k0 dx dy oOR oAN oEQ oNE oLT oLE oGT oGE oPL oMI oMU oDI oMO h0) 16 128 T98 107 #[.val (.int k0), .val (.int dx), .val (.int dy), .val (.ref b1), .val (.ref oAN), .unset, .unset, .unset, .unset, .unset, .unset] [(.ref oAN)]
    refine g_astore X98 at_107 rfl #[.val (.int k0), .val (.int dx), .val (.int dy), .val (.ref b1), .val (.ref oAN), .val (.ref oAN), .unset, .unset, .unset, .unset, .unset] rfl 109 rfl ?_
    refine g_aload X98 at_109 rfl rfl 111 rfl ?_
    refine g_nonnullY X98 at_111 116 (by decide) (by decide) ?_
    refine g_aload X98 at_116 rfl rfl 118 rfl ?_
    refine g_callV X98 oAN [] [] (rm1 hw n0 oAN oLT oLE oGT oGE oAN h78 ft94 ft95 ft96 ft97 (by unfold fM; rw [if_neg n_oAN_oLT, if_neg n_oAN_oLE, if_neg n_oAN_oGT, if_neg n_oAN_oGE])) ft99 (w31 hw) (w32 hw) (w34 hw) (w33 hw) (w3 hw) (w35 hw) (by decide) pd0 rfl rfl (by decide) (Nat.le_of_ble_eq_true rfl) (by decide) (by decide) at_118 rfl 121 rfl (fun v100 T100 h100 X100 q100 => ?_)
    obtain ⟨rfl, rfl⟩ := q100
    show Go k n0 (Q0 k0 dx dy oOR oAN oEQ oNE oLT oLE oGT oGE oPL oMI oMU oDI oMO h0) 16 128 T100 121 #[.val (.int k0), .val (.int dx), .val (.int dy), .val (.ref b1), .val (.ref oAN), .val (.ref oAN), .unset, .unset, .unset, .unset, .unset] [(.ref oAN)]
    refine g_aload X100 at_121 rfl rfl 123 rfl ?_
    refine g_acmp X100 a_eq at_123 128 (by decide) (by decide) 126 rfl (fun h101 => ?_) (fun h101 => ?_)
    · skip
      refine g_aload X100 at_128 rfl rfl 130 rfl ?_
      have ft102 := ((((((((((((((FoAN.ext E1).other W18 (Or.inl ne3)).other W23 (Or.inl ne3)).other W28 (Or.inl ne3)).other W33 (Or.inl ne3)).other W38 (Or.inl ne3)).other W43 (Or.inl ne3)).other W48 (Or.inl ne3)).other W53 (Or.inl ne3)).other W58 (Or.inl ne3)).other W63 (Or.inl ne3)).other W68 (Or.inl ne3)).other W73 (Or.inl ne3)).other W78 (Or.inl ne3))
      refine g_callV X100 oAN [] [] (rm2 hw n0 oAN (1 : Int32) h78 ft102) ft99 (w40 hw) (w41 hw) (w43 hw) (w42 hw) (w3 hw) (w44 hw) (by decide) pd1 rfl rfl (by decide) (Nat.le_of_ble_eq_true rfl) (by decide) (by decide) at_130 rfl 133 rfl (fun v103 T103 h103 X103 q103 => ?_)
      obtain ⟨rfl, rfl⟩ := q103
      show Go k n0 (Q0 k0 dx dy oOR oAN oEQ oNE oLT oLE oGT oGE oPL oMI oMU oDI oMO h0) 16 128 T103 133 #[.val (.int k0), .val (.int dx), .val (.int dy), .val (.ref b1), .val (.ref oAN), .val (.ref oAN), .unset, .unset, .unset, .unset, .unset] [(.int (1 : Int32))]
      refine g_istore X103 at_133 #[.val (.int k0), .val (.int dx), .val (.int dy), .val (.ref b1), .val (.ref oAN), .val (.ref oAN), .val (.int (1 : Int32)), .unset, .unset, .unset, .unset] rfl 135 rfl ?_
      refine g_iload X103 at_135 rfl 137 rfl ?_
      refine g_iconst X103 (2 : Int32) at_137 rfl 138 rfl ?_
      refine g_icmp X103 i_eq at_138 147 (by decide) (by decide) 141 rfl (fun h104 => ?_) (fun h104 => ?_)
      · exact absurd h104 (by decide)
      · skip
        refine g_iload X103 at_141 rfl 143 rfl ?_
        refine g_iconst X103 (3 : Int32) at_143 rfl 144 rfl ?_
        refine g_icmpN X103 i_ne at_144 194 (by decide) (by decide) 147 rfl (fun h105 => ?_) (fun h105 => ?_)
        · exact absurd h105 (by decide)
        · skip
          refine g_aload X103 at_194 rfl rfl 196 rfl ?_
          refine g_aload X103 at_196 rfl rfl 198 rfl ?_
          refine g_acmpNN X103 a_ne at_198 205 (by decide) (by decide) 201 rfl (fun h106 => ?_) (fun h106 => ?_)
          · skip
            refine g_iconst X103 (1 : Int32) at_201 rfl 202 rfl ?_
            refine g_goto X103 at_202 206 (by decide) (by decide) ?_
            exact g_retZ X103 at_206 (by decide) (by decide) own_one
          · exact absurd rfl h106
    · exact absurd rfl h101
  · skip
    refine g_aaload X78 (AR.ai A78) rfl 2 hj (by decide) (.ref oEQ) rfl at_99 100 rfl ?_
    refine g_astore X78 at_100 rfl #[.val (.int k0), .val (.int dx), .val (.int dy), .val (.ref b1), .val (.ref oEQ), .unset, .unset, .unset, .unset, .unset, .unset] rfl 102 rfl ?_
    refine g_aload X78 at_102 rfl rfl 104 rfl ?_
    have ft107 := (((((((((ft36.wr W38).wr W43).wr W48).wr W53).wr W58).wr W63).wr W68).wr W73).wr W78)
    have ft108 := ((((((((ft41.wr W43).wr W48).wr W53).wr W58).wr W63).wr W68).wr W73).wr W78)
    have ft109 := (((((((ft46.wr W48).wr W53).wr W58).wr W63).wr W68).wr W73).wr W78)
    have ft110 := ((((((ft51.wr W53).wr W58).wr W63).wr W68).wr W73).wr W78)
    have ft112 := (((((((((((ft29.wr W28).wr W33).wr W38).wr W43).wr W48).wr W53).wr W58).wr W63).wr W68).wr W73).wr W78)
    refine g_callV X78 oEQ [] [] (rm1 hw n0 oEQ oLT oLE oGT oGE oEQ h78 ft107 ft108 ft109 ft110 (by unfold fM; rw [if_neg n_oEQ_oLT, if_neg n_oEQ_oLE, if_neg n_oEQ_oGT, if_neg n_oEQ_oGE])) ft112 (w31 hw) (w32 hw) (w34 hw) (w33 hw) (w3 hw) (w35 hw) (by decide) pd0 rfl rfl (by decide) (Nat.le_of_ble_eq_true rfl) (by decide) (by decide) at_104 rfl 107 rfl (fun v111 T111 h111 X111 q111 => ?_)
    obtain ⟨rfl, rfl⟩ := q111
    show Go k n0 (Q0 k0 dx dy oOR oAN oEQ oNE oLT oLE oGT oGE oPL oMI oMU oDI oMO h0) 16 128 T111 107 #[.val (.int k0), .val (.int dx), .val (.int dy), .val (.ref b1), .val (.ref oEQ), .unset, .unset, .unset, .unset, .unset, .unset] [(.ref oEQ)]
    refine g_astore X111 at_107 rfl #[.val (.int k0), .val (.int dx), .val (.int dy), .val (.ref b1), .val (.ref oEQ), .val (.ref oEQ), .unset, .unset, .unset, .unset, .unset] rfl 109 rfl ?_
    refine g_aload X111 at_109 rfl rfl 111 rfl ?_
    refine g_nonnullY X111 at_111 116 (by decide) (by decide) ?_
    refine g_aload X111 at_116 rfl rfl 118 rfl ?_
    refine g_callV X111 oEQ [] [] (rm1 hw n0 oEQ oLT oLE oGT oGE oEQ h78 ft107 ft108 ft109 ft110 (by unfold fM; rw [if_neg n_oEQ_oLT, if_neg n_oEQ_oLE, if_neg n_oEQ_oGT, if_neg n_oEQ_oGE])) ft112 (w31 hw) (w32 hw) (w34 hw) (w33 hw) (w3 hw) (w35 hw) (by decide) pd0 rfl rfl (by decide) (Nat.le_of_ble_eq_true rfl) (by decide) (by decide) at_118 rfl 121 rfl (fun v113 T113 h113 X113 q113 => ?_)
    obtain ⟨rfl, rfl⟩ := q113
    show Go k n0 (Q0 k0 dx dy oOR oAN oEQ oNE oLT oLE oGT oGE oPL oMI oMU oDI oMO h0) 16 128 T113 121 #[.val (.int k0), .val (.int dx), .val (.int dy), .val (.ref b1), .val (.ref oEQ), .val (.ref oEQ), .unset, .unset, .unset, .unset, .unset] [(.ref oEQ)]
    refine g_aload X113 at_121 rfl rfl 123 rfl ?_
    refine g_acmp X113 a_eq at_123 128 (by decide) (by decide) 126 rfl (fun h114 => ?_) (fun h114 => ?_)
    · skip
      refine g_aload X113 at_128 rfl rfl 130 rfl ?_
      have ft115 := ((((((((((((((FoEQ.ext E1).other W18 (Or.inl ne4)).other W23 (Or.inl ne4)).other W28 (Or.inl ne4)).other W33 (Or.inl ne4)).other W38 (Or.inl ne4)).other W43 (Or.inl ne4)).other W48 (Or.inl ne4)).other W53 (Or.inl ne4)).other W58 (Or.inl ne4)).other W63 (Or.inl ne4)).other W68 (Or.inl ne4)).other W73 (Or.inl ne4)).other W78 (Or.inl ne4))
      refine g_callV X113 oEQ [] [] (rm2 hw n0 oEQ (2 : Int32) h78 ft115) ft112 (w40 hw) (w41 hw) (w43 hw) (w42 hw) (w3 hw) (w44 hw) (by decide) pd1 rfl rfl (by decide) (Nat.le_of_ble_eq_true rfl) (by decide) (by decide) at_130 rfl 133 rfl (fun v116 T116 h116 X116 q116 => ?_)
      obtain ⟨rfl, rfl⟩ := q116
      show Go k n0 (Q0 k0 dx dy oOR oAN oEQ oNE oLT oLE oGT oGE oPL oMI oMU oDI oMO h0) 16 128 T116 133 #[.val (.int k0), .val (.int dx), .val (.int dy), .val (.ref b1), .val (.ref oEQ), .val (.ref oEQ), .unset, .unset, .unset, .unset, .unset] [(.int (2 : Int32))]
      refine g_istore X116 at_133 #[.val (.int k0), .val (.int dx), .val (.int dy), .val (.ref b1), .val (.ref oEQ), .val (.ref oEQ), .val (.int (2 : Int32)), .unset, .unset, .unset, .unset] rfl 135 rfl ?_
      refine g_iload X116 at_135 rfl 137 rfl ?_
      refine g_iconst X116 (2 : Int32) at_137 rfl 138 rfl ?_
      refine g_icmp X116 i_eq at_138 147 (by decide) (by decide) 141 rfl (fun h117 => ?_) (fun h117 => ?_)
      · skip
        refine g_aload X116 at_147 rfl rfl 149 rfl ?_
        refine g_callV X116 oEQ [] [] (rm2 hw n0 oEQ (2 : Int32) h78 ft115) ft112 (w40 hw) (w41 hw) (w43 hw) (w42 hw) (w3 hw) (w44 hw) (by decide) pd1 rfl rfl (by decide) (Nat.le_of_ble_eq_true rfl) (by decide) (by decide) at_149 rfl 152 rfl (fun v118 T118 h118 X118 q118 => ?_)
        obtain ⟨rfl, rfl⟩ := q118
        show Go k n0 (Q0 k0 dx dy oOR oAN oEQ oNE oLT oLE oGT oGE oPL oMI oMU oDI oMO h0) 16 128 T118 152 #[.val (.int k0), .val (.int dx), .val (.int dy), .val (.ref b1), .val (.ref oEQ), .val (.ref oEQ), .val (.int (2 : Int32)), .unset, .unset, .unset, .unset] [(.int (2 : Int32))]
        refine g_iload X118 at_152 rfl 154 rfl ?_
        refine g_icmp X118 i_eq at_154 159 (by decide) (by decide) 157 rfl (fun h119 => ?_) (fun h119 => ?_)
        · skip
          refine g_iloadN X118 at_159 rfl 160 rfl ?_
          refine g_i2d X118 at_160 161 rfl ?_
          refine g_dstore X118 at_161 #[.val (.int k0), .val (.int dx), .val (.int dy), .val (.ref b1), .val (.ref oEQ), .val (.ref oEQ), .val (.int (2 : Int32)), .val (.double (FP.i2d dx)), .second, .unset, .unset] rfl 163 rfl ?_
          refine g_iloadN X118 at_163 rfl 164 rfl ?_
          refine g_i2d X118 at_164 165 rfl ?_
          refine g_dstore X118 at_165 #[.val (.int k0), .val (.int dx), .val (.int dy), .val (.ref b1), .val (.ref oEQ), .val (.ref oEQ), .val (.int (2 : Int32)), .val (.double (FP.i2d dx)), .second, .val (.double (FP.i2d dy)), .second] rfl 167 rfl ?_
          refine g_aload X118 at_167 rfl rfl 169 rfl ?_
          refine g_dload X118 at_169 rfl 171 rfl ?_
          refine g_dload X118 at_171 rfl 173 rfl ?_
          have ft120 := (((((((((((ft26.wr W28).wr W33).wr W38).wr W43).wr W48).wr W53).wr W58).wr W63).wr W68).wr W73).wr W78)
          have ft121 := ((((((((((ft31.wr W33).wr W38).wr W43).wr W48).wr W53).wr W58).wr W63).wr W68).wr W73).wr W78)
          refine g_callV X118 oEQ [(.double (FP.i2d dx)), (.double (FP.i2d dy))] [] (rm3 hw n0 oEQ (FP.i2d dx) (FP.i2d dy) oEQ oNE oLT oLE oGT oGE h78 ft120 ft121 ft107 ft108 ft109 ft110 (Or.inl rfl)) ft112 (w47 hw) (w48 hw) (w50 hw) (w49 hw) (w3 hw) (w51 hw) (by decide) pd2 rfl rfl (by decide) (Nat.le_of_ble_eq_true rfl) (by decide) (by decide) at_173 rfl 176 rfl (fun v122 T122 h122 X122 q122 => ?_)
          obtain ⟨rfl, rfl⟩ := q122
          show Go k n0 (Q0 k0 dx dy oOR oAN oEQ oNE oLT oLE oGT oGE oPL oMI oMU oDI oMO h0) 16 128 T122 176 #[.val (.int k0), .val (.int dx), .val (.int dy), .val (.ref b1), .val (.ref oEQ), .val (.ref oEQ), .val (.int (2 : Int32)), .val (.double (FP.i2d dx)), .second, .val (.double (FP.i2d dy)), .second] [(.int (fC oEQ oEQ oNE oLT oLE oGT oGE (FP.i2d dx) (FP.i2d dy)))]
          refine g_aload X122 at_176 rfl rfl 178 rfl ?_
          refine g_dload X122 at_178 rfl 180 rfl ?_
          refine g_dload X122 at_180 rfl 182 rfl ?_
          refine g_callV X122 oEQ [(.double (FP.i2d dy)), (.double (FP.i2d dx))] [(.int (fC oEQ oEQ oNE oLT oLE oGT oGE (FP.i2d dx) (FP.i2d dy)))] (rm3 hw n0 oEQ (FP.i2d dy) (FP.i2d dx) oEQ oNE oLT oLE oGT oGE h78 ft120 ft121 ft107 ft108 ft109 ft110 (Or.inl rfl)) ft112 (w47 hw) (w48 hw) (w50 hw) (w49 hw) (w3 hw) (w51 hw) (by decide) pd2 rfl rfl (by decide) (Nat.le_of_ble_eq_true rfl) (by decide) (by decide) at_182 rfl 185 rfl (fun v123 T123 h123 X123 q123 => ?_)
          obtain ⟨rfl, rfl⟩ := q123
          show Go k n0 (Q0 k0 dx dy oOR oAN oEQ oNE oLT oLE oGT oGE oPL oMI oMU oDI oMO h0) 16 128 T123 185 #[.val (.int k0), .val (.int dx), .val (.int dy), .val (.ref b1), .val (.ref oEQ), .val (.ref oEQ), .val (.int (2 : Int32)), .val (.double (FP.i2d dx)), .second, .val (.double (FP.i2d dy)), .second] [(.int (fC oEQ oEQ oNE oLT oLE oGT oGE (FP.i2d dy) (FP.i2d dx))), (.int (fC oEQ oEQ oNE oLT oLE oGT oGE (FP.i2d dx) (FP.i2d dy)))]
          have k193_7 : ∀ (v124 : Int32), (Q0 k0 dx dy oOR oAN oEQ oNE oLT oLE oGT oGE oPL oMI oMU oDI oMO h0) (some (.int (v124 &&& 1))) h78 → Go k n0 (Q0 k0 dx dy oOR oAN oEQ oNE oLT oLE oGT oGE oPL oMI oMU oDI oMO h0) 16 128 T123 193 #[.val (.int k0), .val (.int dx), .val (.int dy), .val (.ref b1), .val (.ref oEQ), .val (.ref oEQ), .val (.int (2 : Int32)), .val (.double (FP.i2d dx)), .second, .val (.double (FP.i2d dy)), .second] [(.int v124)] := by
            intro v124 hQ
            exact g_retZ X123 at_193 (by decide) (by decide) hQ
          refine g_icmpN X123 i_ne at_185 192 (by decide) (by decide) 188 rfl (fun h125 => ?_) (fun h125 => ?_)
          · skip
            refine g_iconst X123 (1 : Int32) at_188 rfl 189 rfl ?_
            refine g_goto X123 at_189 193 (by decide) (by decide) ?_
            exact k193_7 ((1 : Int32)) own_one
          · skip
            refine g_iconst X123 (0 : Int32) at_192 rfl 193 rfl ?_
            exact k193_7 ((0 : Int32)) (absurd ((by unfold fC; rw [if_pos rfl] : fC oEQ oEQ oNE oLT oLE oGT oGE (FP.i2d dx) (FP.i2d dy) = _).trans ((own_tri (P := (fun p q => (if p = 0 then (1 : Int32) else 0) = (if q = 0 then (1 : Int32) else 0))) dx dy (by decide) (by decide) (by decide) .l .l).trans (by unfold fC; rw [if_pos rfl] : fC oEQ oEQ oNE oLT oLE oGT oGE (FP.i2d dy) (FP.i2d dx) = _).symm)) h125)
        · exact absurd (by decide) h119
      · exact absurd (by decide) h117
    · exact absurd rfl h114
  · skip
    refine g_aaload X78 (AR.ai A78) rfl 3 hj (by decide) (.ref oNE) rfl at_99 100 rfl ?_
    refine g_astore X78 at_100 rfl #[.val (.int k0), .val (.int dx), .val (.int dy), .val (.ref b1), .val (.ref oNE), .unset, .unset, .unset, .unset, .unset, .unset] rfl 102 rfl ?_
    refine g_aload X78 at_102 rfl rfl 104 rfl ?_
    have ft126 := (((((((((ft36.wr W38).wr W43).wr W48).wr W53).wr W58).wr W63).wr W68).wr W73).wr W78)
    have ft127 := ((((((((ft41.wr W43).wr W48).wr W53).wr W58).wr W63).wr W68).wr W73).wr W78)
    have ft128 := (((((((ft46.wr W48).wr W53).wr W58).wr W63).wr W68).wr W73).wr W78)
    have ft129 := ((((((ft51.wr W53).wr W58).wr W63).wr W68).wr W73).wr W78)
    have ft131 := ((((((((((ft34.wr W33).wr W38).wr W43).wr W48).wr W53).wr W58).wr W63).wr W68).wr W73).wr W78)
    refine g_callV X78 oNE [] [] (rm1 hw n0 oNE oLT oLE oGT oGE oNE h78 ft126 ft127 ft128 ft129 (by unfold fM; rw [if_neg n_oNE_oLT, if_neg n_oNE_oLE, if_neg n_oNE_oGT, if_neg n_oNE_oGE])) ft131 (w31 hw) (w32 hw) (w34 hw) (w33 hw) (w3 hw) (w35 hw) (by decide) pd0 rfl rfl (by decide) (Nat.le_of_ble_eq_true rfl) (by decide) (by decide) at_104 rfl 107 rfl (fun v130 T130 h130 X130 q130 => ?_)
    obtain ⟨rfl, rfl⟩ := q130
    show Go k n0 (Q0 k0 dx dy oOR oAN oEQ oNE oLT oLE oGT oGE oPL oMI oMU oDI oMO h0) 16 128 T130 107 #[.val (.int k0), .val (.int dx), .val (.int dy), .val (.ref b1), .val (.ref oNE), .unset, .unset, .unset, .unset, .unset, .unset] [(.ref oNE)]
    refine g_astore X130 at_107 rfl #[.val (.int k0), .val (.int dx), .val (.int dy), .val (.ref b1), .val (.ref oNE), .val (.ref oNE), .unset, .unset, .unset, .unset, .unset] rfl 109 rfl ?_
    refine g_aload X130 at_109 rfl rfl 111 rfl ?_
    refine g_nonnullY X130 at_111 116 (by decide) (by decide) ?_
    refine g_aload X130 at_116 rfl rfl 118 rfl ?_
    refine g_callV X130 oNE [] [] (rm1 hw n0 oNE oLT oLE oGT oGE oNE h78 ft126 ft127 ft128 ft129 (by unfold fM; rw [if_neg n_oNE_oLT, if_neg n_oNE_oLE, if_neg n_oNE_oGT, if_neg n_oNE_oGE])) ft131 (w31 hw) (w32 hw) (w34 hw) (w33 hw) (w3 hw) (w35 hw) (by decide) pd0 rfl rfl (by decide) (Nat.le_of_ble_eq_true rfl) (by decide) (by decide) at_118 rfl 121 rfl (fun v132 T132 h132 X132 q132 => ?_)
    obtain ⟨rfl, rfl⟩ := q132
    show Go k n0 (Q0 k0 dx dy oOR oAN oEQ oNE oLT oLE oGT oGE oPL oMI oMU oDI oMO h0) 16 128 T132 121 #[.val (.int k0), .val (.int dx), .val (.int dy), .val (.ref b1), .val (.ref oNE), .val (.ref oNE), .unset, .unset, .unset, .unset, .unset] [(.ref oNE)]
    refine g_aload X132 at_121 rfl rfl 123 rfl ?_
    refine g_acmp X132 a_eq at_123 128 (by decide) (by decide) 126 rfl (fun h133 => ?_) (fun h133 => ?_)
    · skip
      refine g_aload X132 at_128 rfl rfl 130 rfl ?_
      have ft134 := ((((((((((((((FoNE.ext E1).other W18 (Or.inl ne5)).other W23 (Or.inl ne5)).other W28 (Or.inl ne5)).other W33 (Or.inl ne5)).other W38 (Or.inl ne5)).other W43 (Or.inl ne5)).other W48 (Or.inl ne5)).other W53 (Or.inl ne5)).other W58 (Or.inl ne5)).other W63 (Or.inl ne5)).other W68 (Or.inl ne5)).other W73 (Or.inl ne5)).other W78 (Or.inl ne5))
      refine g_callV X132 oNE [] [] (rm2 hw n0 oNE (2 : Int32) h78 ft134) ft131 (w40 hw) (w41 hw) (w43 hw) (w42 hw) (w3 hw) (w44 hw) (by decide) pd1 rfl rfl (by decide) (Nat.le_of_ble_eq_true rfl) (by decide) (by decide) at_130 rfl 133 rfl (fun v135 T135 h135 X135 q135 => ?_)
      obtain ⟨rfl, rfl⟩ := q135
      show Go k n0 (Q0 k0 dx dy oOR oAN oEQ oNE oLT oLE oGT oGE oPL oMI oMU oDI oMO h0) 16 128 T135 133 #[.val (.int k0), .val (.int dx), .val (.int dy), .val (.ref b1), .val (.ref oNE), .val (.ref oNE), .unset, .unset, .unset, .unset, .unset] [(.int (2 : Int32))]
      refine g_istore X135 at_133 #[.val (.int k0), .val (.int dx), .val (.int dy), .val (.ref b1), .val (.ref oNE), .val (.ref oNE), .val (.int (2 : Int32)), .unset, .unset, .unset, .unset] rfl 135 rfl ?_
      refine g_iload X135 at_135 rfl 137 rfl ?_
      refine g_iconst X135 (2 : Int32) at_137 rfl 138 rfl ?_
      refine g_icmp X135 i_eq at_138 147 (by decide) (by decide) 141 rfl (fun h136 => ?_) (fun h136 => ?_)
      · skip
        refine g_aload X135 at_147 rfl rfl 149 rfl ?_
        refine g_callV X135 oNE [] [] (rm2 hw n0 oNE (2 : Int32) h78 ft134) ft131 (w40 hw) (w41 hw) (w43 hw) (w42 hw) (w3 hw) (w44 hw) (by decide) pd1 rfl rfl (by decide) (Nat.le_of_ble_eq_true rfl) (by decide) (by decide) at_149 rfl 152 rfl (fun v137 T137 h137 X137 q137 => ?_)
        obtain ⟨rfl, rfl⟩ := q137
        show Go k n0 (Q0 k0 dx dy oOR oAN oEQ oNE oLT oLE oGT oGE oPL oMI oMU oDI oMO h0) 16 128 T137 152 #[.val (.int k0), .val (.int dx), .val (.int dy), .val (.ref b1), .val (.ref oNE), .val (.ref oNE), .val (.int (2 : Int32)), .unset, .unset, .unset, .unset] [(.int (2 : Int32))]
        refine g_iload X137 at_152 rfl 154 rfl ?_
        refine g_icmp X137 i_eq at_154 159 (by decide) (by decide) 157 rfl (fun h138 => ?_) (fun h138 => ?_)
        · skip
          refine g_iloadN X137 at_159 rfl 160 rfl ?_
          refine g_i2d X137 at_160 161 rfl ?_
          refine g_dstore X137 at_161 #[.val (.int k0), .val (.int dx), .val (.int dy), .val (.ref b1), .val (.ref oNE), .val (.ref oNE), .val (.int (2 : Int32)), .val (.double (FP.i2d dx)), .second, .unset, .unset] rfl 163 rfl ?_
          refine g_iloadN X137 at_163 rfl 164 rfl ?_
          refine g_i2d X137 at_164 165 rfl ?_
          refine g_dstore X137 at_165 #[.val (.int k0), .val (.int dx), .val (.int dy), .val (.ref b1), .val (.ref oNE), .val (.ref oNE), .val (.int (2 : Int32)), .val (.double (FP.i2d dx)), .second, .val (.double (FP.i2d dy)), .second] rfl 167 rfl ?_
          refine g_aload X137 at_167 rfl rfl 169 rfl ?_
          refine g_dload X137 at_169 rfl 171 rfl ?_
          refine g_dload X137 at_171 rfl 173 rfl ?_
          have ft139 := (((((((((((ft26.wr W28).wr W33).wr W38).wr W43).wr W48).wr W53).wr W58).wr W63).wr W68).wr W73).wr W78)
          have ft140 := ((((((((((ft31.wr W33).wr W38).wr W43).wr W48).wr W53).wr W58).wr W63).wr W68).wr W73).wr W78)
          refine g_callV X137 oNE [(.double (FP.i2d dx)), (.double (FP.i2d dy))] [] (rm3 hw n0 oNE (FP.i2d dx) (FP.i2d dy) oEQ oNE oLT oLE oGT oGE h78 ft139 ft140 ft126 ft127 ft128 ft129 (Or.inr (Or.inl rfl))) ft131 (w47 hw) (w48 hw) (w50 hw) (w49 hw) (w3 hw) (w51 hw) (by decide) pd2 rfl rfl (by decide) (Nat.le_of_ble_eq_true rfl) (by decide) (by decide) at_173 rfl 176 rfl (fun v141 T141 h141 X141 q141 => ?_)
          obtain ⟨rfl, rfl⟩ := q141
          show Go k n0 (Q0 k0 dx dy oOR oAN oEQ oNE oLT oLE oGT oGE oPL oMI oMU oDI oMO h0) 16 128 T141 176 #[.val (.int k0), .val (.int dx), .val (.int dy), .val (.ref b1), .val (.ref oNE), .val (.ref oNE), .val (.int (2 : Int32)), .val (.double (FP.i2d dx)), .second, .val (.double (FP.i2d dy)), .second] [(.int (fC oNE oEQ oNE oLT oLE oGT oGE (FP.i2d dx) (FP.i2d dy)))]
          refine g_aload X141 at_176 rfl rfl 178 rfl ?_
          refine g_dload X141 at_178 rfl 180 rfl ?_
          refine g_dload X141 at_180 rfl 182 rfl ?_
          refine g_callV X141 oNE [(.double (FP.i2d dy)), (.double (FP.i2d dx))] [(.int (fC oNE oEQ oNE oLT oLE oGT oGE (FP.i2d dx) (FP.i2d dy)))] (rm3 hw n0 oNE (FP.i2d dy) (FP.i2d dx) oEQ oNE oLT oLE oGT oGE h78 ft139 ft140 ft126 ft127 ft128 ft129 (Or.inr (Or.inl rfl))) ft131 (w47 hw) (w48 hw) (w50 hw) (w49 hw) (w3 hw) (w51 hw) (by decide) pd2 rfl rfl (by decide) (Nat.le_of_ble_eq_true rfl) (by decide) (by decide) at_182 rfl 185 rfl (fun v142 T142 h142 X142 q142 => ?_)
          obtain ⟨rfl, rfl⟩ := q142
          show Go k n0 (Q0 k0 dx dy oOR oAN oEQ oNE oLT oLE oGT oGE oPL oMI oMU oDI oMO h0) 16 128 T142 185 #[.val (.int k0), .val (.int dx), .val (.int dy), .val (.ref b1), .val (.ref oNE), .val (.ref oNE), .val (.int (2 : Int32)), .val (.double (FP.i2d dx)), .second, .val (.double (FP.i2d dy)), .second] [(.int (fC oNE oEQ oNE oLT oLE oGT oGE (FP.i2d dy) (FP.i2d dx))), (.int (fC oNE oEQ oNE oLT oLE oGT oGE (FP.i2d dx) (FP.i2d dy)))]
          have k193_8 : ∀ (v143 : Int32), (Q0 k0 dx dy oOR oAN oEQ oNE oLT oLE oGT oGE oPL oMI oMU oDI oMO h0) (some (.int (v143 &&& 1))) h78 → Go k n0 (Q0 k0 dx dy oOR oAN oEQ oNE oLT oLE oGT oGE oPL oMI oMU oDI oMO h0) 16 128 T142 193 #[.val (.int k0), .val (.int dx), .val (.int dy), .val (.ref b1), .val (.ref oNE), .val (.ref oNE), .val (.int (2 : Int32)), .val (.double (FP.i2d dx)), .second, .val (.double (FP.i2d dy)), .second] [(.int v143)] := by
            intro v143 hQ
            exact g_retZ X142 at_193 (by decide) (by decide) hQ
          refine g_icmpN X142 i_ne at_185 192 (by decide) (by decide) 188 rfl (fun h144 => ?_) (fun h144 => ?_)
          · skip
            refine g_iconst X142 (1 : Int32) at_188 rfl 189 rfl ?_
            refine g_goto X142 at_189 193 (by decide) (by decide) ?_
            exact k193_8 ((1 : Int32)) own_one
          · skip
            refine g_iconst X142 (0 : Int32) at_192 rfl 193 rfl ?_
            exact k193_8 ((0 : Int32)) (absurd ((by unfold fC; rw [if_neg n_oNE_oEQ, if_pos rfl] : fC oNE oEQ oNE oLT oLE oGT oGE (FP.i2d dx) (FP.i2d dy) = _).trans ((own_tri (P := (fun p q => (if p = 0 then (0 : Int32) else 1) = (if q = 0 then (0 : Int32) else 1))) dx dy (by decide) (by decide) (by decide) .l .l).trans (by unfold fC; rw [if_neg n_oNE_oEQ, if_pos rfl] : fC oNE oEQ oNE oLT oLE oGT oGE (FP.i2d dy) (FP.i2d dx) = _).symm)) h144)
        · exact absurd (by decide) h138
      · exact absurd (by decide) h136
    · exact absurd rfl h133
  · skip
    refine g_aaload X78 (AR.ai A78) rfl 4 hj (by decide) (.ref oLT) rfl at_99 100 rfl ?_
    refine g_astore X78 at_100 rfl #[.val (.int k0), .val (.int dx), .val (.int dy), .val (.ref b1), .val (.ref oLT), .unset, .unset, .unset, .unset, .unset, .unset] rfl 102 rfl ?_
    refine g_aload X78 at_102 rfl rfl 104 rfl ?_
    have ft145 := (((((((((ft36.wr W38).wr W43).wr W48).wr W53).wr W58).wr W63).wr W68).wr W73).wr W78)
    have ft146 := ((((((((ft41.wr W43).wr W48).wr W53).wr W58).wr W63).wr W68).wr W73).wr W78)
    have ft147 := (((((((ft46.wr W48).wr W53).wr W58).wr W63).wr W68).wr W73).wr W78)
    have ft148 := ((((((ft51.wr W53).wr W58).wr W63).wr W68).wr W73).wr W78)
    have ft150 := (((((((((ft39.wr W38).wr W43).wr W48).wr W53).wr W58).wr W63).wr W68).wr W73).wr W78)
    refine g_callV X78 oLT [] [] (rm1 hw n0 oLT oLT oLE oGT oGE oGT h78 ft145 ft146 ft147 ft148 (by unfold fM; rw [if_pos rfl])) ft150 (w31 hw) (w32 hw) (w34 hw) (w33 hw) (w3 hw) (w35 hw) (by decide) pd0 rfl rfl (by decide) (Nat.le_of_ble_eq_true rfl) (by decide) (by decide) at_104 rfl 107 rfl (fun v149 T149 h149 X149 q149 => ?_)
    obtain ⟨rfl, rfl⟩ := q149
    show Go k n0 (Q0 k0 dx dy oOR oAN oEQ oNE oLT oLE oGT oGE oPL oMI oMU oDI oMO h0) 16 128 T149 107 #[.val (.int k0), .val (.int dx), .val (.int dy), .val (.ref b1), .val (.ref oLT), .unset, .unset, .unset, .unset, .unset, .unset] [(.ref oGT)]
    refine g_astore X149 at_107 rfl #[.val (.int k0), .val (.int dx), .val (.int dy), .val (.ref b1), .val (.ref oLT), .val (.ref oGT), .unset, .unset, .unset, .unset, .unset] rfl 109 rfl ?_
    refine g_aload X149 at_109 rfl rfl 111 rfl ?_
    refine g_nonnullY X149 at_111 116 (by decide) (by decide) ?_
    refine g_aload X149 at_116 rfl rfl 118 rfl ?_
    have ft152 := (((((((ft49.wr W48).wr W53).wr W58).wr W63).wr W68).wr W73).wr W78)
    refine g_callV X149 oGT [] [] (rm1 hw n0 oGT oLT oLE oGT oGE oLT h78 ft145 ft146 ft147 ft148 (by unfold fM; rw [if_neg n_oGT_oLT, if_neg n_oGT_oLE, if_pos rfl])) ft152 (w31 hw) (w32 hw) (w34 hw) (w33 hw) (w3 hw) (w35 hw) (by decide) pd0 rfl rfl (by decide) (Nat.le_of_ble_eq_true rfl) (by decide) (by decide) at_118 rfl 121 rfl (fun v151 T151 h151 X151 q151 => ?_)
    obtain ⟨rfl, rfl⟩ := q151
    show Go k n0 (Q0 k0 dx dy oOR oAN oEQ oNE oLT oLE oGT oGE oPL oMI oMU oDI oMO h0) 16 128 T151 121 #[.val (.int k0), .val (.int dx), .val (.int dy), .val (.ref b1), .val (.ref oLT), .val (.ref oGT), .unset, .unset, .unset, .unset, .unset] [(.ref oLT)]
    refine g_aload X151 at_121 rfl rfl 123 rfl ?_
    refine g_acmp X151 a_eq at_123 128 (by decide) (by decide) 126 rfl (fun h153 => ?_) (fun h153 => ?_)
    · skip
      refine g_aload X151 at_128 rfl rfl 130 rfl ?_
      have ft154 := ((((((((((((((FoLT.ext E1).other W18 (Or.inl ne6)).other W23 (Or.inl ne6)).other W28 (Or.inl ne6)).other W33 (Or.inl ne6)).other W38 (Or.inl ne6)).other W43 (Or.inl ne6)).other W48 (Or.inl ne6)).other W53 (Or.inl ne6)).other W58 (Or.inl ne6)).other W63 (Or.inl ne6)).other W68 (Or.inl ne6)).other W73 (Or.inl ne6)).other W78 (Or.inl ne6))
      refine g_callV X151 oLT [] [] (rm2 hw n0 oLT (3 : Int32) h78 ft154) ft150 (w40 hw) (w41 hw) (w43 hw) (w42 hw) (w3 hw) (w44 hw) (by decide) pd1 rfl rfl (by decide) (Nat.le_of_ble_eq_true rfl) (by decide) (by decide) at_130 rfl 133 rfl (fun v155 T155 h155 X155 q155 => ?_)
      obtain ⟨rfl, rfl⟩ := q155
      show Go k n0 (Q0 k0 dx dy oOR oAN oEQ oNE oLT oLE oGT oGE oPL oMI oMU oDI oMO h0) 16 128 T155 133 #[.val (.int k0), .val (.int dx), .val (.int dy), .val (.ref b1), .val (.ref oLT), .val (.ref oGT), .unset, .unset, .unset, .unset, .unset] [(.int (3 : Int32))]
      refine g_istore X155 at_133 #[.val (.int k0), .val (.int dx), .val (.int dy), .val (.ref b1), .val (.ref oLT), .val (.ref oGT), .val (.int (3 : Int32)), .unset, .unset, .unset, .unset] rfl 135 rfl ?_
      refine g_iload X155 at_135 rfl 137 rfl ?_
      refine g_iconst X155 (2 : Int32) at_137 rfl 138 rfl ?_
      refine g_icmp X155 i_eq at_138 147 (by decide) (by decide) 141 rfl (fun h156 => ?_) (fun h156 => ?_)
      · exact absurd h156 (by decide)
      · skip
        refine g_iload X155 at_141 rfl 143 rfl ?_
        refine g_iconst X155 (3 : Int32) at_143 rfl 144 rfl ?_
        refine g_icmpN X155 i_ne at_144 194 (by decide) (by decide) 147 rfl (fun h157 => ?_) (fun h157 => ?_)
        · skip
          refine g_aload X155 at_147 rfl rfl 149 rfl ?_
          have ft158 := ((((((((((((((FoGT.ext E1).other W18 (Or.inl ne8)).other W23 (Or.inl ne8)).other W28 (Or.inl ne8)).other W33 (Or.inl ne8)).other W38 (Or.inl ne8)).other W43 (Or.inl ne8)).other W48 (Or.inl ne8)).other W53 (Or.inl ne8)).other W58 (Or.inl ne8)).other W63 (Or.inl ne8)).other W68 (Or.inl ne8)).other W73 (Or.inl ne8)).other W78 (Or.inl ne8))
          refine g_callV X155 oGT [] [] (rm2 hw n0 oGT (3 : Int32) h78 ft158) ft152 (w40 hw) (w41 hw) (w43 hw) (w42 hw) (w3 hw) (w44 hw) (by decide) pd1 rfl rfl (by decide) (Nat.le_of_ble_eq_true rfl) (by decide) (by decide) at_149 rfl 152 rfl (fun v159 T159 h159 X159 q159 => ?_)
          obtain ⟨rfl, rfl⟩ := q159
          show Go k n0 (Q0 k0 dx dy oOR oAN oEQ oNE oLT oLE oGT oGE oPL oMI oMU oDI oMO h0) 16 128 T159 152 #[.val (.int k0), .val (.int dx), .val (.int dy), .val (.ref b1), .val (.ref oLT), .val (.ref oGT), .val (.int (3 : Int32)), .unset, .unset, .unset, .unset] [(.int (3 : Int32))]
          refine g_iload X159 at_152 rfl 154 rfl ?_
          refine g_icmp X159 i_eq at_154 159 (by decide) (by decide) 157 rfl (fun h160 => ?_) (fun h160 => ?_)
          · skip
            refine g_iloadN X159 at_159 rfl 160 rfl ?_
            refine g_i2d X159 at_160 161 rfl ?_
            refine g_dstore X159 at_161 #[.val (.int k0), .val (.int dx), .val (.int dy), .val (.ref b1), .val (.ref oLT), .val (.ref oGT), .val (.int (3 : Int32)), .val (.double (FP.i2d dx)), .second, .unset, .unset] rfl 163 rfl ?_
            refine g_iloadN X159 at_163 rfl 164 rfl ?_
            refine g_i2d X159 at_164 165 rfl ?_
            refine g_dstore X159 at_165 #[.val (.int k0), .val (.int dx), .val (.int dy), .val (.ref b1), .val (.ref oLT), .val (.ref oGT), .val (.int (3 : Int32)), .val (.double (FP.i2d dx)), .second, .val (.double (FP.i2d dy)), .second] rfl 167 rfl ?_
            refine g_aload X159 at_167 rfl rfl 169 rfl ?_
            refine g_dload X159 at_169 rfl 171 rfl ?_
            refine g_dload X159 at_171 rfl 173 rfl ?_
            have ft161 := (((((((((((ft26.wr W28).wr W33).wr W38).wr W43).wr W48).wr W53).wr W58).wr W63).wr W68).wr W73).wr W78)
            have ft162 := ((((((((((ft31.wr W33).wr W38).wr W43).wr W48).wr W53).wr W58).wr W63).wr W68).wr W73).wr W78)
            refine g_callV X159 oLT [(.double (FP.i2d dx)), (.double (FP.i2d dy))] [] (rm3 hw n0 oLT (FP.i2d dx) (FP.i2d dy) oEQ oNE oLT oLE oGT oGE h78 ft161 ft162 ft145 ft146 ft147 ft148 (Or.inr (Or.inr (Or.inl rfl)))) ft150 (w47 hw) (w48 hw) (w50 hw) (w49 hw) (w3 hw) (w51 hw) (by decide) pd2 rfl rfl (by decide) (Nat.le_of_ble_eq_true rfl) (by decide) (by decide) at_173 rfl 176 rfl (fun v163 T163 h163 X163 q163 => ?_)
            obtain ⟨rfl, rfl⟩ := q163
            show Go k n0 (Q0 k0 dx dy oOR oAN oEQ oNE oLT oLE oGT oGE oPL oMI oMU oDI oMO h0) 16 128 T163 176 #[.val (.int k0), .val (.int dx), .val (.int dy), .val (.ref b1), .val (.ref oLT), .val (.ref oGT), .val (.int (3 : Int32)), .val (.double (FP.i2d dx)), .second, .val (.double (FP.i2d dy)), .second] [(.int (fC oLT oEQ oNE oLT oLE oGT oGE (FP.i2d dx) (FP.i2d dy)))]
            refine g_aload X163 at_176 rfl rfl 178 rfl ?_
            refine g_dload X163 at_178 rfl 180 rfl ?_
            refine g_dload X163 at_180 rfl 182 rfl ?_
            refine g_callV X163 oGT [(.double (FP.i2d dy)), (.double (FP.i2d dx))] [(.int (fC oLT oEQ oNE oLT oLE oGT oGE (FP.i2d dx) (FP.i2d dy)))] (rm3 hw n0 oGT (FP.i2d dy) (FP.i2d dx) oEQ oNE oLT oLE oGT oGE h78 ft161 ft162 ft145 ft146 ft147 ft148 (Or.inr (Or.inr (Or.inr (Or.inr (Or.inl rfl)))))) ft152 (w47 hw) (w48 hw) (w50 hw) (w49 hw) (w3 hw) (w51 hw) (by decide) pd2 rfl rfl (by decide) (Nat.le_of_ble_eq_true rfl) (by decide) (by decide) at_182 rfl 185 rfl (fun v164 T164 h164 X164 q164 => ?_)
            obtain ⟨rfl, rfl⟩ := q164
            show Go k n0 (Q0 k0 dx dy oOR oAN oEQ oNE oLT oLE oGT oGE oPL oMI oMU oDI oMO h0) 16 128 T164 185 #[.val (.int k0), .val (.int dx), .val (.int dy), .val (.ref b1), .val (.ref oLT), .val (.ref oGT), .val (.int (3 : Int32)), .val (.double (FP.i2d dx)), .second, .val (.double (FP.i2d dy)), .second] [(.int (fC oGT oEQ oNE oLT oLE oGT oGE (FP.i2d dy) (FP.i2d dx))), (.int (fC oLT oEQ oNE oLT oLE oGT oGE (FP.i2d dx) (FP.i2d dy)))]
            have k193_9 : ∀ (v165 : Int32), (Q0 k0 dx dy oOR oAN oEQ oNE oLT oLE oGT oGE oPL oMI oMU oDI oMO h0) (some (.int (v165 &&& 1))) h78 → Go k n0 (Q0 k0 dx dy oOR oAN oEQ oNE oLT oLE oGT oGE oPL oMI oMU oDI oMO h0) 16 128 T164 193 #[.val (.int k0), .val (.int dx), .val (.int dy), .val (.ref b1), .val (.ref oLT), .val (.ref oGT), .val (.int (3 : Int32)), .val (.double (FP.i2d dx)), .second, .val (.double (FP.i2d dy)), .second] [(.int v165)] := by
              intro v165 hQ
              exact g_retZ X164 at_193 (by decide) (by decide) hQ
            refine g_icmpN X164 i_ne at_185 192 (by decide) (by decide) 188 rfl (fun h166 => ?_) (fun h166 => ?_)
            · skip
              refine g_iconst X164 (1 : Int32) at_188 rfl 189 rfl ?_
              refine g_goto X164 at_189 193 (by decide) (by decide) ?_
              exact k193_9 ((1 : Int32)) own_one
            · skip
              refine g_iconst X164 (0 : Int32) at_192 rfl 193 rfl ?_
              exact k193_9 ((0 : Int32)) (absurd ((by unfold fC; rw [if_neg n_oLT_oEQ, if_neg n_oLT_oNE, if_pos rfl] : fC oLT oEQ oNE oLT oLE oGT oGE (FP.i2d dx) (FP.i2d dy) = _).trans ((own_tri (P := (fun p q => (if p < 0 then (1 : Int32) else 0) = (if 0 < q then (1 : Int32) else 0))) dx dy (by decide) (by decide) (by decide) .g .l).trans (by unfold fC; rw [if_neg n_oGT_oEQ, if_neg n_oGT_oNE, if_neg n_oGT_oLT, if_neg n_oGT_oLE, if_pos rfl] : fC oGT oEQ oNE oLT oLE oGT oGE (FP.i2d dy) (FP.i2d dx) = _).symm)) h166)
          · exact absurd (by decide) h160
        · exact absurd (by decide) h157
    · exact absurd rfl h153
  · skip
    refine g_aaload X78 (AR.ai A78) rfl 5 hj (by decide) (.ref oLE) rfl at_99 100 rfl ?_
    refine g_astore X78 at_100 rfl #[.val (.int k0), .val (.int dx), .val (.int dy), .val (.ref b1), .val (.ref oLE), .unset, .unset, .unset, .unset, .unset, .unset] rfl 102 rfl ?_
    refine g_aload X78 at_102 rfl rfl 104 rfl ?_
    have ft167 := (((((((((ft36.wr W38).wr W43).wr W48).wr W53).wr W58).wr W63).wr W68).wr W73).wr W78)
    have ft168 := ((((((((ft41.wr W43).wr W48).wr W53).wr W58).wr W63).wr W68).wr W73).wr W78)
    have ft169 := (((((((ft46.wr W48).wr W53).wr W58).wr W63).wr W68).wr W73).wr W78)
    have ft170 := ((((((ft51.wr W53).wr W58).wr W63).wr W68).wr W73).wr W78)
    have ft172 := ((((((((ft44.wr W43).wr W48).wr W53).wr W58).wr W63).wr W68).wr W73).wr W78)
    refine g_callV X78 oLE [] [] (rm1 hw n0 oLE oLT oLE oGT oGE oGE h78 ft167 ft168 ft169 ft170 (by unfold fM; rw [if_neg n_oLE_oLT, if_pos rfl])) ft172 (w31 hw) (w32 hw) (w34 hw) (w33 hw) (w3 hw) (w35 hw) (by decide) pd0 rfl rfl (by decide) (Nat.le_of_ble_eq_true rfl) (by decide) (by decide) at_104 rfl 107 rfl (fun v171 T171 h171 X171 q171 => ?_)
    obtain ⟨rfl, rfl⟩ := q171
    show Go k n0 (Q0 k0 dx dy oOR oAN oEQ oNE oLT oLE oGT oGE oPL oMI oMU oDI oMO h0) 16 128 T171 107 #[.val (.int k0), .val (.int dx), .val (.int dy), .val (.ref b1), .val (.ref oLE), .unset, .unset, .unset, .unset, .unset, .unset] [(.ref oGE)]
    refine g_astore X171 at_107 rfl #[.val (.int k0), .val (.int dx), .val (.int dy), .val (.ref b1), .val (.ref oLE), .val (.ref oGE), .unset, .unset, .unset, .unset, .unset] rfl 109 rfl ?_
    refine g_aload X171 at_109 rfl rfl 111 rfl ?_
    refine g_nonnullY X171 at_111 116 (by decide) (by decide) ?_
    refine g_aload X171 at_116 rfl rfl 118 rfl ?_
    have ft174 := ((((((ft54.wr W53).wr W58).wr W63).wr W68).wr W73).wr W78)
    refine g_callV X171 oGE [] [] (rm1 hw n0 oGE oLT oLE oGT oGE oLE h78 ft167 ft168 ft169 ft170 (by unfold fM; rw [if_neg n_oGE_oLT, if_neg n_oGE_oLE, if_neg n_oGE_oGT, if_pos rfl])) ft174 (w31 hw) (w32 hw) (w34 hw) (w33 hw) (w3 hw) (w35 hw) (by decide) pd0 rfl rfl (by decide) (Nat.le_of_ble_eq_true rfl) (by decide) (by decide) at_118 rfl 121 rfl (fun v173 T173 h173 X173 q173 => ?_)
    obtain ⟨rfl, rfl⟩ := q173
    show Go k n0 (Q0 k0 dx dy oOR oAN oEQ oNE oLT oLE oGT oGE oPL oMI oMU oDI oMO h0) 16 128 T173 121 #[.val (.int k0), .val (.int dx), .val (.int dy), .val (.ref b1), .val (.ref oLE), .val (.ref oGE), .unset, .unset, .unset, .unset, .unset] [(.ref oLE)]
    refine g_aload X173 at_121 rfl rfl 123 rfl ?_
    refine g_acmp X173 a_eq at_123 128 (by decide) (by decide) 126 rfl (fun h175 => ?_) (fun h175 => ?_)
    · skip
      refine g_aload X173 at_128 rfl rfl 130 rfl ?_
      have ft176 := ((((((((((((((FoLE.ext E1).other W18 (Or.inl ne7)).other W23 (Or.inl ne7)).other W28 (Or.inl ne7)).other W33 (Or.inl ne7)).other W38 (Or.inl ne7)).other W43 (Or.inl ne7)).other W48 (Or.inl ne7)).other W53 (Or.inl ne7)).other W58 (Or.inl ne7)).other W63 (Or.inl ne7)).other W68 (Or.inl ne7)).other W73 (Or.inl ne7)).other W78 (Or.inl ne7))
      refine g_callV X173 oLE [] [] (rm2 hw n0 oLE (3 : Int32) h78 ft176) ft172 (w40 hw) (w41 hw) (w43 hw) (w42 hw) (w3 hw) (w44 hw) (by decide) pd1 rfl rfl (by decide) (Nat.le_of_ble_eq_true rfl) (by decide) (by decide) at_130 rfl 133 rfl (fun v177 T177 h177 X177 q177 => ?_)
      obtain ⟨rfl, rfl⟩ := q177
      show Go k n0 (Q0 k0 dx dy oOR oAN oEQ oNE oLT oLE oGT oGE oPL oMI oMU oDI oMO h0) 16 128 T177 133 #[.val (.int k0), .val (.int dx), .val (.int dy), .val (.ref b1), .val (.ref oLE), .val (.ref oGE), .unset, .unset, .unset, .unset, .unset] [(.int (3 : Int32))]
      refine g_istore X177 at_133 #[.val (.int k0), .val (.int dx), .val (.int dy), .val (.ref b1), .val (.ref oLE), .val (.ref oGE), .val (.int (3 : Int32)), .unset, .unset, .unset, .unset] rfl 135 rfl ?_
      refine g_iload X177 at_135 rfl 137 rfl ?_
      refine g_iconst X177 (2 : Int32) at_137 rfl 138 rfl ?_
      refine g_icmp X177 i_eq at_138 147 (by decide) (by decide) 141 rfl (fun h178 => ?_) (fun h178 => ?_)
      · exact absurd h178 (by decide)
      · skip
        refine g_iload X177 at_141 rfl 143 rfl ?_
        refine g_iconst X177 (3 : Int32) at_143 rfl 144 rfl ?_
        refine g_icmpN X177 i_ne at_144 194 (by decide) (by decide) 147 rfl (fun h179 => ?_) (fun h179 => ?_)
        · skip
          refine g_aload X177 at_147 rfl rfl 149 rfl ?_
          have ft180 := ((((((((((((((FoGE.ext E1).other W18 (Or.inl ne9)).other W23 (Or.inl ne9)).other W28 (Or.inl ne9)).other W33 (Or.inl ne9)).other W38 (Or.inl ne9)).other W43 (Or.inl ne9)).other W48 (Or.inl ne9)).other W53 (Or.inl ne9)).other W58 (Or.inl ne9)).other W63 (Or.inl ne9)).other W68 (Or.inl ne9)).other W73 (Or.inl ne9)).other W78 (Or.inl ne9))
          refine g_callV X177 oGE [] [] (rm2 hw n0 oGE (3 : Int32) h78 ft180) ft174 (w40 hw) (w41 hw) (w43 hw) (w42 hw) (w3 hw) (w44 hw) (by decide) pd1 rfl rfl (by decide) (Nat.le_of_ble_eq_true rfl) (by decide) (by decide) at_149 rfl 152 rfl (fun v181 T181 h181 X181 q181 => ?_)
          obtain ⟨rfl, rfl⟩ := q181
          show Go k n0 (Q0 k0 dx dy oOR oAN oEQ oNE oLT oLE oGT oGE oPL oMI oMU oDI oMO h0) 16 128 T181 152 #[.val (.int k0), .val (.int dx), .val (.int dy), .val (.ref b1), .val (.ref oLE), .val (.ref oGE), .val (.int (3 : Int32)), .unset, .unset, .unset, .unset] [(.int (3 : Int32))]
          refine g_iload X181 at_152 rfl 154 rfl ?_
          refine g_icmp X181 i_eq at_154 159 (by decide) (by decide) 157 rfl (fun h182 => ?_) (fun h182 => ?_)
          · skip
            refine g_iloadN X181 at_159 rfl 160 rfl ?_
            refine g_i2d X181 at_160 161 rfl ?_
            refine g_dstore X181 at_161 #[.val (.int k0), .val (.int dx), .val (.int dy), .val (.ref b1), .val (.ref oLE), .val (.ref oGE), .val (.int (3 : Int32)), .val (.double (FP.i2d dx)), .second, .unset, .unset] rfl 163 rfl ?_
            refine g_iloadN X181 at_163 rfl 164 rfl ?_
            refine g_i2d X181 at_164 165 rfl ?_
            refine g_dstore X181 at_165 #[.val (.int k0), .val (.int dx), .val (.int dy), .val (.ref b1), .val (.ref oLE), .val (.ref oGE), .val (.int (3 : Int32)), .val (.double (FP.i2d dx)), .second, .val (.double (FP.i2d dy)), .second] rfl 167 rfl ?_
            refine g_aload X181 at_167 rfl rfl 169 rfl ?_
            refine g_dload X181 at_169 rfl 171 rfl ?_
            refine g_dload X181 at_171 rfl 173 rfl ?_
            have ft183 := (((((((((((ft26.wr W28).wr W33).wr W38).wr W43).wr W48).wr W53).wr W58).wr W63).wr W68).wr W73).wr W78)
            have ft184 := ((((((((((ft31.wr W33).wr W38).wr W43).wr W48).wr W53).wr W58).wr W63).wr W68).wr W73).wr W78)
            refine g_callV X181 oLE [(.double (FP.i2d dx)), (.double (FP.i2d dy))] [] (rm3 hw n0 oLE (FP.i2d dx) (FP.i2d dy) oEQ oNE oLT oLE oGT oGE h78 ft183 ft184 ft167 ft168 ft169 ft170 (Or.inr (Or.inr (Or.inr (Or.inl rfl))))) ft172 (w47 hw) (w48 hw) (w50 hw) (w49 hw) (w3 hw) (w51 hw) (by decide) pd2 rfl rfl (by decide) (Nat.le_of_ble_eq_true rfl) (by decide) (by decide) at_173 rfl 176 rfl (fun v185 T185 h185 X185 q185 => ?_)
            obtain ⟨rfl, rfl⟩ := q185
            show Go k n0 (Q0 k0 dx dy oOR oAN oEQ oNE oLT oLE oGT oGE oPL oMI oMU oDI oMO h0) 16 128 T185 176 #[.val (.int k0), .val (.int dx), .val (.int dy), .val (.ref b1), .val (.ref oLE), .val (.ref oGE), .val (.int (3 : Int32)), .val (.double (FP.i2d dx)), .second, .val (.double (FP.i2d dy)), .second] [(.int (fC oLE oEQ oNE oLT oLE oGT oGE (FP.i2d dx) (FP.i2d dy)))]
            refine g_aload X185 at_176 rfl rfl 178 rfl ?_
            refine g_dload X185 at_178 rfl 180 rfl ?_
            refine g_dload X185 at_180 rfl 182 rfl ?_
            refine g_callV X185 oGE [(.double (FP.i2d dy)), (.double (FP.i2d dx))] [(.int (fC oLE oEQ oNE oLT oLE oGT oGE (FP.i2d dx) (FP.i2d dy)))] (rm3 hw n0 oGE (FP.i2d dy) (FP.i2d dx) oEQ oNE oLT oLE oGT oGE h78 ft183 ft184 ft167 ft168 ft169 ft170 (Or.inr (Or.inr (Or.inr (Or.inr (Or.inr rfl)))))) ft174 (w47 hw) (w48 hw) (w50 hw) (w49 hw) (w3 hw) (w51 hw) (by decide) pd2 rfl rfl (by decide) (Nat.le_of_ble_eq_true rfl) (by decide) (by decide) at_182 rfl 185 rfl (fun v186 T186 h186 X186 q186 => ?_)
            obtain ⟨rfl, rfl⟩ := q186
            show Go k n0 (Q0 k0 dx dy oOR oAN oEQ oNE oLT oLE oGT oGE oPL oMI oMU oDI oMO h0) 16 128 T186 185 #[.val (.int k0), .val (.int dx), .val (.int dy), .val (.ref b1), .val (.ref oLE), .val (.ref oGE), .val (.int (3 : Int32)), .val (.double (FP.i2d dx)), .second, .val (.double (FP.i2d dy)), .second] [(.int (fC oGE oEQ oNE oLT oLE oGT oGE (FP.i2d dy) (FP.i2d dx))), (.int (fC oLE oEQ oNE oLT oLE oGT oGE (FP.i2d dx) (FP.i2d dy)))]
            have k193_10 : ∀ (v187 : Int32), (Q0 k0 dx dy oOR oAN oEQ oNE oLT oLE oGT oGE oPL oMI oMU oDI oMO h0) (some (.int (v187 &&& 1))) h78 → Go k n0 (Q0 k0 dx dy oOR oAN oEQ oNE oLT oLE oGT oGE oPL oMI oMU oDI oMO h0) 16 128 T186 193 #[.val (.int k0), .val (.int dx), .val (.int dy), .val (.ref b1), .val (.ref oLE), .val (.ref oGE), .val (.int (3 : Int32)), .val (.double (FP.i2d dx)), .second, .val (.double (FP.i2d dy)), .second] [(.int v187)] := by
              intro v187 hQ
              exact g_retZ X186 at_193 (by decide) (by decide) hQ
            refine g_icmpN X186 i_ne at_185 192 (by decide) (by decide) 188 rfl (fun h188 => ?_) (fun h188 => ?_)
            · skip
              refine g_iconst X186 (1 : Int32) at_188 rfl 189 rfl ?_
              refine g_goto X186 at_189 193 (by decide) (by decide) ?_
              exact k193_10 ((1 : Int32)) own_one
            · skip
              refine g_iconst X186 (0 : Int32) at_192 rfl 193 rfl ?_
              exact k193_10 ((0 : Int32)) (absurd ((by unfold fC; rw [if_neg n_oLE_oEQ, if_neg n_oLE_oNE, if_neg n_oLE_oLT, if_pos rfl] : fC oLE oEQ oNE oLT oLE oGT oGE (FP.i2d dx) (FP.i2d dy) = _).trans ((own_tri (P := (fun p q => (if 0 < p then (0 : Int32) else 1) = (if q < 0 then (0 : Int32) else 1))) dx dy (by decide) (by decide) (by decide) .g .l).trans (by unfold fC; rw [if_neg n_oGE_oEQ, if_neg n_oGE_oNE, if_neg n_oGE_oLT, if_neg n_oGE_oLE, if_neg n_oGE_oGT] : fC oGE oEQ oNE oLT oLE oGT oGE (FP.i2d dy) (FP.i2d dx) = _).symm)) h188)
          · exact absurd (by decide) h182
        · exact absurd (by decide) h179
    · exact absurd rfl h175
  · skip
    refine g_aaload X78 (AR.ai A78) rfl 6 hj (by decide) (.ref oGT) rfl at_99 100 rfl ?_
    refine g_astore X78 at_100 rfl #[.val (.int k0), .val (.int dx), .val (.int dy), .val (.ref b1), .val (.ref oGT), .unset, .unset, .unset, .unset, .unset, .unset] rfl 102 rfl ?_
    refine g_aload X78 at_102 rfl rfl 104 rfl ?_
    have ft189 := (((((((((ft36.wr W38).wr W43).wr W48).wr W53).wr W58).wr W63).wr W68).wr W73).wr W78)
    have ft190 := ((((((((ft41.wr W43).wr W48).wr W53).wr W58).wr W63).wr W68).wr W73).wr W78)
    have ft191 := (((((((ft46.wr W48).wr W53).wr W58).wr W63).wr W68).wr W73).wr W78)
    have ft192 := ((((((ft51.wr W53).wr W58).wr W63).wr W68).wr W73).wr W78)
    have ft194 := (((((((ft49.wr W48).wr W53).wr W58).wr W63).wr W68).wr W73).wr W78)
    refine g_callV X78 oGT [] [] (rm1 hw n0 oGT oLT oLE oGT oGE oLT h78 ft189 ft190 ft191 ft192 (by unfold fM; rw [if_neg n_oGT_oLT, if_neg n_oGT_oLE, if_pos rfl])) ft194 (w31 hw) (w32 hw) (w34 hw) (w33 hw) (w3 hw) (w35 hw) (by decide) pd0 rfl rfl (by decide) (Nat.le_of_ble_eq_true rfl) (by decide) (by decide) at_104 rfl 107 rfl (fun v193 T193 h193 X193 q193 => ?_)
    obtain ⟨rfl, rfl⟩ := q193
    show Go k n0 (Q0 k0 dx dy oOR oAN oEQ oNE oLT oLE oGT oGE oPL oMI oMU oDI oMO h0) 16 128 T193 107 #[.val (.int k0), .val (.int dx), .val (.int dy), .val (.ref b1), .val (.ref oGT), .unset, .unset, .unset, .unset, .unset, .unset] [(.ref oLT)]
    refine g_astore X193 at_107 rfl #[.val (.int k0), .val (.int dx), .val (.int dy), .val (.ref b1), .val (.ref oGT), .val (.ref oLT), .unset, .unset, .unset, .unset, .unset] rfl 109 rfl ?_
    refine g_aload X193 at_109 rfl rfl 111 rfl ?_
    refine g_nonnullY X193 at_111 116 (by decide) (by decide) ?_
    refine g_aload X193 at_116 rfl rfl 118 rfl ?_
    have ft196 := (((((((((ft39.wr W38).wr W43).wr W48).wr W53).wr W58).wr W63).wr W68).wr W73).wr W78)
    refine g_callV X193 oLT [] [] (rm1 hw n0 oLT oLT oLE oGT oGE oGT h78 ft189 ft190 ft191 ft192 (by unfold fM; rw [if_pos rfl])) ft196 (w31 hw) (w32 hw) (w34 hw) (w33 hw) (w3 hw) (w35 hw) (by decide) pd0 rfl rfl (by decide) (Nat.le_of_ble_eq_true rfl) (by decide) (by decide) at_118 rfl 121 rfl (fun v195 T195 h195 X195 q195 => ?_)
    obtain ⟨rfl, rfl⟩ := q195
    show Go k n0 (Q0 k0 dx dy oOR oAN oEQ oNE oLT oLE oGT oGE oPL oMI oMU oDI oMO h0) 16 128 T195 121 #[.val (.int k0), .val (.int dx), .val (.int dy), .val (.ref b1), .val (.ref oGT), .val (.ref oLT), .unset, .unset, .unset, .unset, .unset] [(.ref oGT)]
    refine g_aload X195 at_121 rfl rfl 123 rfl ?_
    refine g_acmp X195 a_eq at_123 128 (by decide) (by decide) 126 rfl (fun h197 => ?_) (fun h197 => ?_)
    · skip
      refine g_aload X195 at_128 rfl rfl 130 rfl ?_
      have ft198 := ((((((((((((((FoGT.ext E1).other W18 (Or.inl ne8)).other W23 (Or.inl ne8)).other W28 (Or.inl ne8)).other W33 (Or.inl ne8)).other W38 (Or.inl ne8)).other W43 (Or.inl ne8)).other W48 (Or.inl ne8)).other W53 (Or.inl ne8)).other W58 (Or.inl ne8)).other W63 (Or.inl ne8)).other W68 (Or.inl ne8)).other W73 (Or.inl ne8)).other W78 (Or.inl ne8))
      refine g_callV X195 oGT [] [] (rm2 hw n0 oGT (3 : Int32) h78 ft198) ft194 (w40 hw) (w41 hw) (w43 hw) (w42 hw) (w3 hw) (w44 hw) (by decide) pd1 rfl rfl (by decide) (Nat.le_of_ble_eq_true rfl) (by decide) (by decide) at_130 rfl 133 rfl (fun v199 T199 h199 X199 q199 => ?_)
      obtain ⟨rfl, rfl⟩ := q199
      show Go k n0 (Q0 k0 dx dy oOR oAN oEQ oNE oLT oLE oGT oGE oPL oMI oMU oDI oMO h0) 16 128 T199 133 #[.val (.int k0), .val (.int dx), .val (.int dy), .val (.ref b1), .val (.ref oGT), .val (.ref oLT), .unset, .unset, .unset, .unset, .unset] [(.int (3 : Int32))]
      refine g_istore X199 at_133 #[.val (.int k0), .val (.int dx), .val (.int dy), .val (.ref b1), .val (.ref oGT), .val (.ref oLT), .val (.int (3 : Int32)), .unset, .unset, .unset, .unset] rfl 135 rfl ?_
      refine g_iload X199 at_135 rfl 137 rfl ?_
      refine g_iconst X199 (2 : Int32) at_137 rfl 138 rfl ?_
      refine g_icmp X199 i_eq at_138 147 (by decide) (by decide) 141 rfl (fun h200 => ?_) (fun h200 => ?_)
      · exact absurd h200 (by decide)
      · skip
        refine g_iload X199 at_141 rfl 143 rfl ?_
        refine g_iconst X199 (3 : Int32) at_143 rfl 144 rfl ?_
        refine g_icmpN X199 i_ne at_144 194 (by decide) (by decide) 147 rfl (fun h201 => ?_) (fun h201 => ?_)
        · skip
          refine g_aload X199 at_147 rfl rfl 149 rfl ?_
          have ft202 := ((((((((((((((FoLT.ext E1).other W18 (Or.inl ne6)).other W23 (Or.inl ne6)).other W28 (Or.inl ne6)).other W33 (Or.inl ne6)).other W38 (Or.inl ne6)).other W43 (Or.inl ne6)).other W48 (Or.inl ne6)).other W53 (Or.inl ne6)).other W58 (Or.inl ne6)).other W63 (Or.inl ne6)).other W68 (Or.inl ne6)).other W73 (Or.inl ne6)).other W78 (Or.inl ne6))
          refine g_callV X199 oLT [] [] (rm2 hw n0 oLT (3 : Int32) h78 ft202) ft196 (w40 hw) (w41 hw) (w43 hw) (w42 hw) (w3 hw) (w44 hw) (by decide) pd1 rfl rfl (by decide) (Nat.le_of_ble_eq_true rfl) (by decide) (by decide) at_149 rfl 152 rfl (fun v203 T203 h203 X203 q203 => ?_)
          obtain ⟨rfl, rfl⟩ := q203
          show Go k n0 (Q0 k0 dx dy oOR oAN oEQ oNE oLT oLE oGT oGE oPL oMI oMU oDI oMO h0) 16 128 T203 152 #[.val (.int k0), .val (.int dx), .val (.int dy), .val (.ref b1), .val (.ref oGT), .val (.ref oLT), .val (.int (3 : Int32)), .unset, .unset, .unset, .unset] [(.int (3 : Int32))]
          refine g_iload X203 at_152 rfl 154 rfl ?_
          refine g_icmp X203 i_eq at_154 159 (by decide) (by decide) 157 rfl (fun h204 => ?_) (fun h204 => ?_)
          · skip
            refine g_iloadN X203 at_159 rfl 160 rfl ?_
            refine g_i2d X203 at_160 161 rfl ?_
            refine g_dstore X203 at_161 #[.val (.int k0), .val (.int dx), .val (.int dy), .val (.ref b1), .val (.ref oGT), .val (.ref oLT), .val (.int (3 : Int32)), .val (.double (FP.i2d dx)), .second, .unset, .unset] rfl 163 rfl ?_
            refine g_iloadN X203 at_163 rfl 164 rfl ?_
            refine g_i2d X203 at_164 165 rfl ?_
            refine g_dstore X203 at_165 #[.val (.int k0), .val (.int dx), .val (.int dy), .val (.ref b1), .val (.ref oGT), .val (.ref oLT), .val (.int (3 : Int32)), .val (.double (FP.i2d dx)), .second, .val (.double (FP.i2d dy)), .second] rfl 167 rfl ?_
            refine g_aload X203 at_167 rfl rfl 169 rfl ?_
            refine g_dload X203 at_169 rfl 171 rfl ?_
            refine g_dload X203 at_171 rfl 173 rfl ?_
            have ft205 := (((((((((((ft26.wr W28).wr W33).wr W38).wr W43).wr W48).wr W53).wr W58).wr W63).wr W68).wr W73).wr W78)
            have ft206 := ((((((((((ft31.wr W33).wr W38).wr W43).wr W48).wr W53).wr W58).wr W63).wr W68).wr W73).wr W78)
            refine g_callV X203 oGT [(.double (FP.i2d dx)), (.double (FP.i2d dy))] [] (rm3 hw n0 oGT (FP.i2d dx) (FP.i2d dy) oEQ oNE oLT oLE oGT oGE h78 ft205 ft206 ft189 ft190 ft191 ft192 (Or.inr (Or.inr (Or.inr (Or.inr (Or.inl rfl)))))) ft194 (w47 hw) (w48 hw) (w50 hw) (w49 hw) (w3 hw) (w51 hw) (by decide) pd2 rfl rfl (by decide) (Nat.le_of_ble_eq_true rfl) (by decide) (by decide) at_173 rfl 176 rfl (fun v207 T207 h207 X207 q207 => ?_)
            obtain ⟨rfl, rfl⟩ := q207
            show Go k n0 (Q0 k0 dx dy oOR oAN oEQ oNE oLT oLE oGT oGE oPL oMI oMU oDI oMO h0) 16 128 T207 176 #[.val (.int k0), .val (.int dx), .val (.int dy), .val (.ref b1), .val (.ref oGT), .val (.ref oLT), .val (.int (3 : Int32)), .val (.double (FP.i2d dx)), .second, .val (.double (FP.i2d dy)), .second] [(.int (fC oGT oEQ oNE oLT oLE oGT oGE (FP.i2d dx) (FP.i2d dy)))]
            refine g_aload X207 at_176 rfl rfl 178 rfl ?_
            refine g_dload X207 at_178 rfl 180 rfl ?_
            refine g_dload X207 at_180 rfl 182 rfl ?_
            refine g_callV X207 oLT [(.double (FP.i2d dy)), (.double (FP.i2d dx))] [(.int (fC oGT oEQ oNE oLT oLE oGT oGE (FP.i2d dx) (FP.i2d dy)))] (rm3 hw n0 oLT (FP.i2d dy) (FP.i2d dx) oEQ oNE oLT oLE oGT oGE h78 ft205 ft206 ft189 ft190 ft191 ft192 (Or.inr (Or.inr (Or.inl rfl)))) ft196 (w47 hw) (w48 hw) (w50 hw) (w49 hw) (w3 hw) (w51 hw) (by decide) pd2 rfl rfl (by decide) (Nat.le_of_ble_eq_true rfl) (by decide) (by decide) at_182 rfl 185 rfl (fun v208 T208 h208 X208 q208 => ?_)
            obtain ⟨rfl, rfl⟩ := q208
            show Go k n0 (Q0 k0 dx dy oOR oAN oEQ oNE oLT oLE oGT oGE oPL oMI oMU oDI oMO h0) 16 128 T208 185 #[.val (.int k0), .val (.int dx), .val (.int dy), .val (.ref b1), .val (.ref oGT), .val (.ref oLT), .val (.int (3 : Int32)), .val (.double (FP.i2d dx)), .second, .val (.double (FP.i2d dy)), .second] [(.int (fC oLT oEQ oNE oLT oLE oGT oGE (FP.i2d dy) (FP.i2d dx))), (.int (fC oGT oEQ oNE oLT oLE oGT oGE (FP.i2d dx) (FP.i2d dy)))]
            have k193_11 : ∀ (v209 : Int32), (Q0 k0 dx dy oOR oAN oEQ oNE oLT oLE oGT oGE oPL oMI oMU oDI oMO h0) (some (.int (v209 &&& 1))) h78 → Go k n0 (Q0 k0 dx dy oOR oAN oEQ oNE oLT oLE oGT oGE oPL oMI oMU oDI oMO h0) 16 128 T208 193 #[.val (.int k0), .val (.int dx), .val (.int dy), .val (.ref b1), .val (.ref oGT), .val (.ref oLT), .val (.int (3 : Int32)), .val (.double (FP.i2d dx)), .second, .val (.double (FP.i2d dy)), .second] [(.int v209)] := by
              intro v209 hQ
              exact g_retZ X208 at_193 (by decide) (by decide) hQ
            refine g_icmpN X208 i_ne at_185 192 (by decide) (by decide) 188 rfl (fun h210 => ?_) (fun h210 => ?_)
            · skip
              refine g_iconst X208 (1 : Int32) at_188 rfl 189 rfl ?_
              refine g_goto X208 at_189 193 (by decide) (by decide) ?_
              exact k193_11 ((1 : Int32)) own_one
            · skip
              refine g_iconst X208 (0 : Int32) at_192 rfl 193 rfl ?_
              exact k193_11 ((0 : Int32)) (absurd ((by unfold fC; rw [if_neg n_oGT_oEQ, if_neg n_oGT_oNE, if_neg n_oGT_oLT, if_neg n_oGT_oLE, if_pos rfl] : fC oGT oEQ oNE oLT oLE oGT oGE (FP.i2d dx) (FP.i2d dy) = _).trans ((own_tri (P := (fun p q => (if 0 < p then (1 : Int32) else 0) = (if q < 0 then (1 : Int32) else 0))) dx dy (by decide) (by decide) (by decide) .l .g).trans (by unfold fC; rw [if_neg n_oLT_oEQ, if_neg n_oLT_oNE, if_pos rfl] : fC oLT oEQ oNE oLT oLE oGT oGE (FP.i2d dy) (FP.i2d dx) = _).symm)) h210)
          · exact absurd (by decide) h204
        · exact absurd (by decide) h201
    · exact absurd rfl h197
  · skip
    refine g_aaload X78 (AR.ai A78) rfl 7 hj (by decide) (.ref oGE) rfl at_99 100 rfl ?_
    refine g_astore X78 at_100 rfl #[.val (.int k0), .val (.int dx), .val (.int dy), .val (.ref b1), .val (.ref oGE), .unset, .unset, .unset, .unset, .unset, .unset] rfl 102 rfl ?_
    refine g_aload X78 at_102 rfl rfl 104 rfl ?_
    have ft211 := (((((((((ft36.wr W38).wr W43).wr W48).wr W53).wr W58).wr W63).wr W68).wr W73).wr W78)
    have ft212 := ((((((((ft41.wr W43).wr W48).wr W53).wr W58).wr W63).wr W68).wr W73).wr W78)
    have ft213 := (((((((ft46.wr W48).wr W53).wr W58).wr W63).wr W68).wr W73).wr W78)
    have ft214 := ((((((ft51.wr W53).wr W58).wr W63).wr W68).wr W73).wr W78)
    have ft216 := ((((((ft54.wr W53).wr W58).wr W63).wr W68).wr W73).wr W78)
    refine g_callV X78 oGE [] [] (rm1 hw n0 oGE oLT oLE oGT oGE oLE h78 ft211 ft212 ft213 ft214 (by unfold fM; rw [if_neg n_oGE_oLT, if_neg n_oGE_oLE, if_neg n_oGE_oGT, if_pos rfl])) ft216 (w31 hw) (w32 hw) (w34 hw) (w33 hw) (w3 hw) (w35 hw) (by decide) pd0 rfl rfl (by decide) (Nat.le_of_ble_eq_true rfl) (by decide) (by decide) at_104 rfl 107 rfl (fun v215 T215 h215 X215 q215 => ?_)
    obtain ⟨rfl, rfl⟩ := q215
    show Go k n0 (Q0 k0 dx dy oOR oAN oEQ oNE oLT oLE oGT oGE oPL oMI oMU oDI oMO h0) 16 128 T215 107 #[.val (.int k0), .val (.int dx), .val (.int dy), .val (.ref b1), .val (.ref oGE), .unset, .unset, .unset, .unset, .unset, .unset] [(.ref oLE)]
    refine g_astore X215 at_107 rfl #[.val (.int k0), .val (.int dx), .val (.int dy), .val (.ref b1), .val (.ref oGE), .val (.ref oLE), .unset, .unset, .unset, .unset, .unset] rfl 109 rfl ?_
    refine g_aload X215 at_109 rfl rfl 111 rfl ?_
    refine g_nonnullY X215 at_111 116 (by decide) (by decide) ?_
    refine g_aload X215 at_116 rfl rfl 118 rfl ?_
    have ft218 := ((((((((ft44.wr W43).wr W48).wr W53).wr W58).wr W63).wr W68).wr W73).wr W78)
    refine g_callV X215 oLE [] [] (rm1 hw n0 oLE oLT oLE oGT oGE oGE h78 ft211 ft212 ft213 ft214 (by unfold fM; rw [if_neg n_oLE_oLT, if_pos rfl])) ft218 (w31 hw) (w32 hw) (w34 hw) (w33 hw) (w3 hw) (w35 hw) (by decide) pd0 rfl rfl (by decide) (Nat.le_of_ble_eq_true rfl) (by decide) (by decide) at_118 rfl 121 rfl (fun v217 T217 h217 X217 q217 => ?_)
    obtain ⟨rfl, rfl⟩ := q217
    show Go k n0 (Q0 k0 dx dy oOR oAN oEQ oNE oLT oLE oGT oGE oPL oMI oMU oDI oMO h0) 16 128 T217 121 #[.val (.int k0), .val (.int dx), .val (.int dy), .val (.ref b1), .val (.ref oGE), .val (.ref oLE), .unset, .unset, .unset, .unset, .unset] [(.ref oGE)]
    refine g_aload X217 at_121 rfl rfl 123 rfl ?_
    refine g_acmp X217 a_eq at_123 128 (by decide) (by decide) 126 rfl (fun h219 => ?_) (fun h219 => ?_)
    · skip
      refine g_aload X217 at_128 rfl rfl 130 rfl ?_
      have ft220 := ((((((((((((((FoGE.ext E1).other W18 (Or.inl ne9)).other W23 (Or.inl ne9)).other W28 (Or.inl ne9)).other W33 (Or.inl ne9)).other W38 (Or.inl ne9)).other W43 (Or.inl ne9)).other W48 (Or.inl ne9)).other W53 (Or.inl ne9)).other W58 (Or.inl ne9)).other W63 (Or.inl ne9)).other W68 (Or.inl ne9)).other W73 (Or.inl ne9)).other W78 (Or.inl ne9))
      refine g_callV X217 oGE [] [] (rm2 hw n0 oGE (3 : Int32) h78 ft220) ft216 (w40 hw) (w41 hw) (w43 hw) (w42 hw) (w3 hw) (w44 hw) (by decide) pd1 rfl rfl (by decide) (Nat.le_of_ble_eq_true rfl) (by decide) (by decide) at_130 rfl 133 rfl (fun v221 T221 h221 X221 q221 => ?_)
      obtain ⟨rfl, rfl⟩ := q221
      show Go k n0 (Q0 k0 dx dy oOR oAN oEQ oNE oLT oLE oGT oGE oPL oMI oMU oDI oMO h0) 16 128 T221 133 #[.val (.int k0), .val (.int dx), .val (.int dy), .val (.ref b1), .val (.ref oGE), .val (.ref oLE), .unset, .unset, .unset, .unset, .unset] [(.int (3 : Int32))]
      refine g_istore X221 at_133 #[.val (.int k0), .val (.int dx), .val (.int dy), .val (.ref b1), .val (.ref oGE), .val (.ref oLE), .val (.int (3 : Int32)), .unset, .unset, .unset, .unset] rfl 135 rfl ?_
      refine g_iload X221 at_135 rfl 137 rfl ?_
      refine g_iconst X221 (2 : Int32) at_137 rfl 138 rfl ?_
      refine g_icmp X221 i_eq at_138 147 (by decide) (by decide) 141 rfl (fun h222 => ?_) (fun h222 => ?_)
      · exact absurd h222 (by decide)
      · skip
        refine g_iload X221 at_141 rfl 143 rfl ?_
        refine g_iconst X221 (3 : Int32) at_143 rfl 144 rfl ?_
        refine g_icmpN X221 i_ne at_144 194 (by decide) (by decide) 147 rfl (fun h223 => ?_) (fun h223 => ?_)
        · skip
          refine g_aload X221 at_147 rfl rfl 149 rfl ?_
          have ft224 := ((((((((((((((FoLE.ext E1).other W18 (Or.inl ne7)).other W23 (Or.inl ne7)).other W28 (Or.inl ne7)).other W33 (Or.inl ne7)).other W38 (Or.inl ne7)).other W43 (Or.inl ne7)).other W48 (Or.inl ne7)).other W53 (Or.inl ne7)).other W58 (Or.inl ne7)).other W63 (Or.inl ne7)).other W68 (Or.inl ne7)).other W73 (Or.inl ne7)).other W78 (Or.inl ne7))
          refine g_callV X221 oLE [] [] (rm2 hw n0 oLE (3 : Int32) h78 ft224) ft218 (w40 hw) (w41 hw) (w43 hw) (w42 hw) (w3 hw) (w44 hw) (by decide) pd1 rfl rfl (by decide) (Nat.le_of_ble_eq_true rfl) (by decide) (by decide) at_149 rfl 152 rfl (fun v225 T225 h225 X225 q225 => ?_)
          obtain ⟨rfl, rfl⟩ := q225
          show Go k n0 (Q0 k0 dx dy oOR oAN oEQ oNE oLT oLE oGT oGE oPL oMI oMU oDI oMO h0) 16 128 T225 152 #[.val (.int k0), .val (.int dx), .val (.int dy), .val (.ref b1), .val (.ref oGE), .val (.ref oLE), .val (.int (3 : Int32)), .unset, .unset, .unset, .unset] [(.int (3 : Int32))]
          refine g_iload X225 at_152 rfl 154 rfl ?_
          refine g_icmp X225 i_eq at_154 159 (by decide) (by decide) 157 rfl (fun h226 => ?_) (fun h226 => ?_)
          · skip
            refine g_iloadN X225 at_159 rfl 160 rfl ?_
            refine g_i2d X225 at_160 161 rfl ?_
            refine g_dstore X225 at_161 #[.val (.int k0), .val (.int dx), .val (.int dy), .val (.ref b1), .val (.ref oGE), .val (.ref oLE), .val (.int (3 : Int32)), .val (.double (FP.i2d dx)), .second, .unset, .unset] rfl 163 rfl ?_
            refine g_iloadN X225 at_163 rfl 164 rfl ?_
            refine g_i2d X225 at_164 165 rfl ?_
            refine g_dstore X225 at_165 #[.val (.int k0), .val (.int dx), .val (.int dy), .val (.ref b1), .val (.ref oGE), .val (.ref oLE), .val (.int (3 : Int32)), .val (.double (FP.i2d dx)), .second, .val (.double (FP.i2d dy)), .second] rfl 167 rfl ?_
            refine g_aload X225 at_167 rfl rfl 169 rfl ?_
            refine g_dload X225 at_169 rfl 171 rfl ?_
            refine g_dload X225 at_171 rfl 173 rfl ?_
            have ft227 := (((((((((((ft26.wr W28).wr W33).wr W38).wr W43).wr W48).wr W53).wr W58).wr W63).wr W68).wr W73).wr W78)
            have ft228 := ((((((((((ft31.wr W33).wr W38).wr W43).wr W48).wr W53).wr W58).wr W63).wr W68).wr W73).wr W78)
            refine g_callV X225 oGE [(.double (FP.i2d dx)), (.double (FP.i2d dy))] [] (rm3 hw n0 oGE (FP.i2d dx) (FP.i2d dy) oEQ oNE oLT oLE oGT oGE h78 ft227 ft228 ft211 ft212 ft213 ft214 (Or.inr (Or.inr (Or.inr (Or.inr (Or.inr rfl)))))) ft216 (w47 hw) (w48 hw) (w50 hw) (w49 hw) (w3 hw) (w51 hw) (by decide) pd2 rfl rfl (by decide) (Nat.le_of_ble_eq_true rfl) (by decide) (by decide) at_173 rfl 176 rfl (fun v229 T229 h229 X229 q229 => ?_)
            obtain ⟨rfl, rfl⟩ := q229
            show Go k n0 (Q0 k0 dx dy oOR oAN oEQ oNE oLT oLE oGT oGE oPL oMI oMU oDI oMO h0) 16 128 T229 176 #[.val (.int k0), .val (.int dx), .val (.int dy), .val (.ref b1), .val (.ref oGE), .val (.ref oLE), .val (.int (3 : Int32)), .val (.double (FP.i2d dx)), .second, .val (.double (FP.i2d dy)), .second] [(.int (fC oGE oEQ oNE oLT oLE oGT oGE (FP.i2d dx) (FP.i2d dy)))]
            refine g_aload X229 at_176 rfl rfl 178 rfl ?_
            refine g_dload X229 at_178 rfl 180 rfl ?_
            refine g_dload X229 at_180 rfl 182 rfl ?_
            refine g_callV X229 oLE [(.double (FP.i2d dy)), (.double (FP.i2d dx))] [(.int (fC oGE oEQ oNE oLT oLE oGT oGE (FP.i2d dx) (FP.i2d dy)))] (rm3 hw n0 oLE (FP.i2d dy) (FP.i2d dx) oEQ oNE oLT oLE oGT oGE h78 ft227 ft228 ft211 ft212 ft213 ft214 (Or.inr (Or.inr (Or.inr (Or.inl rfl))))) ft218 (w47 hw) (w48 hw) (w50 hw) (w49 hw) (w3 hw) (w51 hw) (by decide) pd2 rfl rfl (by decide) (Nat.le_of_ble_eq_true rfl) (by decide) (by decide) at_182 rfl 185 rfl (fun v230 T230 h230 X230 q230 => ?_)
            obtain ⟨rfl, rfl⟩ := q230
            show Go k n0 (Q0 k0 dx dy oOR oAN oEQ oNE oLT oLE oGT oGE oPL oMI oMU oDI oMO h0) 16 128 T230 185 #[.val (.int k0), .val (.int dx), .val (.int dy), .val (.ref b1), .val (.ref oGE), .val (.ref oLE), .val (.int (3 : Int32)), .val (.double (FP.i2d dx)), .second, .val (.double (FP.i2d dy)), .second] [(.int (fC oLE oEQ oNE oLT oLE oGT oGE (FP.i2d dy) (FP.i2d dx))), (.int (fC oGE oEQ oNE oLT oLE oGT oGE (FP.i2d dx) (FP.i2d dy)))]
            have k193_12 : ∀ (v231 : Int32), (Q0 k0 dx dy oOR oAN oEQ oNE oLT oLE oGT oGE oPL oMI oMU oDI oMO h0) (some (.int (v231 &&& 1))) h78 → Go k n0 (Q0 k0 dx dy oOR oAN oEQ oNE oLT oLE oGT oGE oPL oMI oMU oDI oMO h0) 16 128 T230 193 #[.val (.int k0), .val (.int dx), .val (.int dy), .val (.ref b1), .val (.ref oGE), .val (.ref oLE), .val (.int (3 : Int32)), .val (.double (FP.i2d dx)), .second, .val (.double (FP.i2d dy)), .second] [(.int v231)] := by
              intro v231 hQ
              exact g_retZ X230 at_193 (by decide) (by decide) hQ
            refine g_icmpN X230 i_ne at_185 192 (by decide) (by decide) 188 rfl (fun h232 => ?_) (fun h232 => ?_)
            · skip
              refine g_iconst X230 (1 : Int32) at_188 rfl 189 rfl ?_
              refine g_goto X230 at_189 193 (by decide) (by decide) ?_
              exact k193_12 ((1 : Int32)) own_one
            · skip
              refine g_iconst X230 (0 : Int32) at_192 rfl 193 rfl ?_
              exact k193_12 ((0 : Int32)) (absurd ((by unfold fC; rw [if_neg n_oGE_oEQ, if_neg n_oGE_oNE, if_neg n_oGE_oLT, if_neg n_oGE_oLE, if_neg n_oGE_oGT] : fC oGE oEQ oNE oLT oLE oGT oGE (FP.i2d dx) (FP.i2d dy) = _).trans ((own_tri (P := (fun p q => (if p < 0 then (0 : Int32) else 1) = (if 0 < q then (0 : Int32) else 1))) dx dy (by decide) (by decide) (by decide) .l .g).trans (by unfold fC; rw [if_neg n_oLE_oEQ, if_neg n_oLE_oNE, if_neg n_oLE_oLT, if_pos rfl] : fC oLE oEQ oNE oLT oLE oGT oGE (FP.i2d dy) (FP.i2d dx) = _).symm)) h232)
          · exact absurd (by decide) h226
        · exact absurd (by decide) h223
    · exact absurd rfl h219
  · skip
    refine g_aaload X78 (AR.ai A78) rfl 8 hj (by decide) (.ref oPL) rfl at_99 100 rfl ?_
    refine g_astore X78 at_100 rfl #[.val (.int k0), .val (.int dx), .val (.int dy), .val (.ref b1), .val (.ref oPL), .unset, .unset, .unset, .unset, .unset, .unset] rfl 102 rfl ?_
    refine g_aload X78 at_102 rfl rfl 104 rfl ?_
    have ft233 := (((((((((ft36.wr W38).wr W43).wr W48).wr W53).wr W58).wr W63).wr W68).wr W73).wr W78)
    have ft234 := ((((((((ft41.wr W43).wr W48).wr W53).wr W58).wr W63).wr W68).wr W73).wr W78)
    have ft235 := (((((((ft46.wr W48).wr W53).wr W58).wr W63).wr W68).wr W73).wr W78)
    have ft236 := ((((((ft51.wr W53).wr W58).wr W63).wr W68).wr W73).wr W78)
    have ft238 := (((((ft59.wr W58).wr W63).wr W68).wr W73).wr W78)
    refine g_callV X78 oPL [] [] (rm1 hw n0 oPL oLT oLE oGT oGE oPL h78 ft233 ft234 ft235 ft236 (by unfold fM; rw [if_neg n_oPL_oLT, if_neg n_oPL_oLE, if_neg n_oPL_oGT, if_neg n_oPL_oGE])) ft238 (w31 hw) (w32 hw) (w34 hw) (w33 hw) (w3 hw) (w35 hw) (by decide) pd0 rfl rfl (by decide) (Nat.le_of_ble_eq_true rfl) (by decide) (by decide) at_104 rfl 107 rfl (fun v237 T237 h237 X237 q237 => ?_)
    obtain ⟨rfl, rfl⟩ := q237
    show Go k n0 (Q0 k0 dx dy oOR oAN oEQ oNE oLT oLE oGT oGE oPL oMI oMU oDI oMO h0) 16 128 T237 107 #[.val (.int k0), .val (.int dx), .val (.int dy), .val (.ref b1), .val (.ref oPL), .unset, .unset, .unset, .unset, .unset, .unset] [(.ref oPL)]
    refine g_astore X237 at_107 rfl #[.val (.int k0), .val (.int dx), .val (.int dy), .val (.ref b1), .val (.ref oPL), .val (.ref oPL), .unset, .unset, .unset, .unset, .unset] rfl 109 rfl ?_
    refine g_aload X237 at_109 rfl rfl 111 rfl ?_
    refine g_nonnullY X237 at_111 116 (by decide) (by decide) ?_
    refine g_aload X237 at_116 rfl rfl 118 rfl ?_
    refine g_callV X237 oPL [] [] (rm1 hw n0 oPL oLT oLE oGT oGE oPL h78 ft233 ft234 ft235 ft236 (by unfold fM; rw [if_neg n_oPL_oLT, if_neg n_oPL_oLE, if_neg n_oPL_oGT, if_neg n_oPL_oGE])) ft238 (w31 hw) (w32 hw) (w34 hw) (w33 hw) (w3 hw) (w35 hw) (by decide) pd0 rfl rfl (by decide) (Nat.le_of_ble_eq_true rfl) (by decide) (by decide) at_118 rfl 121 rfl (fun v239 T239 h239 X239 q239 => ?_)
    obtain ⟨rfl, rfl⟩ := q239
    show Go k n0 (Q0 k0 dx dy oOR oAN oEQ oNE oLT oLE oGT oGE oPL oMI oMU oDI oMO h0) 16 128 T239 121 #[.val (.int k0), .val (.int dx), .val (.int dy), .val (.ref b1), .val (.ref oPL), .val (.ref oPL), .unset, .unset, .unset, .unset, .unset] [(.ref oPL)]
    refine g_aload X239 at_121 rfl rfl 123 rfl ?_
    refine g_acmp X239 a_eq at_123 128 (by decide) (by decide) 126 rfl (fun h240 => ?_) (fun h240 => ?_)
    · skip
      refine g_aload X239 at_128 rfl rfl 130 rfl ?_
      have ft241 := ((((((((((((((FoPL.ext E1).other W18 (Or.inl ne10)).other W23 (Or.inl ne10)).other W28 (Or.inl ne10)).other W33 (Or.inl ne10)).other W38 (Or.inl ne10)).other W43 (Or.inl ne10)).other W48 (Or.inl ne10)).other W53 (Or.inl ne10)).other W58 (Or.inl ne10)).other W63 (Or.inl ne10)).other W68 (Or.inl ne10)).other W73 (Or.inl ne10)).other W78 (Or.inl ne10))
      refine g_callV X239 oPL [] [] (rm2 hw n0 oPL (4 : Int32) h78 ft241) ft238 (w40 hw) (w41 hw) (w43 hw) (w42 hw) (w3 hw) (w44 hw) (by decide) pd1 rfl rfl (by decide) (Nat.le_of_ble_eq_true rfl) (by decide) (by decide) at_130 rfl 133 rfl (fun v242 T242 h242 X242 q242 => ?_)
      obtain ⟨rfl, rfl⟩ := q242
      show Go k n0 (Q0 k0 dx dy oOR oAN oEQ oNE oLT oLE oGT oGE oPL oMI oMU oDI oMO h0) 16 128 T242 133 #[.val (.int k0), .val (.int dx), .val (.int dy), .val (.ref b1), .val (.ref oPL), .val (.ref oPL), .unset, .unset, .unset, .unset, .unset] [(.int (4 : Int32))]
      refine g_istore X242 at_133 #[.val (.int k0), .val (.int dx), .val (.int dy), .val (.ref b1), .val (.ref oPL), .val (.ref oPL), .val (.int (4 : Int32)), .unset, .unset, .unset, .unset] rfl 135 rfl ?_
      refine g_iload X242 at_135 rfl 137 rfl ?_
      refine g_iconst X242 (2 : Int32) at_137 rfl 138 rfl ?_
      refine g_icmp X242 i_eq at_138 147 (by decide) (by decide) 141 rfl (fun h243 => ?_) (fun h243 => ?_)
      · exact absurd h243 (by decide)
      · skip
        refine g_iload X242 at_141 rfl 143 rfl ?_
        refine g_iconst X242 (3 : Int32) at_143 rfl 144 rfl ?_
        refine g_icmpN X242 i_ne at_144 194 (by decide) (by decide) 147 rfl (fun h244 => ?_) (fun h244 => ?_)
        · exact absurd h244 (by decide)
        · skip
          refine g_aload X242 at_194 rfl rfl 196 rfl ?_
          refine g_aload X242 at_196 rfl rfl 198 rfl ?_
          refine g_acmpNN X242 a_ne at_198 205 (by decide) (by decide) 201 rfl (fun h245 => ?_) (fun h245 => ?_)
          · skip
            refine g_iconst X242 (1 : Int32) at_201 rfl 202 rfl ?_
            refine g_goto X242 at_202 206 (by decide) (by decide) ?_
            exact g_retZ X242 at_206 (by decide) (by decide) own_one
          · exact absurd rfl h245
    · exact absurd rfl h240
  · skip
    refine g_aaload X78 (AR.ai A78) rfl 9 hj (by decide) (.ref oMI) rfl at_99 100 rfl ?_
    refine g_astore X78 at_100 rfl #[.val (.int k0), .val (.int dx), .val (.int dy), .val (.ref b1), .val (.ref oMI), .unset, .unset, .unset, .unset, .unset, .unset] rfl 102 rfl ?_
    refine g_aload X78 at_102 rfl rfl 104 rfl ?_
    have ft246 := (((((((((ft36.wr W38).wr W43).wr W48).wr W53).wr W58).wr W63).wr W68).wr W73).wr W78)
    have ft247 := ((((((((ft41.wr W43).wr W48).wr W53).wr W58).wr W63).wr W68).wr W73).wr W78)
    have ft248 := (((((((ft46.wr W48).wr W53).wr W58).wr W63).wr W68).wr W73).wr W78)
    have ft249 := ((((((ft51.wr W53).wr W58).wr W63).wr W68).wr W73).wr W78)
    have ft251 := ((((ft64.wr W63).wr W68).wr W73).wr W78)
    refine g_callV X78 oMI [] [] (rm1 hw n0 oMI oLT oLE oGT oGE oMI h78 ft246 ft247 ft248 ft249 (by unfold fM; rw [if_neg n_oMI_oLT, if_neg n_oMI_oLE, if_neg n_oMI_oGT, if_neg n_oMI_oGE])) ft251 (w31 hw) (w32 hw) (w34 hw) (w33 hw) (w3 hw) (w35 hw) (by decide) pd0 rfl rfl (by decide) (Nat.le_of_ble_eq_true rfl) (by decide) (by decide) at_104 rfl 107 rfl (fun v250 T250 h250 X250 q250 => ?_)
    obtain ⟨rfl, rfl⟩ := q250
    show Go k n0 (Q0 k0 dx dy oOR oAN oEQ oNE oLT oLE oGT oGE oPL oMI oMU oDI oMO h0) 16 128 T250 107 #[.val (.int k0), .val (.int dx), .val (.int dy), .val (.ref b1), .val (.ref oMI), .unset, .unset, .unset, .unset, .unset, .unset] [(.ref oMI)]
    refine g_astore X250 at_107 rfl #[.val (.int k0), .val (.int dx), .val (.int dy), .val (.ref b1), .val (.ref oMI), .val (.ref oMI), .unset, .unset, .unset, .unset, .unset] rfl 109 rfl ?_
    refine g_aload X250 at_109 rfl rfl 111 rfl ?_
    refine g_nonnullY X250 at_111 116 (by decide) (by decide) ?_
    refine g_aload X250 at_116 rfl rfl 118 rfl ?_
    refine g_callV X250 oMI [] [] (rm1 hw n0 oMI oLT oLE oGT oGE oMI h78 ft246 ft247 ft248 ft249 (by unfold fM; rw [if_neg n_oMI_oLT, if_neg n_oMI_oLE, if_neg n_oMI_oGT, if_neg n_oMI_oGE])) ft251 (w31 hw) (w32 hw) (w34 hw) (w33 hw) (w3 hw) (w35 hw) (by decide) pd0 rfl rfl (by decide) (Nat.le_of_ble_eq_true rfl) (by decide) (by decide) at_118 rfl 121 rfl (fun v252 T252 h252 X252 q252 => ?_)
    obtain ⟨rfl, rfl⟩ := q252
    show Go k n0 (Q0 k0 dx dy oOR oAN oEQ oNE oLT oLE oGT oGE oPL oMI oMU oDI oMO h0) 16 128 T252 121 #[.val (.int k0), .val (.int dx), .val (.int dy), .val (.ref b1), .val (.ref oMI), .val (.ref oMI), .unset, .unset, .unset, .unset, .unset] [(.ref oMI)]
    refine g_aload X252 at_121 rfl rfl 123 rfl ?_
    refine g_acmp X252 a_eq at_123 128 (by decide) (by decide) 126 rfl (fun h253 => ?_) (fun h253 => ?_)
    · skip
      refine g_aload X252 at_128 rfl rfl 130 rfl ?_
      have ft254 := ((((((((((((((FoMI.ext E1).other W18 (Or.inl ne11)).other W23 (Or.inl ne11)).other W28 (Or.inl ne11)).other W33 (Or.inl ne11)).other W38 (Or.inl ne11)).other W43 (Or.inl ne11)).other W48 (Or.inl ne11)).other W53 (Or.inl ne11)).other W58 (Or.inl ne11)).other W63 (Or.inl ne11)).other W68 (Or.inl ne11)).other W73 (Or.inl ne11)).other W78 (Or.inl ne11))
      refine g_callV X252 oMI [] [] (rm2 hw n0 oMI (4 : Int32) h78 ft254) ft251 (w40 hw) (w41 hw) (w43 hw) (w42 hw) (w3 hw) (w44 hw) (by decide) pd1 rfl rfl (by decide) (Nat.le_of_ble_eq_true rfl) (by decide) (by decide) at_130 rfl 133 rfl (fun v255 T255 h255 X255 q255 => ?_)
      obtain ⟨rfl, rfl⟩ := q255
      show Go k n0 (Q0 k0 dx dy oOR oAN oEQ oNE oLT oLE oGT oGE oPL oMI oMU oDI oMO h0) 16 128 T255 133 #[.val (.int k0), .val (.int dx), .val (.int dy), .val (.ref b1), .val (.ref oMI), .val (.ref oMI), .unset, .unset, .unset, .unset, .unset] [(.int (4 : Int32))]
      refine g_istore X255 at_133 #[.val (.int k0), .val (.int dx), .val (.int dy), .val (.ref b1), .val (.ref oMI), .val (.ref oMI), .val (.int (4 : Int32)), .unset, .unset, .unset, .unset] rfl 135 rfl ?_
      refine g_iload X255 at_135 rfl 137 rfl ?_
      refine g_iconst X255 (2 : Int32) at_137 rfl 138 rfl ?_
      refine g_icmp X255 i_eq at_138 147 (by decide) (by decide) 141 rfl (fun h256 => ?_) (fun h256 => ?_)
      · exact absurd h256 (by decide)
      · skip
        refine g_iload X255 at_141 rfl 143 rfl ?_
        refine g_iconst X255 (3 : Int32) at_143 rfl 144 rfl ?_
        refine g_icmpN X255 i_ne at_144 194 (by decide) (by decide) 147 rfl (fun h257 => ?_) (fun h257 => ?_)
        · exact absurd h257 (by decide)
        · skip
          refine g_aload X255 at_194 rfl rfl 196 rfl ?_
          refine g_aload X255 at_196 rfl rfl 198 rfl ?_
          refine g_acmpNN X255 a_ne at_198 205 (by decide) (by decide) 201 rfl (fun h258 => ?_) (fun h258 => ?_)
          · skip
            refine g_iconst X255 (1 : Int32) at_201 rfl 202 rfl ?_
            refine g_goto X255 at_202 206 (by decide) (by decide) ?_
            exact g_retZ X255 at_206 (by decide) (by decide) own_one
          · exact absurd rfl h258
    · exact absurd rfl h253
  · skip
    refine g_aaload X78 (AR.ai A78) rfl 10 hj (by decide) (.ref oMU) rfl at_99 100 rfl ?_
    refine g_astore X78 at_100 rfl #[.val (.int k0), .val (.int dx), .val (.int dy), .val (.ref b1), .val (.ref oMU), .unset, .unset, .unset, .unset, .unset, .unset] rfl 102 rfl ?_
    refine g_aload X78 at_102 rfl rfl 104 rfl ?_
    have ft259 := (((((((((ft36.wr W38).wr W43).wr W48).wr W53).wr W58).wr W63).wr W68).wr W73).wr W78)
    have ft260 := ((((((((ft41.wr W43).wr W48).wr W53).wr W58).wr W63).wr W68).wr W73).wr W78)
    have ft261 := (((((((ft46.wr W48).wr W53).wr W58).wr W63).wr W68).wr W73).wr W78)
    have ft262 := ((((((ft51.wr W53).wr W58).wr W63).wr W68).wr W73).wr W78)
    have ft264 := (((ft69.wr W68).wr W73).wr W78)
    refine g_callV X78 oMU [] [] (rm1 hw n0 oMU oLT oLE oGT oGE oMU h78 ft259 ft260 ft261 ft262 (by unfold fM; rw [if_neg n_oMU_oLT, if_neg n_oMU_oLE, if_neg n_oMU_oGT, if_neg n_oMU_oGE])) ft264 (w31 hw) (w32 hw) (w34 hw) (w33 hw) (w3 hw) (w35 hw) (by decide) pd0 rfl rfl (by decide) (Nat.le_of_ble_eq_true rfl) (by decide) (by decide) at_104 rfl 107 rfl (fun v263 T263 h263 X263 q263 => ?_)
    obtain ⟨rfl, rfl⟩ := q263
    show Go k n0 (Q0 k0 dx dy oOR oAN oEQ oNE oLT oLE oGT oGE oPL oMI oMU oDI oMO h0) 16 128 T263 107 #[.val (.int k0), .val (.int dx), .val (.int dy), .val (.ref b1), .val (.ref oMU), .unset, .unset, .unset, .unset, .unset, .unset] [(.ref oMU)]
    refine g_astore X263 at_107 rfl #[.val (.int k0), .val (.int dx), .val (.int dy), .val (.ref b1), .val (.ref oMU), .val (.ref oMU), .unset, .unset, .unset, .unset, .unset] rfl 109 rfl ?_
    refine g_aload X263 at_109 rfl rfl 111 rfl ?_
    refine g_nonnullY X263 at_111 116 (by decide) (by decide) ?_
    refine g_aload X263 at_116 rfl rfl 118 rfl ?_
    refine g_callV X263 oMU [] [] (rm1 hw n0 oMU oLT oLE oGT oGE oMU h78 ft259 ft260 ft261 ft262 (by unfold fM; rw [if_neg n_oMU_oLT, if_neg n_oMU_oLE, if_neg n_oMU_oGT, if_neg n_oMU_oGE])) ft264 (w31 hw) (w32 hw) (w34 hw) (w33 hw) (w3 hw) (w35 hw) (by decide) pd0 rfl rfl (by decide) (Nat.le_of_ble_eq_true rfl) (by decide) (by decide) at_118 rfl 121 rfl (fun v265 T265 h265 X265 q265 => ?_)
    obtain ⟨rfl, rfl⟩ := q265
    show Go k n0 (Q0 k0 dx dy oOR oAN oEQ oNE oLT oLE oGT oGE oPL oMI oMU oDI oMO h0) 16 128 T265 121 #[.val (.int k0), .val (.int dx), .val (.int dy), .val (.ref b1), .val (.ref oMU), .val (.ref oMU), .unset, .unset, .unset, .unset, .unset] [(.ref oMU)]
    refine g_aload X265 at_121 rfl rfl 123 rfl ?_
    refine g_acmp X265 a_eq at_123 128 (by decide) (by decide) 126 rfl (fun h266 => ?_) (fun h266 => ?_)
    · skip
      refine g_aload X265 at_128 rfl rfl 130 rfl ?_
      have ft267 := ((((((((((((((FoMU.ext E1).other W18 (Or.inl ne12)).other W23 (Or.inl ne12)).other W28 (Or.inl ne12)).other W33 (Or.inl ne12)).other W38 (Or.inl ne12)).other W43 (Or.inl ne12)).other W48 (Or.inl ne12)).other W53 (Or.inl ne12)).other W58 (Or.inl ne12)).other W63 (Or.inl ne12)).other W68 (Or.inl ne12)).other W73 (Or.inl ne12)).other W78 (Or.inl ne12))
      refine g_callV X265 oMU [] [] (rm2 hw n0 oMU (5 : Int32) h78 ft267) ft264 (w40 hw) (w41 hw) (w43 hw) (w42 hw) (w3 hw) (w44 hw) (by decide) pd1 rfl rfl (by decide) (Nat.le_of_ble_eq_true rfl) (by decide) (by decide) at_130 rfl 133 rfl (fun v268 T268 h268 X268 q268 => ?_)
      obtain ⟨rfl, rfl⟩ := q268
      show Go k n0 (Q0 k0 dx dy oOR oAN oEQ oNE oLT oLE oGT oGE oPL oMI oMU oDI oMO h0) 16 128 T268 133 #[.val (.int k0), .val (.int dx), .val (.int dy), .val (.ref b1), .val (.ref oMU), .val (.ref oMU), .unset, .unset, .unset, .unset, .unset] [(.int (5 : Int32))]
      refine g_istore X268 at_133 #[.val (.int k0), .val (.int dx), .val (.int dy), .val (.ref b1), .val (.ref oMU), .val (.ref oMU), .val (.int (5 : Int32)), .unset, .unset, .unset, .unset] rfl 135 rfl ?_
      refine g_iload X268 at_135 rfl 137 rfl ?_
      refine g_iconst X268 (2 : Int32) at_137 rfl 138 rfl ?_
      refine g_icmp X268 i_eq at_138 147 (by decide) (by decide) 141 rfl (fun h269 => ?_) (fun h269 => ?_)
      · exact absurd h269 (by decide)
      · skip
        refine g_iload X268 at_141 rfl 143 rfl ?_
        refine g_iconst X268 (3 : Int32) at_143 rfl 144 rfl ?_
        refine g_icmpN X268 i_ne at_144 194 (by decide) (by decide) 147 rfl (fun h270 => ?_) (fun h270 => ?_)
        · exact absurd h270 (by decide)
        · skip
          refine g_aload X268 at_194 rfl rfl 196 rfl ?_
          refine g_aload X268 at_196 rfl rfl 198 rfl ?_
          refine g_acmpNN X268 a_ne at_198 205 (by decide) (by decide) 201 rfl (fun h271 => ?_) (fun h271 => ?_)
          · skip
            refine g_iconst X268 (1 : Int32) at_201 rfl 202 rfl ?_
            refine g_goto X268 at_202 206 (by decide) (by decide) ?_
            exact g_retZ X268 at_206 (by decide) (by decide) own_one
          · exact absurd rfl h271
    · exact absurd rfl h266
  · skip
    refine g_aaload X78 (AR.ai A78) rfl 11 hj (by decide) (.ref oDI) rfl at_99 100 rfl ?_
    refine g_astore X78 at_100 rfl #[.val (.int k0), .val (.int dx), .val (.int dy), .val (.ref b1), .val (.ref oDI), .unset, .unset, .unset, .unset, .unset, .unset] rfl 102 rfl ?_
    refine g_aload X78 at_102 rfl rfl 104 rfl ?_
    have ft272 := (((((((((ft36.wr W38).wr W43).wr W48).wr W53).wr W58).wr W63).wr W68).wr W73).wr W78)
    have ft273 := ((((((((ft41.wr W43).wr W48).wr W53).wr W58).wr W63).wr W68).wr W73).wr W78)
    have ft274 := (((((((ft46.wr W48).wr W53).wr W58).wr W63).wr W68).wr W73).wr W78)
    have ft275 := ((((((ft51.wr W53).wr W58).wr W63).wr W68).wr W73).wr W78)
    have ft277 := ((ft74.wr W73).wr W78)
    refine g_callV X78 oDI [] [] (rm1 hw n0 oDI oLT oLE oGT oGE oDI h78 ft272 ft273 ft274 ft275 (by unfold fM; rw [if_neg n_oDI_oLT, if_neg n_oDI_oLE, if_neg n_oDI_oGT, if_neg n_oDI_oGE])) ft277 (w31 hw) (w32 hw) (w34 hw) (w33 hw) (w3 hw) (w35 hw) (by decide) pd0 rfl rfl (by decide) (Nat.le_of_ble_eq_true rfl) (by decide) (by decide) at_104 rfl 107 rfl (fun v276 T276 h276 X276 q276 => ?_)
    obtain ⟨rfl, rfl⟩ := q276
    show Go k n0 (Q0 k0 dx dy oOR oAN oEQ oNE oLT oLE oGT oGE oPL oMI oMU oDI oMO h0) 16 128 T276 107 #[.val (.int k0), .val (.int dx), .val (.int dy), .val (.ref b1), .val (.ref oDI), .unset, .unset, .unset, .unset, .unset, .unset] [(.ref oDI)]
    refine g_astore X276 at_107 rfl #[.val (.int k0), .val (.int dx), .val (.int dy), .val (.ref b1), .val (.ref oDI), .val (.ref oDI), .unset, .unset, .unset, .unset, .unset] rfl 109 rfl ?_
    refine g_aload X276 at_109 rfl rfl 111 rfl ?_
    refine g_nonnullY X276 at_111 116 (by decide) (by decide) ?_
    refine g_aload X276 at_116 rfl rfl 118 rfl ?_
    refine g_callV X276 oDI [] [] (rm1 hw n0 oDI oLT oLE oGT oGE oDI h78 ft272 ft273 ft274 ft275 (by unfold fM; rw [if_neg n_oDI_oLT, if_neg n_oDI_oLE, if_neg n_oDI_oGT, if_neg n_oDI_oGE])) ft277 (w31 hw) (w32 hw) (w34 hw) (w33 hw) (w3 hw) (w35 hw) (by decide) pd0 rfl rfl (by decide) (Nat.le_of_ble_eq_true rfl) (by decide) (by decide) at_118 rfl 121 rfl (fun v278 T278 h278 X278 q278 => ?_)
    obtain ⟨rfl, rfl⟩ := q278
    show Go k n0 (Q0 k0 dx dy oOR oAN oEQ oNE oLT oLE oGT oGE oPL oMI oMU oDI oMO h0) 16 128 T278 121 #[.val (.int k0), .val (.int dx), .val (.int dy), .val (.ref b1), .val (.ref oDI), .val (.ref oDI), .unset, .unset, .unset, .unset, .unset] [(.ref oDI)]
    refine g_aload X278 at_121 rfl rfl 123 rfl ?_
    refine g_acmp X278 a_eq at_123 128 (by decide) (by decide) 126 rfl (fun h279 => ?_) (fun h279 => ?_)
    · skip
      refine g_aload X278 at_128 rfl rfl 130 rfl ?_
      have ft280 := ((((((((((((((FoDI.ext E1).other W18 (Or.inl ne13)).other W23 (Or.inl ne13)).other W28 (Or.inl ne13)).other W33 (Or.inl ne13)).other W38 (Or.inl ne13)).other W43 (Or.inl ne13)).other W48 (Or.inl ne13)).other W53 (Or.inl ne13)).other W58 (Or.inl ne13)).other W63 (Or.inl ne13)).other W68 (Or.inl ne13)).other W73 (Or.inl ne13)).other W78 (Or.inl ne13))
      refine g_callV X278 oDI [] [] (rm2 hw n0 oDI (5 : Int32) h78 ft280) ft277 (w40 hw) (w41 hw) (w43 hw) (w42 hw) (w3 hw) (w44 hw) (by decide) pd1 rfl rfl (by decide) (Nat.le_of_ble_eq_true rfl) (by decide) (by decide) at_130 rfl 133 rfl (fun v281 T281 h281 X281 q281 => ?_)
      obtain ⟨rfl, rfl⟩ := q281
      show Go k n0 (Q0 k0 dx dy oOR oAN oEQ oNE oLT oLE oGT oGE oPL oMI oMU oDI oMO h0) 16 128 T281 133 #[.val (.int k0), .val (.int dx), .val (.int dy), .val (.ref b1), .val (.ref oDI), .val (.ref oDI), .unset, .unset, .unset, .unset, .unset] [(.int (5 : Int32))]
      refine g_istore X281 at_133 #[.val (.int k0), .val (.int dx), .val (.int dy), .val (.ref b1), .val (.ref oDI), .val (.ref oDI), .val (.int (5 : Int32)), .unset, .unset, .unset, .unset] rfl 135 rfl ?_
      refine g_iload X281 at_135 rfl 137 rfl ?_
      refine g_iconst X281 (2 : Int32) at_137 rfl 138 rfl ?_
      refine g_icmp X281 i_eq at_138 147 (by decide) (by decide) 141 rfl (fun h282 => ?_) (fun h282 => ?_)
      · exact absurd h282 (by decide)
      · skip
        refine g_iload X281 at_141 rfl 143 rfl ?_
        refine g_iconst X281 (3 : Int32) at_143 rfl 144 rfl ?_
        refine g_icmpN X281 i_ne at_144 194 (by decide) (by decide) 147 rfl (fun h283 => ?_) (fun h283 => ?_)
        · exact absurd h283 (by decide)
        · skip
          refine g_aload X281 at_194 rfl rfl 196 rfl ?_
          refine g_aload X281 at_196 rfl rfl 198 rfl ?_
          refine g_acmpNN X281 a_ne at_198 205 (by decide) (by decide) 201 rfl (fun h284 => ?_) (fun h284 => ?_)
          · skip
            refine g_iconst X281 (1 : Int32) at_201 rfl 202 rfl ?_
            refine g_goto X281 at_202 206 (by decide) (by decide) ?_
            exact g_retZ X281 at_206 (by decide) (by decide) own_one
          · exact absurd rfl h284
    · exact absurd rfl h279
  · skip
    refine g_aaload X78 (AR.ai A78) rfl 12 hj (by decide) (.ref oMO) rfl at_99 100 rfl ?_
    refine g_astore X78 at_100 rfl #[.val (.int k0), .val (.int dx), .val (.int dy), .val (.ref b1), .val (.ref oMO), .unset, .unset, .unset, .unset, .unset, .unset] rfl 102 rfl ?_
    refine g_aload X78 at_102 rfl rfl 104 rfl ?_
    have ft285 := (((((((((ft36.wr W38).wr W43).wr W48).wr W53).wr W58).wr W63).wr W68).wr W73).wr W78)
    have ft286 := ((((((((ft41.wr W43).wr W48).wr W53).wr W58).wr W63).wr W68).wr W73).wr W78)
    have ft287 := (((((((ft46.wr W48).wr W53).wr W58).wr W63).wr W68).wr W73).wr W78)
    have ft288 := ((((((ft51.wr W53).wr W58).wr W63).wr W68).wr W73).wr W78)
    have ft290 := (ft79.wr W78)
    refine g_callV X78 oMO [] [] (rm1 hw n0 oMO oLT oLE oGT oGE oMO h78 ft285 ft286 ft287 ft288 (by unfold fM; rw [if_neg n_oMO_oLT, if_neg n_oMO_oLE, if_neg n_oMO_oGT, if_neg n_oMO_oGE])) ft290 (w31 hw) (w32 hw) (w34 hw) (w33 hw) (w3 hw) (w35 hw) (by decide) pd0 rfl rfl (by decide) (Nat.le_of_ble_eq_true rfl) (by decide) (by decide) at_104 rfl 107 rfl (fun v289 T289 h289 X289 q289 => ?_)
    obtain ⟨rfl, rfl⟩ := q289
    show Go k n0 (Q0 k0 dx dy oOR oAN oEQ oNE oLT oLE oGT oGE oPL oMI oMU oDI oMO h0) 16 128 T289 107 #[.val (.int k0), .val (.int dx), .val (.int dy), .val (.ref b1), .val (.ref oMO), .unset, .unset, .unset, .unset, .unset, .unset] [(.ref oMO)]
    refine g_astore X289 at_107 rfl #[.val (.int k0), .val (.int dx), .val (.int dy), .val (.ref b1), .val (.ref oMO), .val (.ref oMO), .unset, .unset, .unset, .unset, .unset] rfl 109 rfl ?_
    refine g_aload X289 at_109 rfl rfl 111 rfl ?_
    refine g_nonnullY X289 at_111 116 (by decide) (by decide) ?_
    refine g_aload X289 at_116 rfl rfl 118 rfl ?_
    refine g_callV X289 oMO [] [] (rm1 hw n0 oMO oLT oLE oGT oGE oMO h78 ft285 ft286 ft287 ft288 (by unfold fM; rw [if_neg n_oMO_oLT, if_neg n_oMO_oLE, if_neg n_oMO_oGT, if_neg n_oMO_oGE])) ft290 (w31 hw) (w32 hw) (w34 hw) (w33 hw) (w3 hw) (w35 hw) (by decide) pd0 rfl rfl (by decide) (Nat.le_of_ble_eq_true rfl) (by decide) (by decide) at_118 rfl 121 rfl (fun v291 T291 h291 X291 q291 => ?_)
    obtain ⟨rfl, rfl⟩ := q291
    show Go k n0 (Q0 k0 dx dy oOR oAN oEQ oNE oLT oLE oGT oGE oPL oMI oMU oDI oMO h0) 16 128 T291 121 #[.val (.int k0), .val (.int dx), .val (.int dy), .val (.ref b1), .val (.ref oMO), .val (.ref oMO), .unset, .unset, .unset, .unset, .unset] [(.ref oMO)]
    refine g_aload X291 at_121 rfl rfl 123 rfl ?_
    refine g_acmp X291 a_eq at_123 128 (by decide) (by decide) 126 rfl (fun h292 => ?_) (fun h292 => ?_)
    · skip
      refine g_aload X291 at_128 rfl rfl 130 rfl ?_
      have ft293 := ((((((((((((((FoMO.ext E1).other W18 (Or.inl ne14)).other W23 (Or.inl ne14)).other W28 (Or.inl ne14)).other W33 (Or.inl ne14)).other W38 (Or.inl ne14)).other W43 (Or.inl ne14)).other W48 (Or.inl ne14)).other W53 (Or.inl ne14)).other W58 (Or.inl ne14)).other W63 (Or.inl ne14)).other W68 (Or.inl ne14)).other W73 (Or.inl ne14)).other W78 (Or.inl ne14))
      refine g_callV X291 oMO [] [] (rm2 hw n0 oMO (5 : Int32) h78 ft293) ft290 (w40 hw) (w41 hw) (w43 hw) (w42 hw) (w3 hw) (w44 hw) (by decide) pd1 rfl rfl (by decide) (Nat.le_of_ble_eq_true rfl) (by decide) (by decide) at_130 rfl 133 rfl (fun v294 T294 h294 X294 q294 => ?_)
      obtain ⟨rfl, rfl⟩ := q294
      show Go k n0 (Q0 k0 dx dy oOR oAN oEQ oNE oLT oLE oGT oGE oPL oMI oMU oDI oMO h0) 16 128 T294 133 #[.val (.int k0), .val (.int dx), .val (.int dy), .val (.ref b1), .val (.ref oMO), .val (.ref oMO), .unset, .unset, .unset, .unset, .unset] [(.int (5 : Int32))]
      refine g_istore X294 at_133 #[.val (.int k0), .val (.int dx), .val (.int dy), .val (.ref b1), .val (.ref oMO), .val (.ref oMO), .val (.int (5 : Int32)), .unset, .unset, .unset, .unset] rfl 135 rfl ?_
      refine g_iload X294 at_135 rfl 137 rfl ?_
      refine g_iconst X294 (2 : Int32) at_137 rfl 138 rfl ?_
      refine g_icmp X294 i_eq at_138 147 (by decide) (by decide) 141 rfl (fun h295 => ?_) (fun h295 => ?_)
      · exact absurd h295 (by decide)
      · skip
        refine g_iload X294 at_141 rfl 143 rfl ?_
        refine g_iconst X294 (3 : Int32) at_143 rfl 144 rfl ?_
        refine g_icmpN X294 i_ne at_144 194 (by decide) (by decide) 147 rfl (fun h296 => ?_) (fun h296 => ?_)
        · exact absurd h296 (by decide)
        · skip
          refine g_aload X294 at_194 rfl rfl 196 rfl ?_
          refine g_aload X294 at_196 rfl rfl 198 rfl ?_
          refine g_acmpNN X294 a_ne at_198 205 (by decide) (by decide) 201 rfl (fun h297 => ?_) (fun h297 => ?_)
          · skip
            refine g_iconst X294 (1 : Int32) at_201 rfl 202 rfl ?_
            refine g_goto X294 at_202 206 (by decide) (by decide) ?_
            exact g_retZ X294 at_206 (by decide) (by decide) own_one
          · exact absurd rfl h297
    · exact absurd rfl h292
set_option maxRecDepth 65536 in
set_option maxHeartbeats 40000000 in
theorem comes_1 {Post : Tables → Env → Array Value → State → Outcome → State → Prop} (hpost : ∀ tb e args s v u, (limb_1_1.after args s (.returned v) u = true ∧ limb_1_2.after args s (.returned v) u = true ∧ True) → FrameEnd s (.returned v) u (Jvm.fieldLocs frame_1_writes args s ++ Jvm.arrayLocs frame_1_arrays args s ++ Jvm.staticLocs frame_1_statics s) 16 128 → Post tb e args s (.returned v) u) :
    ArmFor flags0 classFile x code maxLocals ret World_1 tables_1 room_1 Calls_1 rest_1 Pre_1 Post := by
  intro l hfl _ _ p e ha hc hk s m args below hf hA hF happ hP
  obtain ⟨hcalls, hrest, hpre⟩ := hP
  obtain ⟨-, -, -, hnamed, -, -, -, hat⟩ := (Spec.applies_iff hf).mp happ
  obtain ⟨hg, hn⟩ := and_e (Cond.before_iff.mp (show (Jvm.Cond.and given_1 narrow_1).before args s = true from hpre))
  obtain ⟨hcount, g0⟩ := and_e hg
  obtain ⟨q0, g1⟩ := and_e g0
  obtain ⟨q1, g2⟩ := and_e g1
  have q2 := g2
  obtain ⟨w0, w1, w2, rfl⟩ : ∃ w0 w1 w2 : Value, args = #[w0, w1, w2] := by
    have hs : args.size = 3 := by simpa [Cond.value, given_1] using hcount
    obtain ⟨L⟩ := args
    match L, hs with
    | [w0, w1, w2], _ => exact ⟨w0, w1, w2, rfl⟩
  have hw := fun d (hd : d ∈ tables_1) => atoms_spec (ws := Jvm.Cond.code x code maxLocals ret :: tables_1) hat d (List.mem_cons_of_mem _ hd)
  have hfit : Fit s := fun {y c} hc i hi => by
    obtain ⟨ha, rfl⟩ := Array.getElem?_eq_some_iff.mp hc
    have q := List.all_eq_true.mp ((Array.all_eq_true_iff_forall_mem.mp hF) _ (Array.getElem_mem ha)) i (List.mem_range.mpr hi)
    simpa [Array.getElem?_eq_getElem hi] using q
  obtain ⟨i0, e0⟩ := is_v q0
  obtain rfl : w0 = (.int i0) := Option.some.inj e0
  obtain ⟨i1, e1⟩ := is_v q1
  obtain rfl : w1 = (.int i1) := Option.some.inj e1
  obtain ⟨i2, e2⟩ := is_v q2
  obtain rfl : w2 = (.int i2) := Option.some.inj e2
  obtain ⟨m0, hn0⟩ := and_e hn
  obtain ⟨m1, hn1⟩ := and_e hn0
  obtain ⟨m2, hn2⟩ := and_e hn1
  obtain ⟨m3, hn3⟩ := and_e hn2
  obtain ⟨m4, hn4⟩ := and_e hn3
  obtain ⟨m5, hn5⟩ := and_e hn4
  obtain ⟨m6, hn6⟩ := and_e hn5
  obtain ⟨m7, hn7⟩ := and_e hn6
  obtain ⟨m8, hn8⟩ := and_e hn7
  obtain ⟨m9, hn9⟩ := and_e hn8
  obtain ⟨m10, hn10⟩ := and_e hn9
  obtain ⟨m11, hn11⟩ := and_e hn10
  obtain ⟨m12, hn12⟩ := and_e hn11
  obtain ⟨m13, hn13⟩ := and_e hn12
  obtain ⟨m14, hn14⟩ := and_e hn13
  obtain ⟨m15, hn15⟩ := and_e hn14
  obtain ⟨m16, hn16⟩ := and_e hn15
  obtain ⟨m17, hn17⟩ := and_e hn16
  obtain ⟨m18, hn18⟩ := and_e hn17
  obtain ⟨m19, hn19⟩ := and_e hn18
  obtain ⟨m20, hn20⟩ := and_e hn19
  obtain ⟨m21, hn21⟩ := and_e hn20
  obtain ⟨m22, hn22⟩ := and_e hn21
  obtain ⟨m23, hn23⟩ := and_e hn22
  obtain ⟨m24, hn24⟩ := and_e hn23
  obtain ⟨m25, hn25⟩ := and_e hn24
  obtain ⟨m26, hn26⟩ := and_e hn25
  obtain ⟨m27, hn27⟩ := and_e hn26
  obtain ⟨m28, hn28⟩ := and_e hn27
  obtain ⟨m29, hn29⟩ := and_e hn28
  obtain ⟨m30, hn30⟩ := and_e hn29
  obtain ⟨m31, hn31⟩ := and_e hn30
  obtain ⟨m32, hn32⟩ := and_e hn31
  obtain ⟨m33, hn33⟩ := and_e hn32
  obtain ⟨m34, hn34⟩ := and_e hn33
  obtain ⟨m35, hn35⟩ := and_e hn34
  obtain ⟨m36, hn36⟩ := and_e hn35
  obtain ⟨m37, hn37⟩ := and_e hn36
  have m38 := hn37
  obtain ⟨oOR, eoOR⟩ := exa_v m0
  have SoOR : Sta s s.heap "com/example/libaxes/libaxes/xpath/Operator" "OR" "Lcom/example/libaxes/libaxes/xpath/Operator;" (.ref oOR) := Sta.start eoOR (Or.inr ⟨(w3 hw), (w4 hw)⟩)
  have EoOR : Exa s s.heap oOR "com/example/libaxes/libaxes/xpath/Operator" := Exa.start eoOR m0
  have FoOR : Fld s s.heap oOR "com/example/libaxes/libaxes/xpath/Operator" "level" "I" (.int 0) := Fld.start (by rw [← fld_at eoOR]; exact eqv_i (Term.int_eval 0) m18)
  have GoOR : Fld s s.heap oOR "java/lang/Enum" "ordinal" "I" (.int 0) := Fld.start (by rw [← fld_at eoOR]; exact eqv_i (Term.int_eval 0) m13)
  obtain ⟨oAN, eoAN⟩ := exa_v m1
  have SoAN : Sta s s.heap "com/example/libaxes/libaxes/xpath/Operator" "AND" "Lcom/example/libaxes/libaxes/xpath/Operator;" (.ref oAN) := Sta.start eoAN (Or.inr ⟨(w3 hw), (w7 hw)⟩)
  have EoAN : Exa s s.heap oAN "com/example/libaxes/libaxes/xpath/Operator" := Exa.start eoAN m1
  have FoAN : Fld s s.heap oAN "com/example/libaxes/libaxes/xpath/Operator" "level" "I" (.int 1) := Fld.start (by rw [← fld_at eoAN]; exact eqv_i (Term.int_eval 1) m20)
  have GoAN : Fld s s.heap oAN "java/lang/Enum" "ordinal" "I" (.int 1) := Fld.start (by rw [← fld_at eoAN]; exact eqv_i (Term.int_eval 1) m19)
  obtain ⟨oEQ, eoEQ⟩ := exa_v m2
  have SoEQ : Sta s s.heap "com/example/libaxes/libaxes/xpath/Operator" "EQUALS" "Lcom/example/libaxes/libaxes/xpath/Operator;" (.ref oEQ) := Sta.start eoEQ (Or.inr ⟨(w3 hw), (w9 hw)⟩)
  have EoEQ : Exa s s.heap oEQ "com/example/libaxes/libaxes/xpath/Operator" := Exa.start eoEQ m2
  have FoEQ : Fld s s.heap oEQ "com/example/libaxes/libaxes/xpath/Operator" "level" "I" (.int 2) := Fld.start (by rw [← fld_at eoEQ]; exact eqv_i (Term.int_eval 2) m36)
  have GoEQ : Fld s s.heap oEQ "java/lang/Enum" "ordinal" "I" (.int 2) := Fld.start (by rw [← fld_at eoEQ]; exact eqv_i (Term.int_eval 2) m25)
  obtain ⟨oNE, eoNE⟩ := exa_v m3
  have SoNE : Sta s s.heap "com/example/libaxes/libaxes/xpath/Operator" "NOT_EQUALS" "Lcom/example/libaxes/libaxes/xpath/Operator;" (.ref oNE) := Sta.start eoNE (Or.inr ⟨(w3 hw), (w11 hw)⟩)
  have EoNE : Exa s s.heap oNE "com/example/libaxes/libaxes/xpath/Operator" := Exa.start eoNE m3
  have FoNE : Fld s s.heap oNE "com/example/libaxes/libaxes/xpath/Operator" "level" "I" (.int 2) := Fld.start (by rw [← fld_at eoNE]; exact eqv_i (Term.int_eval 2) m31)
  have GoNE : Fld s s.heap oNE "java/lang/Enum" "ordinal" "I" (.int 3) := Fld.start (by rw [← fld_at eoNE]; exact eqv_i (Term.int_eval 3) m26)
  obtain ⟨oLT, eoLT⟩ := exa_v m4
  have SoLT : Sta s s.heap "com/example/libaxes/libaxes/xpath/Operator" "LESS" "Lcom/example/libaxes/libaxes/xpath/Operator;" (.ref oLT) := Sta.start eoLT (Or.inr ⟨(w3 hw), (w13 hw)⟩)
  have EoLT : Exa s s.heap oLT "com/example/libaxes/libaxes/xpath/Operator" := Exa.start eoLT m4
  have FoLT : Fld s s.heap oLT "com/example/libaxes/libaxes/xpath/Operator" "level" "I" (.int 3) := Fld.start (by rw [← fld_at eoLT]; exact eqv_i (Term.int_eval 3) m34)
  have GoLT : Fld s s.heap oLT "java/lang/Enum" "ordinal" "I" (.int 4) := Fld.start (by rw [← fld_at eoLT]; exact eqv_i (Term.int_eval 4) m14)
  obtain ⟨oLE, eoLE⟩ := exa_v m5
  have SoLE : Sta s s.heap "com/example/libaxes/libaxes/xpath/Operator" "LESS_OR_EQUAL" "Lcom/example/libaxes/libaxes/xpath/Operator;" (.ref oLE) := Sta.start eoLE (Or.inr ⟨(w3 hw), (w15 hw)⟩)
  have EoLE : Exa s s.heap oLE "com/example/libaxes/libaxes/xpath/Operator" := Exa.start eoLE m5
  have FoLE : Fld s s.heap oLE "com/example/libaxes/libaxes/xpath/Operator" "level" "I" (.int 3) := Fld.start (by rw [← fld_at eoLE]; exact eqv_i (Term.int_eval 3) m24)
  have GoLE : Fld s s.heap oLE "java/lang/Enum" "ordinal" "I" (.int 5) := Fld.start (by rw [← fld_at eoLE]; exact eqv_i (Term.int_eval 5) m15)
  obtain ⟨oGT, eoGT⟩ := exa_v m6
  have SoGT : Sta s s.heap "com/example/libaxes/libaxes/xpath/Operator" "GREATER" "Lcom/example/libaxes/libaxes/xpath/Operator;" (.ref oGT) := Sta.start eoGT (Or.inr ⟨(w3 hw), (w17 hw)⟩)
  have EoGT : Exa s s.heap oGT "com/example/libaxes/libaxes/xpath/Operator" := Exa.start eoGT m6
  have FoGT : Fld s s.heap oGT "com/example/libaxes/libaxes/xpath/Operator" "level" "I" (.int 3) := Fld.start (by rw [← fld_at eoGT]; exact eqv_i (Term.int_eval 3) m35)
  have GoGT : Fld s s.heap oGT "java/lang/Enum" "ordinal" "I" (.int 6) := Fld.start (by rw [← fld_at eoGT]; exact eqv_i (Term.int_eval 6) m16)
  obtain ⟨oGE, eoGE⟩ := exa_v m7
  have SoGE : Sta s s.heap "com/example/libaxes/libaxes/xpath/Operator" "GREATER_OR_EQUAL" "Lcom/example/libaxes/libaxes/xpath/Operator;" (.ref oGE) := Sta.start eoGE (Or.inr ⟨(w3 hw), (w19 hw)⟩)
  have EoGE : Exa s s.heap oGE "com/example/libaxes/libaxes/xpath/Operator" := Exa.start eoGE m7
  have FoGE : Fld s s.heap oGE "com/example/libaxes/libaxes/xpath/Operator" "level" "I" (.int 3) := Fld.start (by rw [← fld_at eoGE]; exact eqv_i (Term.int_eval 3) m23)
  have GoGE : Fld s s.heap oGE "java/lang/Enum" "ordinal" "I" (.int 7) := Fld.start (by rw [← fld_at eoGE]; exact eqv_i (Term.int_eval 7) m17)
  obtain ⟨oPL, eoPL⟩ := exa_v m8
  have SoPL : Sta s s.heap "com/example/libaxes/libaxes/xpath/Operator" "PLUS" "Lcom/example/libaxes/libaxes/xpath/Operator;" (.ref oPL) := Sta.start eoPL (Or.inr ⟨(w3 hw), (w21 hw)⟩)
  have EoPL : Exa s s.heap oPL "com/example/libaxes/libaxes/xpath/Operator" := Exa.start eoPL m8
  have FoPL : Fld s s.heap oPL "com/example/libaxes/libaxes/xpath/Operator" "level" "I" (.int 4) := Fld.start (by rw [← fld_at eoPL]; exact eqv_i (Term.int_eval 4) m22)
  have GoPL : Fld s s.heap oPL "java/lang/Enum" "ordinal" "I" (.int 8) := Fld.start (by rw [← fld_at eoPL]; exact eqv_i (Term.int_eval 8) m21)
  obtain ⟨oMI, eoMI⟩ := exa_v m9
  have SoMI : Sta s s.heap "com/example/libaxes/libaxes/xpath/Operator" "MINUS" "Lcom/example/libaxes/libaxes/xpath/Operator;" (.ref oMI) := Sta.start eoMI (Or.inr ⟨(w3 hw), (w23 hw)⟩)
  have EoMI : Exa s s.heap oMI "com/example/libaxes/libaxes/xpath/Operator" := Exa.start eoMI m9
  have FoMI : Fld s s.heap oMI "com/example/libaxes/libaxes/xpath/Operator" "level" "I" (.int 4) := Fld.start (by rw [← fld_at eoMI]; exact eqv_i (Term.int_eval 4) m38)
  have GoMI : Fld s s.heap oMI "java/lang/Enum" "ordinal" "I" (.int 9) := Fld.start (by rw [← fld_at eoMI]; exact eqv_i (Term.int_eval 9) m37)
  obtain ⟨oMU, eoMU⟩ := exa_v m10
  have SoMU : Sta s s.heap "com/example/libaxes/libaxes/xpath/Operator" "MULTIPLY" "Lcom/example/libaxes/libaxes/xpath/Operator;" (.ref oMU) := Sta.start eoMU (Or.inr ⟨(w3 hw), (w25 hw)⟩)
  have EoMU : Exa s s.heap oMU "com/example/libaxes/libaxes/xpath/Operator" := Exa.start eoMU m10
  have FoMU : Fld s s.heap oMU "com/example/libaxes/libaxes/xpath/Operator" "level" "I" (.int 5) := Fld.start (by rw [← fld_at eoMU]; exact eqv_i (Term.int_eval 5) m28)
  have GoMU : Fld s s.heap oMU "java/lang/Enum" "ordinal" "I" (.int 10) := Fld.start (by rw [← fld_at eoMU]; exact eqv_i (Term.int_eval 10) m27)
  obtain ⟨oDI, eoDI⟩ := exa_v m11
  have SoDI : Sta s s.heap "com/example/libaxes/libaxes/xpath/Operator" "DIV" "Lcom/example/libaxes/libaxes/xpath/Operator;" (.ref oDI) := Sta.start eoDI (Or.inr ⟨(w3 hw), (w27 hw)⟩)
  have EoDI : Exa s s.heap oDI "com/example/libaxes/libaxes/xpath/Operator" := Exa.start eoDI m11
  have FoDI : Fld s s.heap oDI "com/example/libaxes/libaxes/xpath/Operator" "level" "I" (.int 5) := Fld.start (by rw [← fld_at eoDI]; exact eqv_i (Term.int_eval 5) m30)
  have GoDI : Fld s s.heap oDI "java/lang/Enum" "ordinal" "I" (.int 11) := Fld.start (by rw [← fld_at eoDI]; exact eqv_i (Term.int_eval 11) m29)
  obtain ⟨oMO, eoMO⟩ := exa_v m12
  have SoMO : Sta s s.heap "com/example/libaxes/libaxes/xpath/Operator" "MOD" "Lcom/example/libaxes/libaxes/xpath/Operator;" (.ref oMO) := Sta.start eoMO (Or.inr ⟨(w3 hw), (w29 hw)⟩)
  have EoMO : Exa s s.heap oMO "com/example/libaxes/libaxes/xpath/Operator" := Exa.start eoMO m12
  have FoMO : Fld s s.heap oMO "com/example/libaxes/libaxes/xpath/Operator" "level" "I" (.int 5) := Fld.start (by rw [← fld_at eoMO]; exact eqv_i (Term.int_eval 5) m33)
  have GoMO : Fld s s.heap oMO "java/lang/Enum" "ordinal" "I" (.int 12) := Fld.start (by rw [← fld_at eoMO]; exact eqv_i (Term.int_eval 12) m32)
  obtain ⟨n, o, h1, h2, h3, v, L, rfl, ⟨N, hQ⟩, hq⟩ := rm0 (l := l) hw s.heap.size i0 i1 i2 oOR oAN oEQ oNE oLT oLE oGT oGE oPL oMI oMU oDI oMO s.heap (Nat.le_refl _) SoOR SoAN SoEQ SoNE SoLT SoLE SoGT SoGE SoPL SoMI SoMU SoDI SoMO EoOR EoAN EoEQ EoNE EoLT EoLE EoGT EoGE EoPL EoMI EoMU EoDI EoMO FoOR FoAN FoEQ FoNE FoLT FoLE FoGT FoGE FoPL FoMI FoMU FoDI FoMO GoOR GoAN GoEQ GoNE GoLT GoLE GoGT GoGE GoPL GoMI GoMU GoDI GoMO p e ha hc hk s m _ below hf ((Spec.applies_iff_loose hf).mp happ).1 ⟨rfl, State.Warmed39.refl s, rfl⟩ trivial
  obtain rfl : v = some (.int 1) := hQ
  refine ⟨n, _, h1, h2, h3, hpost _ _ _ _ _ _ ⟨Cond.after_iff.mpr rfl, Cond.after_iff.mpr (eq_i res_at (Term.int_eval (1)) rfl), trivial⟩ ⟨hq.1, hq.2.1, (hq.2.2.sift fun y hy => Or.inr (N y hy)).mono (by decide) (by decide)⟩⟩
theorem main_1_1 : Claimed_1_1 := comes_1 fun _ _ _ _ _ _ h hF => ⟨h.1, hF⟩
theorem main_1_2 : Claimed_1_2 := comes_1 fun _ _ _ _ _ _ h hF => ⟨h.2.1, hF⟩
end Jvm.Pilot.@@N@@
namespace Jvm.Pilot.@@N@@
open Jvm Jvm.ClassFile Sem Op Lib Jvm.Free Jvm.Stand Jvm.Pilot.@@N@@.Jvm.D
/-! MADE BY PROGRAM (witnessworld.py) out of the Statement's table words and the real class files: 13 classes; the members and pool entries that the words name. The judged class is class 1, her method 1. -/
namespace start1
open Jvm.ClassFile
def u (s : String) : CpInfo := .utf8 (stringToUtf16 s)
/-- a pool by its gaps: so many unusable entries, then the entry; so many at the end -/
def gap : Nat → List CpInfo → List CpInfo
  | 0, r => r
  | n + 1, r => .unusable :: gap n r
def poolList (es : List (Nat × CpInfo)) (last : Nat) : List CpInfo := es.foldr (fun e r => gap e.1 (e.2 :: r)) (gap last [])
def pool (es : List (Nat × CpInfo)) (last : Nat) : Array CpInfo := ⟨poolList es last⟩
def fileOf (pool : Array CpInfo) (this : Nat) (attrs : Array Attribute := #[]) (ms : Array MethodInfo := #[]) (fl : Nat := 33) (sup : Nat := 0) (ifs : Array Nat := #[]) (fds : Array FieldInfo := #[]) : ClassFile where
  minorVersion := 0
  majorVersion := 65
  constantPool := pool
  accessFlags := fl
  thisClass := this
  superClass := sup
  interfaces := ifs
  fields := fds
  methods := ms
  attributes := attrs
def plain (name : String) (sup : Option ClassId) : Class where
  name := name
  kind := .ordinary
  loader := none
  accessFlags := 33
  super := sup
  interfaces := #[]
  cf := none
  fields := #[]
  methods := #[]
  instanceTypes := #[]
  staticTypes := #[]
  resolved := #[]
  callSites := []
  init := .initialized
  statics := none
  mirror := none

def pool0 : Array CpInfo := pool [(5, u "<init>"), (0, u "()V"), (1, .class_ 10), (1, u "java/lang/Object")] 113

def k0m0 : Method := { name := "<init>", desc := "()V", sig := { parameters := [], returnType := none }, accessFlags := 1, code := none }
/-- java/lang/Object -/
def k0 : Class := { plain "java/lang/Object" none with
  accessFlags := 33
  interfaces := #[]
  cf := some (fileOf pool0 8 #[] #[{ accessFlags := 1, nameIndex := 5, descriptorIndex := 6, attributes := #[] }] 33 0 #[] #[])
  fields := #[]
  methods := #[k0m0]
  instanceTypes := #[]
  staticTypes := #[]
  resolved := Array.replicate 124 none
  statics := none }

def pool1 : Array CpInfo := pool [(2, .class_ 4), (1, u "java/lang/Object"), (0, u "<init>"), (0, u "()V"), (0, .class_ 8), (0, u "com/example/libaxes/libaxes/xpath/Operator"), (0, .fieldref 7 10), (0, .nameAndType 11 12), (0, u "OR"), (0, u "Lcom/example/libaxes/libaxes/xpath/Operator;"), (0, .fieldref 7 14), (0, .nameAndType 15 12), (0, u "AND"), (0, .fieldref 7 17), (0, .nameAndType 18 12), (0, u "EQUALS"), (0, .fieldref 7 20), (0, .nameAndType 21 12), (0, u "NOT_EQUALS"), (0, .fieldref 7 23), (0, .nameAndType 24 12), (0, u "LESS"), (0, .fieldref 7 26), (0, .nameAndType 27 12), (0, u "LESS_OR_EQUAL"), (0, .fieldref 7 29), (0, .nameAndType 30 12), (0, u "GREATER"), (0, .fieldref 7 32), (0, .nameAndType 33 12), (0, u "GREATER_OR_EQUAL"), (0, .fieldref 7 35), (0, .nameAndType 36 12), (0, u "PLUS"), (0, .fieldref 7 38), (0, .nameAndType 39 12), (0, u "MINUS"), (0, .fieldref 7 41), (0, .nameAndType 42 12), (0, u "MULTIPLY"), (0, .fieldref 7 44), (0, .nameAndType 45 12), (0, u "DIV"), (0, .fieldref 7 47), (0, .nameAndType 48 12), (0, u "MOD"), (0, .integer 2147483647), (0, .methodref 7 51), (0, .nameAndType 52 53), (0, u "mirrored"), (0, u "()Lcom/example/libaxes/libaxes/xpath/Operator;"), (0, .methodref 7 55), (0, .nameAndType 56 57), (0, u "level"), (0, u "()I"), (0, .methodref 7 59), (0, .nameAndType 60 61), (0, u "compares"), (0, u "(DD)Z"), (0, .class_ 63), (0, u "com/example/libaxes/libaxes/xpath/OperatorMirroredPinLaw"), (2, u "law"), (0, u "(III)Z")] 5

def k1m0 : Method := { name := "<init>", desc := "()V", sig := { parameters := [], returnType := none }, accessFlags := 1, code := none }
def k1c1 : Code := { maxStack := 6, maxLocals := 11, code := code, exceptionTable := #[], attributes := #[] }
def k1m1 : Method := { name := "law", desc := "(III)Z", sig := { parameters := [.int, .int, .int], returnType := some .boolean }, accessFlags := 9, code := some k1c1 }
/-- com/example/libaxes/libaxes/xpath/OperatorMirroredPinLaw -/
def k1 : Class := { plain "com/example/libaxes/libaxes/xpath/OperatorMirroredPinLaw" (some 0) with
  accessFlags := 49
  interfaces := #[]
  cf := some (fileOf pool1 62 #[] #[{ accessFlags := 1, nameIndex := 5, descriptorIndex := 6, attributes := #[] }, { accessFlags := 9, nameIndex := 66, descriptorIndex := 67, attributes := #[] }] 49 2 #[] #[])
  fields := #[]
  methods := #[k1m0, k1m1]
  instanceTypes := #[]
  staticTypes := #[]
  resolved := Array.replicate 73 none
  statics := none }

def pool2 : Array CpInfo := pool [(1, .class_ 2), (0, u "java/lang/constant/Constable"), (0, .class_ 4), (0, u "java/lang/Object")] 6

/-- java/lang/constant/Constable -/
def k2 : Class := { plain "java/lang/constant/Constable" (some 0) with
  accessFlags := 1537
  interfaces := #[]
  cf := some (fileOf pool2 1 #[] #[] 1537 3 #[] #[])
  fields := #[]
  methods := #[]
  instanceTypes := #[]
  staticTypes := #[]
  resolved := Array.replicate 11 none
  statics := none }

def pool3 : Array CpInfo := pool [(1, .class_ 2), (0, u "java/lang/Comparable"), (0, .class_ 4), (0, u "java/lang/Object")] 7

/-- java/lang/Comparable -/
def k3 : Class := { plain "java/lang/Comparable" (some 0) with
  accessFlags := 1537
  interfaces := #[]
  cf := some (fileOf pool3 1 #[] #[] 1537 3 #[] #[])
  fields := #[]
  methods := #[]
  instanceTypes := #[]
  staticTypes := #[]
  resolved := Array.replicate 12 none
  statics := none }

def pool4 : Array CpInfo := pool [(1, .class_ 2), (0, u "java/io/Serializable"), (0, .class_ 4), (0, u "java/lang/Object")] 2

/-- java/io/Serializable -/
def k4 : Class := { plain "java/io/Serializable" (some 0) with
  accessFlags := 1537
  interfaces := #[]
  cf := some (fileOf pool4 1 #[] #[] 1537 3 #[] #[])
  fields := #[]
  methods := #[]
  instanceTypes := #[]
  staticTypes := #[]
  resolved := Array.replicate 7 none
  statics := none }

def pool5 : Array CpInfo := pool [(2, .class_ 4), (1, u "java/lang/Enum"), (0, u "name"), (0, u "Ljava/lang/String;"), (2, u "ordinal"), (0, u "I"), (1, .class_ 14), (1, u "java/lang/Object"), (4, u "hash"), (86, .class_ 108), (1, u "java/lang/Enum$EnumDesc"), (2, .class_ 112), (0, u "java/lang/constant/Constable"), (0, .class_ 114), (0, u "java/lang/Comparable"), (0, .class_ 116), (0, u "java/io/Serializable")] 87

/-- java/lang/Enum -/
def k5 : Class := { plain "java/lang/Enum" (some 0) with
  accessFlags := 1057
  interfaces := #[2, 3, 4]
  cf := some (fileOf pool5 2 #[.nestMembers #[106]] #[] 1057 12 #[111, 113, 115] #[{ accessFlags := 18, nameIndex := 5, descriptorIndex := 6, attributes := #[] }, { accessFlags := 18, nameIndex := 9, descriptorIndex := 10, attributes := #[] }, { accessFlags := 2, nameIndex := 19, descriptorIndex := 10, attributes := #[] }])
  fields := #[{ name := "name", type := (.object "java/lang/String"), accessFlags := 18, slot := 0, constantValue := 0 }, { name := "ordinal", type := .int, accessFlags := 18, slot := 1, constantValue := 0 }, { name := "hash", type := .int, accessFlags := 2, slot := 2, constantValue := 0 }]
  methods := #[]
  instanceTypes := #[(.object "java/lang/String"), .int, .int]
  staticTypes := #[]
  resolved := Array.replicate 204 none
  statics := none }

def pool6 : Array CpInfo := pool [(1, .class_ 2), (0, u "com/example/libaxes/libaxes/xpath/Operator"), (2, u "OR"), (0, u "Lcom/example/libaxes/libaxes/xpath/Operator;"), (2, u "AND"), (0, .fieldref 1 11), (0, .nameAndType 12 6), (0, u "EQUALS"), (0, .fieldref 1 14), (0, .nameAndType 15 6), (0, u "NOT_EQUALS"), (0, .fieldref 1 17), (0, .nameAndType 18 6), (0, u "LESS"), (0, .fieldref 1 20), (0, .nameAndType 21 6), (0, u "LESS_OR_EQUAL"), (0, .fieldref 1 23), (0, .nameAndType 24 6), (0, u "GREATER"), (0, .fieldref 1 26), (0, .nameAndType 27 6), (0, u "GREATER_OR_EQUAL"), (2, u "PLUS"), (2, u "MINUS"), (2, u "MULTIPLY"), (2, u "DIV"), (2, u "MOD"), (2, u "$VALUES"), (0, u "[Lcom/example/libaxes/libaxes/xpath/Operator;"), (6, .class_ 55), (1, u "java/lang/Enum"), (8, u "token"), (0, u "Lcom/example/libaxes/libaxes/xpath/Token$Kind;"), (0, .fieldref 1 67), (0, .nameAndType 68 69), (0, u "level"), (0, u "I"), (115, u "LOOSEST"), (2, u "TIGHTEST"), (10, u "()I"), (0, u "mirrored"), (0, u "()Lcom/example/libaxes/libaxes/xpath/Operator;"), (4, u "compares"), (0, u "(DD)Z")] 25

def k6c0 : Code := { maxStack := 1, maxLocals := 1, code := prog_89_method_5_code, exceptionTable := #[], attributes := #[] }
def k6m0 : Method := { name := "level", desc := "()I", sig := { parameters := [], returnType := some .int }, accessFlags := 0, code := some k6c0 }
def k6c1 : Code := { maxStack := 2, maxLocals := 2, code := prog_89_method_7_code, exceptionTable := #[], attributes := #[] }
def k6m1 : Method := { name := "mirrored", desc := "()Lcom/example/libaxes/libaxes/xpath/Operator;", sig := { parameters := [], returnType := some (.object "com/example/libaxes/libaxes/xpath/Operator") }, accessFlags := 0, code := some k6c1 }
def k6c2 : Code := { maxStack := 4, maxLocals := 6, code := prog_89_method_10_code, exceptionTable := #[], attributes := #[] }
def k6m2 : Method := { name := "compares", desc := "(DD)Z", sig := { parameters := [.double, .double], returnType := some .boolean }, accessFlags := 0, code := some k6c2 }
/-- com/example/libaxes/libaxes/xpath/Operator -/
def k6 : Class := { plain "com/example/libaxes/libaxes/xpath/Operator" (some 5) with
  accessFlags := 16432
  interfaces := #[]
  cf := some (fileOf pool6 1 #[] #[{ accessFlags := 0, nameIndex := 68, descriptorIndex := 199, attributes := #[] }, { accessFlags := 0, nameIndex := 200, descriptorIndex := 201, attributes := #[] }, { accessFlags := 0, nameIndex := 206, descriptorIndex := 207, attributes := #[] }] 16432 53 #[] #[{ accessFlags := 16409, nameIndex := 5, descriptorIndex := 6, attributes := #[] }, { accessFlags := 16409, nameIndex := 9, descriptorIndex := 6, attributes := #[] }, { accessFlags := 16409, nameIndex := 12, descriptorIndex := 6, attributes := #[] }, { accessFlags := 16409, nameIndex := 15, descriptorIndex := 6, attributes := #[] }, { accessFlags := 16409, nameIndex := 18, descriptorIndex := 6, attributes := #[] }, { accessFlags := 16409, nameIndex := 21, descriptorIndex := 6, attributes := #[] }, { accessFlags := 16409, nameIndex := 24, descriptorIndex := 6, attributes := #[] }, { accessFlags := 16409, nameIndex := 27, descriptorIndex := 6, attributes := #[] }, { accessFlags := 16409, nameIndex := 30, descriptorIndex := 6, attributes := #[] }, { accessFlags := 16409, nameIndex := 33, descriptorIndex := 6, attributes := #[] }, { accessFlags := 16409, nameIndex := 36, descriptorIndex := 6, attributes := #[] }, { accessFlags := 16409, nameIndex := 39, descriptorIndex := 6, attributes := #[] }, { accessFlags := 16409, nameIndex := 42, descriptorIndex := 6, attributes := #[] }, { accessFlags := 24, nameIndex := 185, descriptorIndex := 69, attributes := #[] }, { accessFlags := 24, nameIndex := 188, descriptorIndex := 69, attributes := #[] }, { accessFlags := 18, nameIndex := 64, descriptorIndex := 65, attributes := #[] }, { accessFlags := 18, nameIndex := 68, descriptorIndex := 69, attributes := #[] }, { accessFlags := 4122, nameIndex := 45, descriptorIndex := 46, attributes := #[] }])
  fields := #[{ name := "OR", type := (.object "com/example/libaxes/libaxes/xpath/Operator"), accessFlags := 16409, slot := 0, constantValue := 0 }, { name := "AND", type := (.object "com/example/libaxes/libaxes/xpath/Operator"), accessFlags := 16409, slot := 1, constantValue := 0 }, { name := "EQUALS", type := (.object "com/example/libaxes/libaxes/xpath/Operator"), accessFlags := 16409, slot := 2, constantValue := 0 }, { name := "NOT_EQUALS", type := (.object "com/example/libaxes/libaxes/xpath/Operator"), accessFlags := 16409, slot := 3, constantValue := 0 }, { name := "LESS", type := (.object "com/example/libaxes/libaxes/xpath/Operator"), accessFlags := 16409, slot := 4, constantValue := 0 }, { name := "LESS_OR_EQUAL", type := (.object "com/example/libaxes/libaxes/xpath/Operator"), accessFlags := 16409, slot := 5, constantValue := 0 }, { name := "GREATER", type := (.object "com/example/libaxes/libaxes/xpath/Operator"), accessFlags := 16409, slot := 6, constantValue := 0 }, { name := "GREATER_OR_EQUAL", type := (.object "com/example/libaxes/libaxes/xpath/Operator"), accessFlags := 16409, slot := 7, constantValue := 0 }, { name := "PLUS", type := (.object "com/example/libaxes/libaxes/xpath/Operator"), accessFlags := 16409, slot := 8, constantValue := 0 }, { name := "MINUS", type := (.object "com/example/libaxes/libaxes/xpath/Operator"), accessFlags := 16409, slot := 9, constantValue := 0 }, { name := "MULTIPLY", type := (.object "com/example/libaxes/libaxes/xpath/Operator"), accessFlags := 16409, slot := 10, constantValue := 0 }, { name := "DIV", type := (.object "com/example/libaxes/libaxes/xpath/Operator"), accessFlags := 16409, slot := 11, constantValue := 0 }, { name := "MOD", type := (.object "com/example/libaxes/libaxes/xpath/Operator"), accessFlags := 16409, slot := 12, constantValue := 0 }, { name := "LOOSEST", type := .int, accessFlags := 24, slot := 13, constantValue := 0 }, { name := "TIGHTEST", type := .int, accessFlags := 24, slot := 14, constantValue := 0 }, { name := "token", type := (.object "com/example/libaxes/libaxes/xpath/Token$Kind"), accessFlags := 18, slot := 3, constantValue := 0 }, { name := "level", type := .int, accessFlags := 18, slot := 4, constantValue := 0 }, { name := "$VALUES", type := (.array (.object "com/example/libaxes/libaxes/xpath/Operator")), accessFlags := 4122, slot := 15, constantValue := 0 }]
  methods := #[k6m0, k6m1, k6m2]
  instanceTypes := #[(.object "java/lang/String"), .int, .int, (.object "com/example/libaxes/libaxes/xpath/Token$Kind"), .int]
  staticTypes := #[(.object "com/example/libaxes/libaxes/xpath/Operator"), (.object "com/example/libaxes/libaxes/xpath/Operator"), (.object "com/example/libaxes/libaxes/xpath/Operator"), (.object "com/example/libaxes/libaxes/xpath/Operator"), (.object "com/example/libaxes/libaxes/xpath/Operator"), (.object "com/example/libaxes/libaxes/xpath/Operator"), (.object "com/example/libaxes/libaxes/xpath/Operator"), (.object "com/example/libaxes/libaxes/xpath/Operator"), (.object "com/example/libaxes/libaxes/xpath/Operator"), (.object "com/example/libaxes/libaxes/xpath/Operator"), (.object "com/example/libaxes/libaxes/xpath/Operator"), (.object "com/example/libaxes/libaxes/xpath/Operator"), (.object "com/example/libaxes/libaxes/xpath/Operator"), .int, .int, (.array (.object "com/example/libaxes/libaxes/xpath/Operator"))]
  resolved := Array.replicate 233 none
  statics := some 0 }

def pool7 : Array CpInfo := pool [(1, u "java/lang/Cloneable"), (0, .class_ 1), (0, u "java/lang/Object"), (0, .class_ 3)] 3

/-- java/lang/Cloneable -/
def k7 : Class := { plain "java/lang/Cloneable" (some 0) with
  accessFlags := 1537
  interfaces := #[]
  cf := some (fileOf pool7 2 #[] #[] 1537 4 #[] #[])
  fields := #[]
  methods := #[]
  instanceTypes := #[]
  staticTypes := #[]
  resolved := Array.replicate 8 none
  statics := none }

/-- the primitive byte -/
def k8 : Class := { plain "byte" none with kind := .primitive 'B', accessFlags := 0x411 }
/-- [B -/
def k9 : Class := { plain "[B" (some 0) with kind := .array 8 .byte, interfaces := #[7, 4], accessFlags := 1041 }

/-- the primitive int -/
def k10 : Class := { plain "int" none with kind := .primitive 'I', accessFlags := 0x411 }
/-- [I -/
def k11 : Class := { plain "[I" (some 0) with kind := .array 10 .int, interfaces := #[7, 4], accessFlags := 1041 }

/-- [Lcom/example/libaxes/libaxes/xpath/Operator; -/
def k12 : Class := { plain "[Lcom/example/libaxes/libaxes/xpath/Operator;" (some 0) with kind := .array 6 (.object "com/example/libaxes/libaxes/xpath/Operator"), interfaces := #[7, 4], accessFlags := 1041 }

def heap : Heap := #[{ cls := 6, slots := #[.ref 1, .ref 2, .ref 3, .ref 4, .ref 5, .ref 6, .ref 7, .ref 8, .ref 9, .ref 10, .ref 11, .ref 12, .ref 13, .int 0, .int 0, .null], vm := .statics 6 },
  { cls := 6, slots := #[.null, .int 0, .int 0, .null, .int 0], vm := .none },
  { cls := 6, slots := #[.null, .int 1, .int 0, .null, .int 1], vm := .none },
  { cls := 6, slots := #[.null, .int 2, .int 0, .null, .int 2], vm := .none },
  { cls := 6, slots := #[.null, .int 3, .int 0, .null, .int 2], vm := .none },
  { cls := 6, slots := #[.null, .int 4, .int 0, .null, .int 3], vm := .none },
  { cls := 6, slots := #[.null, .int 5, .int 0, .null, .int 3], vm := .none },
  { cls := 6, slots := #[.null, .int 6, .int 0, .null, .int 3], vm := .none },
  { cls := 6, slots := #[.null, .int 7, .int 0, .null, .int 3], vm := .none },
  { cls := 6, slots := #[.null, .int 8, .int 0, .null, .int 4], vm := .none },
  { cls := 6, slots := #[.null, .int 9, .int 0, .null, .int 4], vm := .none },
  { cls := 6, slots := #[.null, .int 10, .int 0, .null, .int 5], vm := .none },
  { cls := 6, slots := #[.null, .int 11, .int 0, .null, .int 5], vm := .none },
  { cls := 6, slots := #[.null, .int 12, .int 0, .null, .int 5], vm := .none }]
def classes : Array Class := #[k0, k1, k2, k3, k4, k5, k6, k7, k8, k9, k10, k11, k12]
def interned : List (Array UInt16 × Addr) := []
def slotsUsed : Nat := 81
def theMethod : MethodId := ⟨1, 1⟩
def args0 : Array Value := #[.int 4, .int 1, .int 2]
def aboutOver (below : List Frame) : State where
  vm := { classes := classes, interned := interned.toArray }
  heap := heap
  slotsUsed := slotsUsed
  threads := #[{ frames := .invoking theMethod args0 :: below }]
def below0 : List Frame := [.native { method := ⟨0, 0⟩, args := #[] }]
def about1 : State := aboutOver below0
def p0 : Program := .bare "" "" ""
def e0 : Env := launch0.env 0 0 0
theorem w_frames : about1.frames = Frame.invoking theMethod args0 :: below0 := rfl
set_option maxRecDepth 65536 in
theorem w_args : argsFit about1.vm theMethod args0 = true := by decide +kernel
set_option maxRecDepth 65536 in
theorem w_heap : heapFits about1 = true := by decide +kernel
set_option maxRecDepth 65536 in
theorem w_runnable : about1.curStatus? = some .runnable := by decide +kernel
set_option maxRecDepth 65536 in
theorem w_alone : about1.alone = true := by decide +kernel
set_option maxRecDepth 65536 in
theorem w_named : about1.methodNamed? x = some theMethod := by decide +kernel
set_option maxRecDepth 65536 in
theorem w_hears : about1.hears theMethod below0 = true := by decide +kernel
set_option maxRecDepth 65536 in
theorem w_ripe : about1.ripe theMethod args0 below0 = true := by decide +kernel
theorem w_running : about1.status = .running := rfl
set_option maxRecDepth 65536 in
theorem w_room : about1.hasRoom e0.platform room_1 = true :=
  launch0.hasRoom_least _ room_1 (by decide +kernel) (by decide +kernel) (by decide +kernel) (by decide +kernel) (by decide +kernel) (by decide +kernel)
theorem allAtoms_all (ts : List Jvm.Cond) (a : Array Jvm.Value) (st : Jvm.State) : (allAtoms ts).before a st = ts.all (fun c => c.before a st) := by
  induction ts with
  | nil => rfl
  | cons c t ih =>
    show (Jvm.Cond.and c (allAtoms t)).before a st = _
    rw [Jvm.Cond.before_and, ih, List.all_cons]
def words1 : List Jvm.Cond := Jvm.Cond.code x code maxLocals ret :: tables_1
/-- a 'code' word, met by the world's own term for the bytes: nothing is compared byte by byte -/
theorem code_word {y : MethodName} {bytes : ByteArray} {mx : Nat} {rt : Option FieldType} {a : Array Value} {s : State} {m : MethodId} {meth : Method} {c : Code} (h1 : s.methodNamed? y = some m) (h2 : s.vm.method? m = some meth) (h3 : meth.code = some c) (h4 : c.code = bytes)
    (h5 : (c.maxLocals == mx && c.exceptionTable.isEmpty && decide (c.maxStack ≤ mostOperands) && decide (meth.sig.returnType = rt) && !meth.locks && decide (parseMethodDescriptor y.desc = some meth.sig)) = true) : (Jvm.Cond.code y bytes mx rt).before a s = true := by
  simp only [Bool.and_eq_true, beq_iff_eq, Bool.not_eq_true', decide_eq_true_eq] at h5
  obtain ⟨⟨⟨⟨⟨g1, g2⟩, g3⟩, g4⟩, g5⟩, g6⟩ := h5
  simp [Cond.before, Cond.holds, Cond.value, h1, h2, h3, h4, g1, g2, g3, g4, g5, g6]
def isCode : Jvm.Cond → Bool
  | .code _ _ _ _ => true
  | _ => false
theorem all_split {L : List Jvm.Cond} {P : Jvm.Cond → Bool} (h1 : L.all (fun c => isCode c || P c) = true) (h2 : ∀ c ∈ L.filter isCode, P c = true) : L.all P = true := by
  refine List.all_eq_true.mpr fun c hc => ?_
  have h := List.all_eq_true.mp h1 c hc
  rcases Bool.eq_false_or_eq_true (isCode c) with hi | hi
  · exact h2 c (List.mem_filter.mpr ⟨hc, hi⟩)
  · simpa [hi] using h
set_option maxRecDepth 65536 in
theorem w_c0 : (Jvm.Cond.code x code maxLocals ret).before args0 about1 = true := code_word (m := ⟨1, 1⟩) (meth := k1m1) (c := k1c1) (by decide +kernel) rfl rfl rfl (by decide +kernel)
set_option maxRecDepth 65536 in
theorem w_c1 : (Jvm.Cond.code ({ cls := "com/example/libaxes/libaxes/xpath/Operator", name := "mirrored", desc := "()Lcom/example/libaxes/libaxes/xpath/Operator;" } : Jvm.MethodName) prog_89_method_7_code (2 : Nat) (Option.some (Jvm.ClassFile.FieldType.object "com/example/libaxes/libaxes/xpath/Operator"))).before args0 about1 = true := code_word (m := ⟨6, 1⟩) (meth := k6m1) (c := k6c1) (by decide +kernel) rfl rfl rfl (by decide +kernel)
set_option maxRecDepth 65536 in
theorem w_c2 : (Jvm.Cond.code ({ cls := "com/example/libaxes/libaxes/xpath/Operator", name := "level", desc := "()I" } : Jvm.MethodName) prog_89_method_5_code (1 : Nat) (Option.some Jvm.ClassFile.FieldType.int)).before args0 about1 = true := code_word (m := ⟨6, 0⟩) (meth := k6m0) (c := k6c0) (by decide +kernel) rfl rfl rfl (by decide +kernel)
set_option maxRecDepth 65536 in
theorem w_c3 : (Jvm.Cond.code ({ cls := "com/example/libaxes/libaxes/xpath/Operator", name := "compares", desc := "(DD)Z" } : Jvm.MethodName) prog_89_method_10_code (6 : Nat) (Option.some Jvm.ClassFile.FieldType.boolean)).before args0 about1 = true := code_word (m := ⟨6, 2⟩) (meth := k6m2) (c := k6c2) (by decide +kernel) rfl rfl rfl (by decide +kernel)
def codes1 : List Jvm.Cond := [Jvm.Cond.code x code maxLocals ret, Jvm.Cond.code ({ cls := "com/example/libaxes/libaxes/xpath/Operator", name := "mirrored", desc := "()Lcom/example/libaxes/libaxes/xpath/Operator;" } : Jvm.MethodName) prog_89_method_7_code (2 : Nat) (Option.some (Jvm.ClassFile.FieldType.object "com/example/libaxes/libaxes/xpath/Operator")), Jvm.Cond.code ({ cls := "com/example/libaxes/libaxes/xpath/Operator", name := "level", desc := "()I" } : Jvm.MethodName) prog_89_method_5_code (1 : Nat) (Option.some Jvm.ClassFile.FieldType.int), Jvm.Cond.code ({ cls := "com/example/libaxes/libaxes/xpath/Operator", name := "compares", desc := "(DD)Z" } : Jvm.MethodName) prog_89_method_10_code (6 : Nat) (Option.some Jvm.ClassFile.FieldType.boolean)]
set_option maxRecDepth 65536 in
theorem codes_eq : words1.filter isCode = codes1 := rfl
theorem w_codes : ∀ c ∈ words1.filter isCode, c.before args0 about1 = true := by
  rw [codes_eq]
  intro c hc
  simp only [codes1, List.mem_cons, List.not_mem_nil, or_false] at hc
  rcases hc with rfl | rfl | rfl | rfl
  · exact w_c0
  · exact w_c1
  · exact w_c2
  · exact w_c3
set_option maxRecDepth 65536 in
theorem w_t1 : (words1.take 24).all (fun c => isCode c || c.before args0 about1) = true := by decide +kernel
set_option maxRecDepth 65536 in
theorem w_t2 : ((words1.drop 24).take 24).all (fun c => isCode c || c.before args0 about1) = true := by decide +kernel
set_option maxRecDepth 65536 in
theorem w_t3 : ((words1.drop 24).drop 24).all (fun c => isCode c || c.before args0 about1) = true := by decide +kernel
theorem w_tables : (allAtoms (Jvm.Cond.code x code maxLocals ret :: tables_1)).before args0 about1 = true := by
  rw [allAtoms_all]
  show words1.all (fun c => c.before args0 about1) = true
  refine all_split ?_ w_codes
  rw [← List.take_append_drop 24 words1, List.all_append, w_t1, ← List.take_append_drop 24 (words1.drop 24), List.all_append, w_t2, w_t3]
  rfl
set_option maxRecDepth 65536 in
theorem w_case : (Jvm.Cond.and given_1 narrow_1).before args0 about1 = true := by decide +kernel
theorem w_applies : (headSpec (Jvm.Cond.code x code maxLocals ret :: tables_1) room_1).applies x e0.platform about1 = true :=
  (Spec.applies_iff w_frames).mpr ⟨w_running, w_runnable, w_alone, w_named, w_hears, w_ripe, w_room, w_tables⟩
theorem atStart : AtStart classFile x code maxLocals ret World_1 tables_1 room_1 Calls_1 rest_1 Pre_1 launch0 p0 e0 about1 theMethod args0 below0 :=
  ⟨lists_1, trivial, launch0.admits_env _ _ _, launch0.least_env, fairChoices_fair.cas, fairChoices_fair.clock, w_frames, w_args, w_heap, w_applies, trivial, trivial, w_case⟩
end start1
theorem witness_1 : WitnessClaimed_1 := ⟨start1.p0, start1.e0, start1.about1, start1.theMethod, start1.args0, start1.below0, start1.atStart⟩
end Jvm.Pilot.@@N@@
