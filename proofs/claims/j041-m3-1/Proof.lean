import JvmDerived
import JvmDerived.Pilot.@@N@@Statement
import JvmDerived.Pilot.@@N@@Code
set_option linter.unusedVariables false
set_option linter.unusedSimpArgs false

namespace Jvm.Pilot.@@N@@
open Jvm Jvm.ClassFile Sem Op Lib Jvm.Free Jvm.Stand Jvm.LawKit Jvm.RoadKit Bundle Jvm.Pilot.@@N@@.Jvm.D
/-! ## own kit: a walk forwards, in small words -/
abbrev owK : Type := Program × Env × State × MethodId × Array Value × List Frame × Method × Code
abbrev owp (k : owK) : Program := k.1
abbrev owe (k : owK) : Env := k.2.1
abbrev ows (k : owK) : State := k.2.2.1
abbrev owm (k : owK) : MethodId := k.2.2.2.1
abbrev owa (k : owK) : Array Value := k.2.2.2.2.1
abbrev owb (k : owK) : List Frame := k.2.2.2.2.2.1
abbrev owM (k : owK) : Method := k.2.2.2.2.2.2.1
abbrev owc (k : owK) : Code := k.2.2.2.2.2.2.2
/-- what stands fast through a body -/
def owC (Z : State) (y : MethodName) (B : ByteArray) (ml : Nat) (rt : Option FieldType) (k : owK) : Prop :=
  (owp k).tables.exec = Jvm.exec ∧ Z.Warmed39 (ows k).vm ∧ (ows k).vm.findClass y.cls = some (owm k).cls ∧ (owc k).code = B ∧ (owc k).maxLocals = ml ∧ (owM k).name = y.name ∧ (owM k).sig.returnType = rt ∧ (owM k).locks = false
/-- where the walk stands: the state T with the heap h; cc cells and ss slots made so far; all writes at or above n0 -/
def Sd (l : Launch) (Z : State) (n0 : Nat) (y : MethodName) (B : ByteArray) (ml : Nat) (rt : Option FieldType) (R : Room) (k : owK) (T : State) (h : Heap) (cc ss : Nat) : Prop :=
  (∃ locs, Stand (owp k) l (owe k) R (ows k) (owm k) (owa k) (owb k) (owM k) (owc k) T locs cc ss ∧ Fr n0 locs) ∧ T.heap = h ∧ owC Z y B ml rt k
/-- from here the walk ends, as Q says -/
def Go (k : owK) (n0 : Nat) (Q : Option Value → Heap → Prop) (kc ks : Nat) (T : State) (pc : Nat) (Ls : Array Slot) (st : List Value) : Prop :=
  ∃ s₂ o, Steps (owp k).tables (owe k) (owb k) (T.setTop (mkF (owm k) pc Ls st)) s₂ ∧ s₂.status = .running ∧ Ended s₂ (owb k) o ∧ ∃ v L, o = .returned v ∧ (Fr n0 L ∧ Q v s₂.heap) ∧ FrameEnd (ows k) o s₂ L kc ks
/-- the contract of a body -/
def Met (l : Launch) (Z : State) (n0 : Nat) (y : MethodName) (B : ByteArray) (ml : Nat) (rt : Option FieldType) (ws : List Jvm.Cond) (R : Room) (as : Array Value) (h0 : Heap) (Q : Option Value → Heap → Prop) (kc ks : Nat) : Prop :=
  MetFree l y (head1 (Jvm.Cond.code y B ml rt :: ws) R) (fun a U => a = as ∧ Z.Warmed39 U.vm ∧ U.heap = h0) (fun _ _ _ _ _ => True) (fun _ U o U' => ∃ v L, o = .returned v ∧ (Fr n0 L ∧ Q v U'.heap) ∧ FrameEnd U o U' L kc ks)
section Ow
variable {l : Launch} {Z : State} {n0 : Nat} {y : MethodName} {B : ByteArray} {ml : Nat} {rt : Option FieldType} {R : Room} {k : owK} {T : State} {h : Heap} {cc ss : Nat} {Q : Option Value → Heap → Prop} {kc ks : Nat} {pc : Nat} {Ls : Array Slot} {st : List Value} {a0 : Array Value}
theorem Met.of {ws : List Jvm.Cond} {as : Array Value} {h0 : Heap} {Ls : Array Slot} (hp : Jvm.plainFor y = true) (hef : Jvm.Sym.laidSlots as.toList ++ List.replicate (ml - (Jvm.Sym.laidSlots as.toList).length) .unset = Ls.toList) (body : ∀ k T, Sd l Z n0 y B ml rt R k T h0 0 0 → Go k n0 Q kc ks T 0 Ls []) : Met l Z n0 y B ml rt ws R as h0 Q kc ks := by
  refine MetFree.of_bodySF hp hisR ?_
  intro p e s m args below meth c s₁ Bd hml hP hK
  obtain ⟨rfl, hZ, hh⟩ := hP
  have hown : s.vm.findClass y.cls = some m.cls := findClass_of_methodNamed Bd.named
  have hnm := (name_of_methodNamed Bd.named Bd.method).1
  have X0 : Stand p l e R s m args below meth c s₁ [] 0 0 := Stand.of_body Bd
  have e0 : s₁.heap = h0 := by rw [← hh, Bd.state]; rfl
  obtain ⟨s2, o, h1, h2, h3, h4⟩ := body (p, e, s, m, args, below, meth, c) s₁ ⟨⟨[], X0, Fr.nil n0⟩, e0, Bd.exec, hZ, hown, Bd.bytes, hml, hnm, Bd.returns, Bd.notSynchronized⟩
  exact ⟨s2, o, (XT.entry hef).trans h1, h2, h3, h4⟩
theorem Go.of {T T' : State} {pc' : Nat} {Ls' : Array Slot} {st' : List Value} (K : Go k n0 Q kc ks T' pc' Ls' st') (f : ∀ t, Steps (owp k).tables (owe k) (owb k) (T'.setTop (mkF (owm k) pc' Ls' st')) t → Steps (owp k).tables (owe k) (owb k) (T.setTop (mkF (owm k) pc Ls st)) t) : Go k n0 Q kc ks T pc Ls st := by
  obtain ⟨s2, o, h1, h2⟩ := K; exact ⟨s2, o, f _ h1, h2⟩
theorem Go.end {v : Option Value} (X : Sd l Z n0 y B ml rt R k T h cc ss) (hk : cc ≤ kc) (hs : ss ≤ ks) (hv : rt = none → v = none) (f : ∀ fs, (∀ (f : JFrame) (acts : List Action), f.method = owm k → f.locked = none → f.entered = [] → (doReturn (owe k) (T.setTop f) acts v).1 = T.setFrames fs) → Steps (owp k).tables (owe k) (owb k) (T.setTop (mkF (owm k) pc Ls st)) (T.setFrames fs)) (hQ : Q v h) : Go k n0 Q kc ks T pc Ls st := by
  obtain ⟨⟨locs, X, N⟩, rfl, hx, hZ, hown, hby, hml, hnm, hrt, hlk⟩ := X
  obtain ⟨fs, hr, hrun, hended, hW, hsame⟩ := X.leave (v := v) (fun q => hv (by rw [← hrt]; exact q)) hlk
  exact ⟨_, _, f fs hr, hrun, hended, _, _, rfl, ⟨N, hQ⟩, ⟨_, rfl⟩, hW, hsame.mono hk hs⟩
theorem Sd.hh (X : Sd l Z n0 y B ml rt R k T h cc ss) : At T (owm k) (owc k) (owb k) := by obtain ⟨⟨_, X, _⟩, _⟩ := X; exact X.here
theorem Sd.x (X : Sd l Z n0 y B ml rt R k T h cc ss) : (owp k).tables.exec = Jvm.exec := X.2.2.1
theorem Sd.d (X : Sd l Z n0 y B ml rt R k T h cc ss) {pc : Nat} {r : Except ClassFile.DecodeError (ClassFile.Instr × Nat)} (hd : decode B pc = r) : decode (owc k).code pc = r := hb X.2.2.2.2.2.1 hd
theorem Sd.heap (X : Sd l Z n0 y B ml rt R k T h cc ss) : T.heap = h := X.2.1
/-! loads, stores, constants -/
theorem g_aloadN (X : Sd l Z n0 y B ml rt R k T h cc ss) {i : Fin 4} {v : Value} (hd : decode B pc = .ok (.aload_n i, 1)) (hl : Ls[i.val]? = some (.val v)) (hv : v.isRef = true) (pc' : Nat) (hp : pc + 1 = pc') (K : Go k n0 Q kc ks T pc' Ls (v :: st)) : Go k n0 Q kc ks T pc Ls st := by subst hp; exact K.of fun _ q => XS.aloadN X.hh X.x rfl (X.d hd) hl hv q
theorem g_aload (X : Sd l Z n0 y B ml rt R k T h cc ss) {i : Nat} {v : Value} (hd : decode B pc = .ok (.aload i, 2)) (hl : Ls[i]? = some (.val v)) (hv : v.isRef = true) (pc' : Nat) (hp : pc + 2 = pc') (K : Go k n0 Q kc ks T pc' Ls (v :: st)) : Go k n0 Q kc ks T pc Ls st := by subst hp; exact K.of fun _ q => XS.aload X.hh X.x rfl (X.d hd) hl hv q
theorem g_iloadN (X : Sd l Z n0 y B ml rt R k T h cc ss) {i : Fin 4} {v : Int32} (hd : decode B pc = .ok (.iload_n i, 1)) (hl : Ls[i.val]? = some (.val (.int v))) (pc' : Nat) (hp : pc + 1 = pc') (K : Go k n0 Q kc ks T pc' Ls (.int v :: st)) : Go k n0 Q kc ks T pc Ls st := by subst hp; exact K.of fun _ q => XS.iloadN X.hh X.x rfl (X.d hd) hl q
theorem g_iload (X : Sd l Z n0 y B ml rt R k T h cc ss) {i : Nat} {v : Int32} (hd : decode B pc = .ok (.iload i, 2)) (hl : Ls[i]? = some (.val (.int v))) (pc' : Nat) (hp : pc + 2 = pc') (K : Go k n0 Q kc ks T pc' Ls (.int v :: st)) : Go k n0 Q kc ks T pc Ls st := by subst hp; exact K.of fun _ q => XS.iload X.hh X.x rfl (X.d hd) hl q
theorem g_lloadN (X : Sd l Z n0 y B ml rt R k T h cc ss) {i : Fin 4} {v : Int64} (hd : decode B pc = .ok (.lload_n i, 1)) (hl : Ls[i.val]? = some (.val (.long v))) (pc' : Nat) (hp : pc + 1 = pc') (K : Go k n0 Q kc ks T pc' Ls (.long v :: st)) : Go k n0 Q kc ks T pc Ls st := by subst hp; exact K.of fun _ q => XT.lloadN X.hh X.x rfl (X.d hd) hl q
theorem g_lload (X : Sd l Z n0 y B ml rt R k T h cc ss) {i : Nat} {v : Int64} (hd : decode B pc = .ok (.lload i, 2)) (hl : Ls[i]? = some (.val (.long v))) (pc' : Nat) (hp : pc + 2 = pc') (K : Go k n0 Q kc ks T pc' Ls (.long v :: st)) : Go k n0 Q kc ks T pc Ls st := by subst hp; exact K.of fun _ q => XT.lload X.hh X.x rfl (X.d hd) hl q
theorem g_istoreN (X : Sd l Z n0 y B ml rt R k T h cc ss) {i : Fin 4} {v : Int32} (hd : decode B pc = .ok (.istore_n i, 1)) (L' : Array Slot) (hl : storeLocals Ls i.val (.int v) = some L') (pc' : Nat) (hp : pc + 1 = pc') (K : Go k n0 Q kc ks T pc' L' st) : Go k n0 Q kc ks T pc Ls (.int v :: st) := by subst hp; exact K.of fun _ q => XS.istoreN X.hh X.x rfl (X.d hd) rfl hl q
theorem g_istore (X : Sd l Z n0 y B ml rt R k T h cc ss) {i : Nat} {v : Int32} (hd : decode B pc = .ok (.istore i, 2)) (L' : Array Slot) (hl : storeLocals Ls i (.int v) = some L') (pc' : Nat) (hp : pc + 2 = pc') (K : Go k n0 Q kc ks T pc' L' st) : Go k n0 Q kc ks T pc Ls (.int v :: st) := by subst hp; exact K.of fun _ q => XS.istore X.hh X.x rfl (X.d hd) rfl hl q
theorem g_lstoreN (X : Sd l Z n0 y B ml rt R k T h cc ss) {i : Fin 4} {v : Int64} (hd : decode B pc = .ok (.lstore_n i, 1)) (L' : Array Slot) (hl : storeLocals Ls i.val (.long v) = some L') (pc' : Nat) (hp : pc + 1 = pc') (K : Go k n0 Q kc ks T pc' L' st) : Go k n0 Q kc ks T pc Ls (.long v :: st) := by subst hp; exact K.of fun _ q => XT.lstoreN X.hh X.x rfl (X.d hd) rfl hl q
theorem g_lstore (X : Sd l Z n0 y B ml rt R k T h cc ss) {i : Nat} {v : Int64} (hd : decode B pc = .ok (.lstore i, 2)) (L' : Array Slot) (hl : storeLocals Ls i (.long v) = some L') (pc' : Nat) (hp : pc + 2 = pc') (K : Go k n0 Q kc ks T pc' L' st) : Go k n0 Q kc ks T pc Ls (.long v :: st) := by subst hp; exact K.of fun _ q => XT.lstore X.hh X.x rfl (X.d hd) rfl hl q
theorem g_astoreN (X : Sd l Z n0 y B ml rt R k T h cc ss) {i : Fin 4} {v : Value} (hd : decode B pc = .ok (.astore_n i, 1)) (hv : v.isRef = true) (L' : Array Slot) (hl : storeLocals Ls i.val v = some L') (pc' : Nat) (hp : pc + 1 = pc') (K : Go k n0 Q kc ks T pc' L' st) : Go k n0 Q kc ks T pc Ls (v :: st) := by subst hp; exact K.of fun _ q => XS.astoreN X.hh X.x rfl (X.d hd) rfl hv hl q
theorem g_astore (X : Sd l Z n0 y B ml rt R k T h cc ss) {i : Nat} {v : Value} (hd : decode B pc = .ok (.astore i, 2)) (hv : v.isRef = true) (L' : Array Slot) (hl : storeLocals Ls i v = some L') (pc' : Nat) (hp : pc + 2 = pc') (K : Go k n0 Q kc ks T pc' L' st) : Go k n0 Q kc ks T pc Ls (v :: st) := by subst hp; exact K.of fun _ q => XS.astore X.hh X.x rfl (X.d hd) rfl hv hl q
theorem g_iconst (X : Sd l Z n0 y B ml rt R k T h cc ss) {i : Int} (v : Int32) (hd : decode B pc = .ok (.iconst i, 1)) (hv : Int32.ofInt i = v) (pc' : Nat) (hp : pc + 1 = pc') (K : Go k n0 Q kc ks T pc' Ls (.int v :: st)) : Go k n0 Q kc ks T pc Ls st := by subst hp; exact K.of fun _ q => XT.iconstV X.hh X.x rfl v (X.d hd) hv q
theorem g_bipush (X : Sd l Z n0 y B ml rt R k T h cc ss) {i : Int} (v : Int32) (hd : decode B pc = .ok (.bipush i, 2)) (hv : (Int8.ofInt i).toInt32 = v) (pc' : Nat) (hp : pc + 2 = pc') (K : Go k n0 Q kc ks T pc' Ls (.int v :: st)) : Go k n0 Q kc ks T pc Ls st := by subst hp; exact K.of fun _ q => XT.bipushV X.hh X.x rfl v (X.d hd) hv q
theorem g_sipush (X : Sd l Z n0 y B ml rt R k T h cc ss) {i : Int} (v : Int32) (hd : decode B pc = .ok (.sipush i, 3)) (hv : (Int16.ofInt i).toInt32 = v) (pc' : Nat) (hp : pc + 3 = pc') (K : Go k n0 Q kc ks T pc' Ls (.int v :: st)) : Go k n0 Q kc ks T pc Ls st := by subst hp; exact K.of fun _ q => XT.sipushV X.hh X.x rfl v (X.d hd) hv q
theorem g_lconst (X : Sd l Z n0 y B ml rt R k T h cc ss) {i : Fin 2} (v : Int64) (hd : decode B pc = .ok (.lconst i, 1)) (hv : Int64.ofNat i = v) (pc' : Nat) (hp : pc + 1 = pc') (K : Go k n0 Q kc ks T pc' Ls (.long v :: st)) : Go k n0 Q kc ks T pc Ls st := by subst hp; exact K.of fun _ q => XT.lconstV X.hh X.x rfl v (X.d hd) hv q
theorem g_null (X : Sd l Z n0 y B ml rt R k T h cc ss) (hd : decode B pc = .ok (.aconst_null, 1)) (pc' : Nat) (hp : pc + 1 = pc') (K : Go k n0 Q kc ks T pc' Ls (.null :: st)) : Go k n0 Q kc ks T pc Ls st := by subst hp; exact K.of fun _ q => XS.aconstNull X.hh X.x rfl (X.d hd) q
theorem g_iinc (X : Sd l Z n0 y B ml rt R k T h cc ss) {i : Nat} {cst : Int} {x : Int32} (v : Int32) (hd : decode B pc = .ok (.iinc i cst, 3)) (hv : Int32.ofInt cst = v) (hl : Ls[i]? = some (.val (.int x))) (L' : Array Slot) (hl' : storeLocals Ls i (.int (x + v)) = some L') (pc' : Nat) (hp : pc + 3 = pc') (K : Go k n0 Q kc ks T pc' L' st) : Go k n0 Q kc ks T pc Ls st := by subst hp; exact K.of fun _ q => XT.iincV X.hh X.x rfl v (X.d hd) hv hl hl' q
/-! arithmetic -/
theorem g_iadd (X : Sd l Z n0 y B ml rt R k T h cc ss) {a b : Int32} (hd : decode B pc = .ok (.iadd, 1)) (pc' : Nat) (hp : pc + 1 = pc') (K : Go k n0 Q kc ks T pc' Ls (.int (a + b) :: st)) : Go k n0 Q kc ks T pc Ls (.int b :: .int a :: st) := by subst hp; exact K.of fun _ q => XS.iadd X.hh X.x rfl (X.d hd) rfl q
theorem g_isub (X : Sd l Z n0 y B ml rt R k T h cc ss) {a b : Int32} (hd : decode B pc = .ok (.isub, 1)) (pc' : Nat) (hp : pc + 1 = pc') (K : Go k n0 Q kc ks T pc' Ls (.int (a - b) :: st)) : Go k n0 Q kc ks T pc Ls (.int b :: .int a :: st) := by subst hp; exact K.of fun _ q => XS.isub X.hh X.x rfl (X.d hd) rfl q
theorem g_imul (X : Sd l Z n0 y B ml rt R k T h cc ss) {a b : Int32} (hd : decode B pc = .ok (.imul, 1)) (pc' : Nat) (hp : pc + 1 = pc') (K : Go k n0 Q kc ks T pc' Ls (.int (a * b) :: st)) : Go k n0 Q kc ks T pc Ls (.int b :: .int a :: st) := by subst hp; exact K.of fun _ q => XS.imul X.hh X.x rfl (X.d hd) rfl q
theorem g_idiv (X : Sd l Z n0 y B ml rt R k T h cc ss) {a b : Int32} (hd : decode B pc = .ok (.idiv, 1)) (hb : b ≠ 0) (pc' : Nat) (hp : pc + 1 = pc') (K : Go k n0 Q kc ks T pc' Ls (.int (a / b) :: st)) : Go k n0 Q kc ks T pc Ls (.int b :: .int a :: st) := by subst hp; exact K.of fun _ q => XS.idiv X.hh X.x rfl (X.d hd) rfl hb q
theorem g_irem (X : Sd l Z n0 y B ml rt R k T h cc ss) {a b : Int32} (hd : decode B pc = .ok (.irem, 1)) (hb : b ≠ 0) (pc' : Nat) (hp : pc + 1 = pc') (K : Go k n0 Q kc ks T pc' Ls (.int (a % b) :: st)) : Go k n0 Q kc ks T pc Ls (.int b :: .int a :: st) := by
  subst hp; obtain ⟨⟨locs, Y, N⟩, eh, hc⟩ := X
  exact K.of fun _ q => iremM Y hc.1 (g := mkF (owm k) pc Ls (.int b :: .int a :: st)) rfl (Jvm.hb hc.2.2.2.1 hd) rfl hb q
theorem g_iand (X : Sd l Z n0 y B ml rt R k T h cc ss) {a b : Int32} (hd : decode B pc = .ok (.iand, 1)) (pc' : Nat) (hp : pc + 1 = pc') (K : Go k n0 Q kc ks T pc' Ls (.int (a &&& b) :: st)) : Go k n0 Q kc ks T pc Ls (.int b :: .int a :: st) := by subst hp; exact K.of fun _ q => XS.iand X.hh X.x rfl (X.d hd) rfl q
theorem g_ior (X : Sd l Z n0 y B ml rt R k T h cc ss) {a b : Int32} (hd : decode B pc = .ok (.ior, 1)) (pc' : Nat) (hp : pc + 1 = pc') (K : Go k n0 Q kc ks T pc' Ls (.int (a ||| b) :: st)) : Go k n0 Q kc ks T pc Ls (.int b :: .int a :: st) := by subst hp; exact K.of fun _ q => XS.ior X.hh X.x rfl (X.d hd) rfl q
theorem g_ixor (X : Sd l Z n0 y B ml rt R k T h cc ss) {a b : Int32} (hd : decode B pc = .ok (.ixor, 1)) (pc' : Nat) (hp : pc + 1 = pc') (K : Go k n0 Q kc ks T pc' Ls (.int (a ^^^ b) :: st)) : Go k n0 Q kc ks T pc Ls (.int b :: .int a :: st) := by subst hp; exact K.of fun _ q => XS.ixor X.hh X.x rfl (X.d hd) rfl q
theorem g_ishl (X : Sd l Z n0 y B ml rt R k T h cc ss) {a b : Int32} (hd : decode B pc = .ok (.ishl, 1)) (pc' : Nat) (hp : pc + 1 = pc') (K : Go k n0 Q kc ks T pc' Ls (.int (a <<< (b &&& 31)) :: st)) : Go k n0 Q kc ks T pc Ls (.int b :: .int a :: st) := by subst hp; exact K.of fun _ q => XS.ishl X.hh X.x rfl (X.d hd) rfl q
theorem g_ishr (X : Sd l Z n0 y B ml rt R k T h cc ss) {a b : Int32} (hd : decode B pc = .ok (.ishr, 1)) (pc' : Nat) (hp : pc + 1 = pc') (K : Go k n0 Q kc ks T pc' Ls (.int (a >>> (b &&& 31)) :: st)) : Go k n0 Q kc ks T pc Ls (.int b :: .int a :: st) := by subst hp; exact K.of fun _ q => XS.ishr X.hh X.x rfl (X.d hd) rfl q
theorem g_iushr (X : Sd l Z n0 y B ml rt R k T h cc ss) {a b : Int32} (hd : decode B pc = .ok (.iushr, 1)) (pc' : Nat) (hp : pc + 1 = pc') (K : Go k n0 Q kc ks T pc' Ls (.int ((a.toUInt32 >>> (b &&& 31).toUInt32).toInt32) :: st)) : Go k n0 Q kc ks T pc Ls (.int b :: .int a :: st) := by subst hp; exact K.of fun _ q => XS.iushr X.hh X.x rfl (X.d hd) rfl q
theorem g_ineg (X : Sd l Z n0 y B ml rt R k T h cc ss) {a : Int32} (hd : decode B pc = .ok (.ineg, 1)) (pc' : Nat) (hp : pc + 1 = pc') (K : Go k n0 Q kc ks T pc' Ls (.int (-a) :: st)) : Go k n0 Q kc ks T pc Ls (.int a :: st) := by subst hp; exact K.of fun _ q => XS.ineg X.hh X.x rfl (X.d hd) rfl q
theorem g_ladd (X : Sd l Z n0 y B ml rt R k T h cc ss) {a b : Int64} (hd : decode B pc = .ok (.ladd, 1)) (pc' : Nat) (hp : pc + 1 = pc') (K : Go k n0 Q kc ks T pc' Ls (.long (a + b) :: st)) : Go k n0 Q kc ks T pc Ls (.long b :: .long a :: st) := by subst hp; exact K.of fun _ q => XS.ladd X.hh X.x rfl (X.d hd) rfl q
theorem g_lsub (X : Sd l Z n0 y B ml rt R k T h cc ss) {a b : Int64} (hd : decode B pc = .ok (.lsub, 1)) (pc' : Nat) (hp : pc + 1 = pc') (K : Go k n0 Q kc ks T pc' Ls (.long (a - b) :: st)) : Go k n0 Q kc ks T pc Ls (.long b :: .long a :: st) := by subst hp; exact K.of fun _ q => XS.lsub X.hh X.x rfl (X.d hd) rfl q
theorem g_land (X : Sd l Z n0 y B ml rt R k T h cc ss) {a b : Int64} (hd : decode B pc = .ok (.land, 1)) (pc' : Nat) (hp : pc + 1 = pc') (K : Go k n0 Q kc ks T pc' Ls (.long (a &&& b) :: st)) : Go k n0 Q kc ks T pc Ls (.long b :: .long a :: st) := by subst hp; exact K.of fun _ q => XS.land X.hh X.x rfl (X.d hd) rfl q
theorem g_lushr (X : Sd l Z n0 y B ml rt R k T h cc ss) {a : Int64} {b : Int32} (hd : decode B pc = .ok (.lushr, 1)) (pc' : Nat) (hp : pc + 1 = pc') (K : Go k n0 Q kc ks T pc' Ls (.long ((a.toUInt64 >>> (b &&& 0x3f).toInt64.toUInt64).toInt64) :: st)) : Go k n0 Q kc ks T pc Ls (.int b :: .long a :: st) := by subst hp; exact K.of fun _ q => XS.lushr X.hh X.x rfl (X.d hd) rfl q
theorem g_i2l (X : Sd l Z n0 y B ml rt R k T h cc ss) {a : Int32} (hd : decode B pc = .ok (.i2l, 1)) (pc' : Nat) (hp : pc + 1 = pc') (K : Go k n0 Q kc ks T pc' Ls (.long a.toInt64 :: st)) : Go k n0 Q kc ks T pc Ls (.int a :: st) := by subst hp; exact K.of fun _ q => XS.i2l X.hh X.x rfl (X.d hd) rfl q
theorem g_l2i (X : Sd l Z n0 y B ml rt R k T h cc ss) {a : Int64} (hd : decode B pc = .ok (.l2i, 1)) (pc' : Nat) (hp : pc + 1 = pc') (K : Go k n0 Q kc ks T pc' Ls (.int a.toInt32 :: st)) : Go k n0 Q kc ks T pc Ls (.long a :: st) := by subst hp; exact K.of fun _ q => XS.l2i X.hh X.x rfl (X.d hd) rfl q
theorem g_i2b (X : Sd l Z n0 y B ml rt R k T h cc ss) {a : Int32} (hd : decode B pc = .ok (.i2b, 1)) (pc' : Nat) (hp : pc + 1 = pc') (K : Go k n0 Q kc ks T pc' Ls (.int a.toInt8.toInt32 :: st)) : Go k n0 Q kc ks T pc Ls (.int a :: st) := by subst hp; exact K.of fun _ q => XS.i2b X.hh X.x rfl (X.d hd) rfl q
theorem g_i2c (X : Sd l Z n0 y B ml rt R k T h cc ss) {a : Int32} (hd : decode B pc = .ok (.i2c, 1)) (pc' : Nat) (hp : pc + 1 = pc') (K : Go k n0 Q kc ks T pc' Ls (.int a.toUInt32.toUInt16.toUInt32.toInt32 :: st)) : Go k n0 Q kc ks T pc Ls (.int a :: st) := by subst hp; exact K.of fun _ q => XS.i2c X.hh X.x rfl (X.d hd) rfl q
theorem g_lcmp (X : Sd l Z n0 y B ml rt R k T h cc ss) {a b : Int64} (hd : decode B pc = .ok (.lcmp, 1)) (pc' : Nat) (hp : pc + 1 = pc') (K : Go k n0 Q kc ks T pc' Ls (.int (XT.cmpL a b) :: st)) : Go k n0 Q kc ks T pc Ls (.long b :: .long a :: st) := by subst hp; exact K.of fun _ q => XT.lcmp X.hh X.x rfl (X.d hd) rfl q
/-! the stack -/
theorem g_dup (X : Sd l Z n0 y B ml rt R k T h cc ss) {v : Value} (hd : decode B pc = .ok (.dup, 1)) (hc : v.category = 1) (pc' : Nat) (hp : pc + 1 = pc') (K : Go k n0 Q kc ks T pc' Ls (v :: v :: st)) : Go k n0 Q kc ks T pc Ls (v :: st) := by subst hp; exact K.of fun _ q => XS.dup X.hh X.x rfl (X.d hd) rfl hc q
theorem g_pop (X : Sd l Z n0 y B ml rt R k T h cc ss) {v : Value} (hd : decode B pc = .ok (.pop, 1)) (hc : v.category = 1) (pc' : Nat) (hp : pc + 1 = pc') (K : Go k n0 Q kc ks T pc' Ls st) : Go k n0 Q kc ks T pc Ls (v :: st) := by subst hp; exact K.of fun _ q => XS.pop X.hh X.x rfl (X.d hd) rfl hc q
theorem g_dupX1 (X : Sd l Z n0 y B ml rt R k T h cc ss) {v w : Value} (hd : decode B pc = .ok (.dup_x1, 1)) (hc : v.category = 1) (hc2 : w.category = 1) (pc' : Nat) (hp : pc + 1 = pc') (K : Go k n0 Q kc ks T pc' Ls (v :: w :: v :: st)) : Go k n0 Q kc ks T pc Ls (v :: w :: st) := by subst hp; exact K.of fun _ q => XS.dupX1 X.hh X.x rfl (X.d hd) rfl hc hc2 q
theorem g_dup2 (X : Sd l Z n0 y B ml rt R k T h cc ss) {v w : Value} (hd : decode B pc = .ok (.dup2, 1)) (hc : v.category = 1) (hc2 : w.category = 1) (pc' : Nat) (hp : pc + 1 = pc') (K : Go k n0 Q kc ks T pc' Ls (v :: w :: v :: w :: st)) : Go k n0 Q kc ks T pc Ls (v :: w :: st) := by subst hp; exact K.of fun _ q => XT.dup2 X.hh X.x rfl (X.d hd) rfl hc hc2 q
/-! jumps -/
theorem g_goto (X : Sd l Z n0 y B ml rt R k T h cc ss) {o : Int} (hd : decode B pc = .ok (.goto o, 3)) (pc' : Nat) (ho : 0 ≤ (pc : Int) + o) (hp : ((pc : Int) + o).toNat = pc') (K : Go k n0 Q kc ks T pc' Ls st) : Go k n0 Q kc ks T pc Ls st := K.of fun _ q => XS.goto X.hh X.x rfl rfl (X.d hd) ho hp q
theorem g_if (X : Sd l Z n0 y B ml rt R k T h cc ss) {cd : ClassFile.Cond} {a : Int32} {o : Int} {C : Prop} (hc : ifCond.holds cd a = true ↔ C) (hd : decode B pc = .ok (.ifCond cd o, 3)) (pT : Nat) (ho : 0 ≤ (pc : Int) + o) (hT : ((pc : Int) + o).toNat = pT) (pF : Nat) (hF : pc + 3 = pF) (K1 : C → Go k n0 Q kc ks T pT Ls st) (K2 : ¬ C → Go k n0 Q kc ks T pF Ls st) : Go k n0 Q kc ks T pc Ls (.int a :: st) := by
  subst hF
  cases q : ifCond.holds cd a with
  | true => exact (K1 (hc.mp q)).of fun _ z => XS.ifYes X.hh X.x rfl rfl (X.d hd) rfl q ho hT z
  | false => exact (K2 (fun z => by rw [hc.mpr z] at q; cases q)).of fun _ z => XS.ifNo X.hh X.x rfl (X.d hd) rfl q z
theorem g_icmp (X : Sd l Z n0 y B ml rt R k T h cc ss) {cd : ClassFile.Cond} {a b : Int32} {o : Int} {C : Prop} (hc : if_icmp.holds cd a b = true ↔ C) (hd : decode B pc = .ok (.if_icmp cd o, 3)) (pT : Nat) (ho : 0 ≤ (pc : Int) + o) (hT : ((pc : Int) + o).toNat = pT) (pF : Nat) (hF : pc + 3 = pF) (K1 : C → Go k n0 Q kc ks T pT Ls st) (K2 : ¬ C → Go k n0 Q kc ks T pF Ls st) : Go k n0 Q kc ks T pc Ls (.int b :: .int a :: st) := by
  subst hF
  cases q : if_icmp.holds cd a b with
  | true => exact (K1 (hc.mp q)).of fun _ z => XS.icmpYes X.hh X.x rfl rfl (X.d hd) rfl q ho hT z
  | false => exact (K2 (fun z => by rw [hc.mpr z] at q; cases q)).of fun _ z => XS.icmpNo X.hh X.x rfl (X.d hd) rfl q z
/-- the same, told the other way round: the jump is taken where C fails -/
theorem g_ifN (X : Sd l Z n0 y B ml rt R k T h cc ss) {cd : ClassFile.Cond} {a : Int32} {o : Int} {C : Prop} (hc : ifCond.holds cd a = true ↔ ¬ C) (hd : decode B pc = .ok (.ifCond cd o, 3)) (pT : Nat) (ho : 0 ≤ (pc : Int) + o) (hT : ((pc : Int) + o).toNat = pT) (pF : Nat) (hF : pc + 3 = pF) (K1 : C → Go k n0 Q kc ks T pF Ls st) (K2 : ¬ C → Go k n0 Q kc ks T pT Ls st) : Go k n0 Q kc ks T pc Ls (.int a :: st) :=
  g_if X hc hd pT ho hT pF hF K2 fun q => K1 (Classical.not_not.mp q)
theorem g_icmpN (X : Sd l Z n0 y B ml rt R k T h cc ss) {cd : ClassFile.Cond} {a b : Int32} {o : Int} {C : Prop} (hc : if_icmp.holds cd a b = true ↔ ¬ C) (hd : decode B pc = .ok (.if_icmp cd o, 3)) (pT : Nat) (ho : 0 ≤ (pc : Int) + o) (hT : ((pc : Int) + o).toNat = pT) (pF : Nat) (hF : pc + 3 = pF) (K1 : C → Go k n0 Q kc ks T pF Ls st) (K2 : ¬ C → Go k n0 Q kc ks T pT Ls st) : Go k n0 Q kc ks T pc Ls (.int b :: .int a :: st) :=
  g_icmp X hc hd pT ho hT pF hF K2 fun q => K1 (Classical.not_not.mp q)
theorem z_eq {a : Int32} : ifCond.holds .eq a = true ↔ a = 0 := by simp [ifCond.holds]
theorem z_ne {a : Int32} : ifCond.holds .ne a = true ↔ ¬ a = 0 := by simp [ifCond.holds]
theorem z_lt {a : Int32} : ifCond.holds .lt a = true ↔ a < 0 := by simp [ifCond.holds]
theorem z_ge {a : Int32} : ifCond.holds .ge a = true ↔ ¬ a < 0 := by simp [ifCond.holds, Int32.not_lt]
theorem z_gt {a : Int32} : ifCond.holds .gt a = true ↔ 0 < a := by simp [ifCond.holds]
theorem z_le {a : Int32} : ifCond.holds .le a = true ↔ ¬ 0 < a := by simp [ifCond.holds, Int32.not_lt]
theorem i_eq {a b : Int32} : if_icmp.holds .eq a b = true ↔ a = b := by simp [if_icmp.holds]
theorem i_ne {a b : Int32} : if_icmp.holds .ne a b = true ↔ ¬ a = b := by simp [if_icmp.holds]
theorem i_lt {a b : Int32} : if_icmp.holds .lt a b = true ↔ a < b := by simp [if_icmp.holds]
theorem i_ge {a b : Int32} : if_icmp.holds .ge a b = true ↔ ¬ a < b := by simp [if_icmp.holds, Int32.not_lt]
theorem i_gt {a b : Int32} : if_icmp.holds .gt a b = true ↔ b < a := by simp [if_icmp.holds]
theorem i_le {a b : Int32} : if_icmp.holds .le a b = true ↔ ¬ b < a := by simp [if_icmp.holds, Int32.not_lt]
theorem l_of {b : Bool} {C : Prop} (h1 : C → b = true) (h2 : ¬ C → b = false) : b = true ↔ C := ⟨fun q => Classical.byContradiction fun z => Bool.noConfusion ((h2 z).symm.trans q), h1⟩
theorem l_eq {a b : Int64} : ifCond.holds .eq (XT.cmpL a b) = true ↔ a = b := l_of XT.ll_eq_t XT.ll_eq_f
theorem l_ne {a b : Int64} : ifCond.holds .ne (XT.cmpL a b) = true ↔ ¬ a = b := l_of XT.ll_ne_t (fun q => XT.ll_ne_f (Classical.not_not.mp q))
theorem l_lt {a b : Int64} : ifCond.holds .lt (XT.cmpL a b) = true ↔ a < b := l_of XT.ll_lt_t XT.ll_lt_f
theorem l_ge {a b : Int64} : ifCond.holds .ge (XT.cmpL a b) = true ↔ ¬ a < b := l_of XT.ll_ge_t (fun q => XT.ll_ge_f (Classical.not_not.mp q))
theorem l_gt {a b : Int64} : ifCond.holds .gt (XT.cmpL a b) = true ↔ b < a := l_of XT.ll_gt_t XT.ll_gt_f
theorem l_le {a b : Int64} : ifCond.holds .le (XT.cmpL a b) = true ↔ ¬ b < a := l_of XT.ll_le_t (fun q => XT.ll_le_f (Classical.not_not.mp q))
theorem g_nullY (X : Sd l Z n0 y B ml rt R k T h cc ss) {o : Int} (hd : decode B pc = .ok (.ifnull o, 3)) (pc' : Nat) (ho : 0 ≤ (pc : Int) + o) (hp : ((pc : Int) + o).toNat = pc') (K : Go k n0 Q kc ks T pc' Ls st) : Go k n0 Q kc ks T pc Ls (.null :: st) := K.of fun _ q => XS.ifnullYes X.hh X.x rfl rfl (X.d hd) rfl ho hp q
theorem g_nullN (X : Sd l Z n0 y B ml rt R k T h cc ss) {o : Int} {a : Addr} (hd : decode B pc = .ok (.ifnull o, 3)) (pc' : Nat) (hp : pc + 3 = pc') (K : Go k n0 Q kc ks T pc' Ls st) : Go k n0 Q kc ks T pc Ls (.ref a :: st) := by subst hp; exact K.of fun _ q => XS.ifnullNo X.hh X.x rfl (X.d hd) rfl q
theorem g_nonnullY (X : Sd l Z n0 y B ml rt R k T h cc ss) {o : Int} {a : Addr} (hd : decode B pc = .ok (.ifnonnull o, 3)) (pc' : Nat) (ho : 0 ≤ (pc : Int) + o) (hp : ((pc : Int) + o).toNat = pc') (K : Go k n0 Q kc ks T pc' Ls st) : Go k n0 Q kc ks T pc Ls (.ref a :: st) := K.of fun _ q => XS.ifnonnullYes X.hh X.x rfl rfl (X.d hd) rfl ho hp q
theorem g_nonnullN (X : Sd l Z n0 y B ml rt R k T h cc ss) {o : Int} (hd : decode B pc = .ok (.ifnonnull o, 3)) (pc' : Nat) (hp : pc + 3 = pc') (K : Go k n0 Q kc ks T pc' Ls st) : Go k n0 Q kc ks T pc Ls (.null :: st) := by subst hp; exact K.of fun _ q => XS.ifnonnullNo X.hh X.x rfl (X.d hd) rfl q
theorem g_acmpY (X : Sd l Z n0 y B ml rt R k T h cc ss) {cd : ClassFile.ACond} {v w : Value} {o : Int} (hd : decode B pc = .ok (.if_acmp cd o, 3)) (hv : v.isRef = true) (hw : w.isRef = true) (hc : XT.acmp cd v w = true) (pc' : Nat) (ho : 0 ≤ (pc : Int) + o) (hp : ((pc : Int) + o).toNat = pc') (K : Go k n0 Q kc ks T pc' Ls st) : Go k n0 Q kc ks T pc Ls (w :: v :: st) := K.of fun _ q => XT.acmpYes X.hh X.x rfl rfl (X.d hd) rfl hv hw hc ho hp q
theorem g_acmpN (X : Sd l Z n0 y B ml rt R k T h cc ss) {cd : ClassFile.ACond} {v w : Value} {o : Int} (hd : decode B pc = .ok (.if_acmp cd o, 3)) (hv : v.isRef = true) (hw : w.isRef = true) (hc : XT.acmp cd v w = false) (pc' : Nat) (hp : pc + 3 = pc') (K : Go k n0 Q kc ks T pc' Ls st) : Go k n0 Q kc ks T pc Ls (w :: v :: st) := by subst hp; exact K.of fun _ q => XT.acmpNo X.hh X.x rfl (X.d hd) rfl hv hw hc q
theorem a_eq {a b : Addr} : XT.acmp .eq (.ref a) (.ref b) = true ↔ a = b := by simp [XT.acmp]
theorem a_ne {a b : Addr} : XT.acmp .ne (.ref a) (.ref b) = true ↔ ¬ a = b := by simp [XT.acmp]
theorem g_acmp (X : Sd l Z n0 y B ml rt R k T h cc ss) {cd : ClassFile.ACond} {a b : Addr} {o : Int} {C : Prop} (hc : XT.acmp cd (.ref a) (.ref b) = true ↔ C) (hd : decode B pc = .ok (.if_acmp cd o, 3)) (pT : Nat) (ho : 0 ≤ (pc : Int) + o) (hT : ((pc : Int) + o).toNat = pT) (pF : Nat) (hF : pc + 3 = pF) (K1 : C → Go k n0 Q kc ks T pT Ls st) (K2 : ¬ C → Go k n0 Q kc ks T pF Ls st) : Go k n0 Q kc ks T pc Ls (.ref b :: .ref a :: st) := by
  cases q : XT.acmp cd (.ref a) (.ref b) with
  | true => exact g_acmpY X hd rfl rfl q pT ho hT (K1 (hc.mp q))
  | false => exact g_acmpN X hd rfl rfl q pF hF (K2 (fun z => by rw [hc.mpr z] at q; cases q))
theorem g_acmpNN (X : Sd l Z n0 y B ml rt R k T h cc ss) {cd : ClassFile.ACond} {a b : Addr} {o : Int} {C : Prop} (hc : XT.acmp cd (.ref a) (.ref b) = true ↔ ¬ C) (hd : decode B pc = .ok (.if_acmp cd o, 3)) (pT : Nat) (ho : 0 ≤ (pc : Int) + o) (hT : ((pc : Int) + o).toNat = pT) (pF : Nat) (hF : pc + 3 = pF) (K1 : C → Go k n0 Q kc ks T pF Ls st) (K2 : ¬ C → Go k n0 Q kc ks T pT Ls st) : Go k n0 Q kc ks T pc Ls (.ref b :: .ref a :: st) :=
  g_acmp X hc hd pT ho hT pF hF K2 fun q => K1 (Classical.not_not.mp q)
/-! constants of the pool -/
theorem g_ldcI (X : Sd l Z n0 y B ml rt R k T h cc ss) {i : Nat} {v : Int32} (w : (Jvm.Cond.constant y.cls i v).before a0 Z = true) (hd : decode B pc = .ok (.ldc i, 2)) (pc' : Nat) (hp : pc + 2 = pc') (K : Go k n0 Q kc ks T pc' Ls (.int v :: st)) : Go k n0 Q kc ks T pc Ls st := by
  subst hp; obtain ⟨⟨locs, Y, N⟩, eh, hx, hZ, hown, hby, -⟩ := X
  exact K.of fun _ q => Y.ldcI hx hown (mv hZ w) rfl (Jvm.hb hby hd) q
theorem g_ldc2J (X : Sd l Z n0 y B ml rt R k T h cc ss) {i : Nat} {v : Int64} (w : (Jvm.Cond.constantLong y.cls i v).before a0 Z = true) (hd : decode B pc = .ok (.ldc2_w i, 3)) (pc' : Nat) (hp : pc + 3 = pc') (K : Go k n0 Q kc ks T pc' Ls (.long v :: st)) : Go k n0 Q kc ks T pc Ls st := by
  subst hp; obtain ⟨⟨locs, Y, N⟩, eh, hx, hZ, hown, hby, -⟩ := X
  exact K.of fun _ q => Y.ldc2J hx hown (mv hZ w) rfl (Jvm.hb hby hd) q
/-! returns -/
theorem g_retI (X : Sd l Z n0 y B ml (some .int) R k T h cc ss) {z : Int32} (hd : decode B pc = .ok (.ireturn, 1)) (hk : cc ≤ kc) (hs : ss ≤ ks) (hQ : Q (some (.int z)) h) : Go k n0 Q kc ks T pc Ls [.int z] :=
  Go.end X hk hs (fun q => nomatch q) (fun fs hr => by obtain ⟨⟨locs, Y, N⟩, eh, hx, hZ, hown, hby, hml, hnm, hrt, hlk⟩ := X; exact Y.ireturnOut hx hrt rfl (Or.inl rfl) (Jvm.hb hby hd) hr) hQ
theorem g_retN (X : Sd l Z n0 y B ml rt R k T h cc ss) {z : Int32} {t : FieldType} (hrt : rt = some t) (ht : t = .boolean ∨ t = .byte ∨ t = .char ∨ t = .short) (hd : decode B pc = .ok (.ireturn, 1)) (hk : cc ≤ kc) (hs : ss ≤ ks) (hQ : Q (some (.int (nar t z))) h) : Go k n0 Q kc ks T pc Ls [.int z] :=
  Go.end X hk hs (fun q => by rw [hrt] at q; cases q) (fun fs hr => by obtain ⟨⟨locs, Y, N⟩, eh, hx, hZ, hown, hby, hml, hnm, hrt', hlk⟩ := X; exact retN Y hx (hrt'.trans hrt) ht (Jvm.hb hby hd) hr) hQ
theorem g_retZ (X : Sd l Z n0 y B ml (some .boolean) R k T h cc ss) {z : Int32} (hd : decode B pc = .ok (.ireturn, 1)) (hk : cc ≤ kc) (hs : ss ≤ ks) (hQ : Q (some (.int (z &&& 1))) h) : Go k n0 Q kc ks T pc Ls [.int z] := g_retN X rfl (Or.inl rfl) hd hk hs hQ
theorem g_retL (X : Sd l Z n0 y B ml (some .long) R k T h cc ss) {z : Int64} (hd : decode B pc = .ok (.lreturn, 1)) (hk : cc ≤ kc) (hs : ss ≤ ks) (hQ : Q (some (.long z)) h) : Go k n0 Q kc ks T pc Ls [.long z] :=
  Go.end X hk hs (fun q => nomatch q) (fun fs hr => by obtain ⟨⟨locs, Y, N⟩, eh, hx, hZ, hown, hby, hml, hnm, hrt, hlk⟩ := X; exact Y.lreturnOut hx hrt (Jvm.hb hby hd) hr) hQ
theorem g_retA (X : Sd l Z n0 y B ml rt R k T h cc ss) {v : Value} {t : FieldType} (hrt : rt = some t) (ht : t.isReference = true) (hv : v.isRef = true) (hd : decode B pc = .ok (.areturn, 1)) (hk : cc ≤ kc) (hs : ss ≤ ks) (hQ : Q (some v) h) : Go k n0 Q kc ks T pc Ls [v] :=
  Go.end X hk hs (fun q => by rw [hrt] at q; cases q) (fun fs hr => by obtain ⟨⟨locs, Y, N⟩, eh, hx, hZ, hown, hby, hml, hnm, hrt', hlk⟩ := X; exact Y.areturnOut hx hv (hrt'.trans hrt) ht (Jvm.hb hby hd) hr) hQ
theorem g_ret (X : Sd l Z n0 y B ml none R k T h cc ss) (hd : decode B pc = .ok (.return_, 1)) (hk : cc ≤ kc) (hs : ss ≤ ks) (hQ : Q none h) : Go k n0 Q kc ks T pc Ls [] :=
  Go.end X hk hs (fun _ => rfl) (fun fs hr => by obtain ⟨⟨locs, Y, N⟩, eh, hx, hZ, hown, hby, hml, hnm, hrt, hlk⟩ := X; exact Y.returnOut hx hrt (Jvm.hb hby hd) hr) hQ
/-! objects -/
theorem g_new (X : Sd l Z n0 y B ml rt R k T h cc ss) {i n : Nat} {C : String} (w : (Jvm.Cond.classLink y.cls i C).before a0 Z = true) (wi : (Jvm.Cond.instantiable C n).before a0 Z = true) (wz : (Jvm.Cond.initialized C).before a0 Z = true) (hd : decode B pc = .ok (.new i, 3)) (hc : cc + 1 ≤ R.cells) (hl : ss + n ≤ R.slots) (pc' : Nat) (hp : pc + 3 = pc')
    (K : ∀ T' h' a, Sd l Z n0 y B ml rt R k T' h' (cc + 1) (ss + n) → a = h.size → Ext h h' → Exa Z h' a C → (∀ {O nm d : String} {ty : FieldType}, Laid Z a0 C O nm d → parseFieldDescriptor d = some ty → Fld Z h' a O nm d (defaultValue ty)) → Go k n0 Q kc ks T' pc' Ls (.ref a :: st)) : Go k n0 Q kc ks T pc Ls st := by
  subst hp; obtain ⟨⟨locs, Y, N⟩, eh, hx, hZ, hown, hby, hr⟩ := X
  obtain ⟨T2, h2, X2, e2, E2, A2, D2, -, st2⟩ := newO Y hx hZ hown w wi wz eh (g := mkF (owm k) pc Ls st) rfl (Jvm.hb hby hd) hc hl
  exact (K T2 h2 h.size ⟨⟨locs, X2, N⟩, e2, hx, hZ, hown, hby, hr⟩ rfl E2 A2 D2).of st2
theorem g_getF (X : Sd l Z n0 y B ml rt R k T h cc ss) {i : Nat} {R0 O n d : String} (w : (Jvm.Cond.fieldLink y.cls i R0 n d).before a0 Z = true) (via : Via Z R0 O n d) {a : Addr} {v : Value} (F : Fld Z h a O n d v) (hd : decode B pc = .ok (.getfield i, 3)) (pc' : Nat) (hp : pc + 3 = pc')
    (K : ∀ T', Sd l Z n0 y B ml rt R k T' h cc ss → Go k n0 Q kc ks T' pc' Ls (v :: st)) : Go k n0 Q kc ks T pc Ls (.ref a :: st) := by
  subst hp; obtain ⟨⟨locs, Y, N⟩, eh, hx, hZ, hown, hby, hr⟩ := X
  obtain ⟨T2, X2, e2, st2⟩ := getF Y hx hZ hown (host := "") (Or.inl w) via eh F (g := mkF (owm k) pc Ls (.ref a :: st)) rfl rfl (Jvm.hb hby hd)
  exact (K T2 ⟨⟨locs, X2, N⟩, e2, hx, hZ, hown, hby, hr⟩).of st2
theorem g_getFH (X : Sd l Z n0 y B ml rt R k T h cc ss) {i : Nat} {R0 O n d host : String} (w : (Jvm.Cond.fieldLinkNest y.cls i R0 n d host).before a0 Z = true) (via : Via Z R0 O n d) {a : Addr} {v : Value} (F : Fld Z h a O n d v) (hd : decode B pc = .ok (.getfield i, 3)) (pc' : Nat) (hp : pc + 3 = pc')
    (K : ∀ T', Sd l Z n0 y B ml rt R k T' h cc ss → Go k n0 Q kc ks T' pc' Ls (v :: st)) : Go k n0 Q kc ks T pc Ls (.ref a :: st) := by
  subst hp; obtain ⟨⟨locs, Y, N⟩, eh, hx, hZ, hown, hby, hr⟩ := X
  obtain ⟨T2, X2, e2, st2⟩ := getF Y hx hZ hown (Or.inr w) via eh F (g := mkF (owm k) pc Ls (.ref a :: st)) rfl rfl (Jvm.hb hby hd)
  exact (K T2 ⟨⟨locs, X2, N⟩, e2, hx, hZ, hown, hby, hr⟩).of st2
theorem g_getS (X : Sd l Z n0 y B ml rt R k T h cc ss) {i : Nat} {R0 O n d : String} (w : (Jvm.Cond.fieldLink y.cls i R0 n d).before a0 Z = true) (via : Via Z R0 O n d) {v : Value} (F : Sta Z h O n d v) (hd : decode B pc = .ok (.getstatic i, 3)) (pc' : Nat) (hp : pc + 3 = pc')
    (K : ∀ T', Sd l Z n0 y B ml rt R k T' h cc ss → Go k n0 Q kc ks T' pc' Ls (v :: st)) : Go k n0 Q kc ks T pc Ls st := by
  subst hp; obtain ⟨⟨locs, Y, N⟩, eh, hx, hZ, hown, hby, hr⟩ := X
  obtain ⟨T2, X2, e2, st2⟩ := getS2 Y hx hZ hown (host := "") (Or.inl w) via eh F (g := mkF (owm k) pc Ls st) rfl (Jvm.hb hby hd)
  exact (K T2 ⟨⟨locs, X2, N⟩, e2, hx, hZ, hown, hby, hr⟩).of st2
/-- a final field in a constructor of its class -/
theorem g_putFin (X : Sd l Z n0 y B ml rt R k T h cc ss) {i kk : Nat} {O n d C : String} (w : (Jvm.Cond.fieldLink y.cls i O n d).before a0 Z = true) {a : Addr} {v old : Value} (F : Fld Z h a O n d old) (E : Exa Z h a C) (L : (Jvm.Cond.laysFinal C O n d).before a0 Z = true) (ho : y.cls = O) (hi : y.name = "<init>") (wi : (Jvm.Cond.instantiable C kk).before a0 Z = true)
    (g0 : n0 ≤ a) (ty : FieldType) (hty : parseFieldDescriptor d = some ty) (hn : narrow ty v = v) (hf : fits ty v = true) (hd : decode B pc = .ok (.putfield i, 3)) (pc' : Nat) (hp : pc + 3 = pc')
    (K : ∀ T' h', Sd l Z n0 y B ml rt R k T' h' cc ss → Wr h h' a (Jvm.RoadKit.slotOf Z O n d) v → Go k n0 Q kc ks T' pc' Ls st) : Go k n0 Q kc ks T pc Ls (v :: .ref a :: st) := by
  subst hp; obtain ⟨⟨locs, Y, N⟩, eh, hx, hZ, hown, hby, hml, hnm, hr⟩ := X
  obtain ⟨T2, h2, X2, e2, W2, st2⟩ := putF Y hx hZ hown (host := "") (Or.inl w) Via.refl eh F E (Or.inr ⟨L, ho, hnm.trans hi⟩) wi hty hn hf (g := mkF (owm k) pc Ls (v :: .ref a :: st)) rfl rfl (Jvm.hb hby hd)
  exact (K T2 h2 ⟨⟨_, X2, Fr.snoc X2 N g0⟩, e2, hx, hZ, hown, hby, hml, hnm, hr⟩ W2).of st2
theorem g_putF (X : Sd l Z n0 y B ml rt R k T h cc ss) {i kk : Nat} {R0 O n d C : String} (w : (Jvm.Cond.fieldLink y.cls i R0 n d).before a0 Z = true) (via : Via Z R0 O n d) {a : Addr} {v old : Value} (F : Fld Z h a O n d old) (E : Exa Z h a C) (L : (Jvm.Cond.lays C O n d).before a0 Z = true) (wi : (Jvm.Cond.instantiable C kk).before a0 Z = true)
    (g0 : n0 ≤ a) (ty : FieldType) (hty : parseFieldDescriptor d = some ty) (hn : narrow ty v = v) (hf : fits ty v = true) (hd : decode B pc = .ok (.putfield i, 3)) (pc' : Nat) (hp : pc + 3 = pc')
    (K : ∀ T' h', Sd l Z n0 y B ml rt R k T' h' cc ss → Wr h h' a (Jvm.RoadKit.slotOf Z O n d) v → Go k n0 Q kc ks T' pc' Ls st) : Go k n0 Q kc ks T pc Ls (v :: .ref a :: st) := by
  subst hp; obtain ⟨⟨locs, Y, N⟩, eh, hx, hZ, hown, hby, hr⟩ := X
  obtain ⟨T2, h2, X2, e2, W2, st2⟩ := putF Y hx hZ hown (host := "") (Or.inl w) via eh F E (Or.inl L) wi hty hn hf (g := mkF (owm k) pc Ls (v :: .ref a :: st)) rfl rfl (Jvm.hb hby hd)
  exact (K T2 h2 ⟨⟨_, X2, Fr.snoc X2 N g0⟩, e2, hx, hZ, hown, hby, hr⟩ W2).of st2
theorem g_putFinN (X : Sd l Z n0 y B ml rt R k T h cc ss) {i kk : Nat} {O n d C : String} (w : (Jvm.Cond.fieldLink y.cls i O n d).before a0 Z = true) {a : Addr} {v old : Value} (v' : Value) (F : Fld Z h a O n d old) (E : Exa Z h a C) (L : (Jvm.Cond.laysFinal C O n d).before a0 Z = true) (ho : y.cls = O) (hi : y.name = "<init>") (wi : (Jvm.Cond.instantiable C kk).before a0 Z = true)
    (g0 : n0 ≤ a) (ty : FieldType) (hty : parseFieldDescriptor d = some ty) (hn : narrow ty v = v') (hf : fits ty v' = true) (hd : decode B pc = .ok (.putfield i, 3)) (pc' : Nat) (hp : pc + 3 = pc')
    (K : ∀ T' h', Sd l Z n0 y B ml rt R k T' h' cc ss → Wr h h' a (Jvm.RoadKit.slotOf Z O n d) v' → Go k n0 Q kc ks T' pc' Ls st) : Go k n0 Q kc ks T pc Ls (v :: .ref a :: st) := by
  subst hp; obtain ⟨⟨locs, Y, N⟩, eh, hx, hZ, hown, hby, hml, hnm, hr⟩ := X
  obtain ⟨T2, h2, X2, e2, W2, st2⟩ := putFN Y hx hZ hown w Via.refl eh F E (Or.inr ⟨L, ho, hnm.trans hi⟩) wi hty hn hf (g := mkF (owm k) pc Ls (v :: .ref a :: st)) rfl rfl (Jvm.hb hby hd)
  exact (K T2 h2 ⟨⟨_, X2, Fr.snoc X2 N g0⟩, e2, hx, hZ, hown, hby, hml, hnm, hr⟩ W2).of st2
theorem g_initO (X : Sd l Z n0 y B ml rt R k T h cc ss) {i : Nat} {a : Addr} (w1 : (Jvm.Cond.methodLink y.cls i Lib.objectInit).before a0 Z = true) (w2 : (Jvm.Cond.instanceMethod Lib.objectInit).before a0 Z = true) (w3 : (Jvm.Cond.code Lib.objectInit ⟨#[0xb1]⟩ 1 none).before a0 Z = true) (hsz : Ls.size = ml) (hf : 1 ≤ R.frames) (hl : (st.map fun v => v.category).sum + 12 ≤ R.locals) (hd : decode B pc = .ok (.invokespecial i, 3)) (pc' : Nat) (hp : pc + 3 = pc')
    (K : ∀ T', Sd l Z n0 y B ml rt R k T' h cc ss → Go k n0 Q kc ks T' pc' Ls st) : Go k n0 Q kc ks T pc Ls (.ref a :: st) := by
  subst hp; obtain ⟨⟨locs, Y, N⟩, eh, hx, hZ, hown, hby, hml, hr⟩ := X
  obtain ⟨T2, X2, e2, st2⟩ := initO Y hx hZ hown w1 w2 w3 eh (g := mkF (owm k) pc Ls (.ref a :: st)) rfl (hsz.trans hml.symm) rfl (Jvm.hb hby hd) hf (W := (st.map fun v => v.category).sum) (by show 2 * 0 + _ ≤ _; omega) hl
  exact (K T2 ⟨⟨locs, X2, N⟩, e2, hx, hZ, hown, hby, hml, hr⟩).of st2
/-! calls -/
theorem g_callS (X : Sd l Z n0 y B ml rt R k T h cc ss) {i : Nat} {z : MethodName} {Bz : ByteArray} {mz : Nat} {rz : Option FieldType} {rm : Room} {Qz : Option Value → Heap → Prop} (argsL rest : List Value) {ps : List FieldType} {pr : Option FieldType} (M : Met l Z n0 z Bz mz rz [] rm argsL.toArray h Qz rm.cells rm.slots)
    (w1 : (Jvm.Cond.methodLink y.cls i z).before a0 Z = true) (w2 : (Jvm.Cond.static z).before a0 Z = true) (w3 : (Jvm.Cond.initialized z.cls).before a0 Z = true) (w4 : (Jvm.Cond.code z Bz mz rz).before a0 Z = true) (hy : z.cls ≠ "java/lang/invoke/MethodHandle" ∧ z.cls ≠ "java/lang/invoke/VarHandle") (pd : parseMethodDescriptor z.desc = some ⟨ps, pr⟩) (hlen : argsL.length = ps.length)
    (hsz : Ls.size = ml) (hf : rm.frames + 1 ≤ R.frames) (hlo : (rest.map fun v => v.category).sum + (mz + 11) + rm.locals ≤ R.locals) (hc : cc + rm.cells ≤ R.cells) (hs : ss + rm.slots ≤ R.slots) (hd : decode B pc = .ok (.invokestatic i, 3)) (hst : st = argsL.reverse ++ rest) (pc' : Nat) (hp : pc + 3 = pc')
    (K : ∀ v T' h', Sd l Z n0 y B ml rt R k T' h' (cc + rm.cells) (ss + rm.slots) → Qz v h' → Go k n0 Q kc ks T' pc' Ls (v.toList ++ rest)) : Go k n0 Q kc ks T pc Ls st := by
  subst hp; obtain ⟨⟨locs, Y, N⟩, eh, hx, hZ, hown, hby, hml, hr⟩ := X
  obtain ⟨v, _, ⟨T', L', c', n'⟩, -, X', ⟨Lc, hQ, l1, y1, z1⟩, stp⟩ := Jvm.LawKit.callS Y hx (y := z) hown (mvT hZ w1) (mvT hZ w2) (mvT hZ w3) (mvT hZ w4) hy (backOf (W := (rest.map fun v => v.category).sum) (Q := fun v h L => Fr n0 L ∧ Qz v h) M hZ w4 w3 hf hlo) (g := mkF (owm k) pc Ls st) rfl (hsz.trans hml.symm) (argsL := argsL) (rest := rest) (lenOf pd hlen) hst (by show 2 * 0 + _ ≤ _; omega) (Jvm.hb hby hd) (fun _ _ => ⟨rfl, eh, hc, hs⟩)
  dsimp only [Pt.U, Pt.locs, Pt.cells, Pt.slots] at X' l1 y1 z1 stp hQ
  subst l1 y1 z1
  exact (K v T' _ ⟨⟨_, X', N.app hQ.1⟩, rfl, hx, hZ, hown, hby, hml, hr⟩ hQ.2).of stp
theorem g_callI (X : Sd l Z n0 y B ml rt R k T h cc ss) {i : Nat} {z : MethodName} {Bz : ByteArray} {mz : Nat} {rm : Room} {Qz : Option Value → Heap → Prop} (a : Addr) (argsL rest : List Value) {ps : List FieldType} {pr : Option FieldType} (M : Met l Z n0 z Bz mz none [] rm (Value.ref a :: argsL).toArray h Qz rm.cells rm.slots) (hi : z.name = "<init>")
    (w1 : (Jvm.Cond.methodLink y.cls i z).before a0 Z = true) (w2 : (Jvm.Cond.instanceMethod z).before a0 Z = true) (w3 : (Jvm.Cond.initialized z.cls).before a0 Z = true) (w4 : (Jvm.Cond.code z Bz mz none).before a0 Z = true) (hy : z.cls ≠ "java/lang/invoke/MethodHandle" ∧ z.cls ≠ "java/lang/invoke/VarHandle") (pd : parseMethodDescriptor z.desc = some ⟨ps, pr⟩) (hlen : argsL.length = ps.length)
    (hsz : Ls.size = ml) (hf : rm.frames + 1 ≤ R.frames) (hlo : (rest.map fun v => v.category).sum + (mz + 11) + rm.locals ≤ R.locals) (hc : cc + rm.cells ≤ R.cells) (hs : ss + rm.slots ≤ R.slots) (hd : decode B pc = .ok (.invokespecial i, 3)) (hst : st = argsL.reverse ++ .ref a :: rest) (pc' : Nat) (hp : pc + 3 = pc')
    (K : ∀ v T' h', Sd l Z n0 y B ml rt R k T' h' (cc + rm.cells) (ss + rm.slots) → Qz v h' → Go k n0 Q kc ks T' pc' Ls (v.toList ++ rest)) : Go k n0 Q kc ks T pc Ls st := by
  subst hp; obtain ⟨⟨locs, Y, N⟩, eh, hx, hZ, hown, hby, hml, hr⟩ := X
  obtain ⟨v, _, ⟨T', L', c', n'⟩, -, X', ⟨Lc, hQ, l1, y1, z1⟩, stp⟩ := Y.specialBack hx (y := z) hi hown (mvT hZ w1) (mvT hZ w2) (mvT hZ w4) hy (backOf (W := (rest.map fun v => v.category).sum) (Q := fun v h L => Fr n0 L ∧ Qz v h) M hZ w4 w3 hf hlo) (g := mkF (owm k) pc Ls st) rfl (hsz.trans hml.symm) (Steps.refl _) (a := a) (argsL := argsL) (rest := rest) (lenOf pd hlen) hst (by show 2 * 0 + _ ≤ _; omega) (Jvm.hb hby hd) (fun _ _ => ⟨rfl, eh, hc, hs⟩)
  dsimp only [Pt.U, Pt.locs, Pt.cells, Pt.slots] at X' l1 y1 z1 stp hQ
  subst l1 y1 z1
  exact (K v T' _ ⟨⟨_, X', N.app hQ.1⟩, rfl, hx, hZ, hown, hby, hml, hr⟩ hQ.2).of fun _ q => stp.trans q
/-- an instance method, found where it is named -/
theorem g_callV (X : Sd l Z n0 y B ml rt R k T h cc ss) {i : Nat} {z : MethodName} {C : String} {Bz : ByteArray} {mz : Nat} {rz : Option FieldType} {rm : Room} {Qz : Option Value → Heap → Prop} (a : Addr) (argsL rest : List Value) {ps : List FieldType} {pr : Option FieldType} (M : Met l Z n0 z Bz mz rz [] rm (Value.ref a :: argsL).toArray h Qz rm.cells rm.slots) (E : Exa Z h a C)
    (w1 : (Jvm.Cond.methodLink y.cls i z).before a0 Z = true) (w2 : (Jvm.Cond.declares z).before a0 Z = true) (w5 : (Jvm.Cond.selects C z z).before a0 Z = true) (w6 : (Jvm.Cond.instanceMethod z).before a0 Z = true) (w3 : (Jvm.Cond.initialized z.cls).before a0 Z = true) (w4 : (Jvm.Cond.code z Bz mz rz).before a0 Z = true) (hy : z.cls ≠ "java/lang/invoke/MethodHandle" ∧ z.cls ≠ "java/lang/invoke/VarHandle") (pd : parseMethodDescriptor z.desc = some ⟨ps, pr⟩) (hlen : argsL.length = ps.length)
    (hsz : Ls.size = ml) (hf : rm.frames + 1 ≤ R.frames) (hlo : (rest.map fun v => v.category).sum + (mz + 11) + rm.locals ≤ R.locals) (hc : cc + rm.cells ≤ R.cells) (hs : ss + rm.slots ≤ R.slots) (hd : decode B pc = .ok (.invokevirtual i, 3)) (hst : st = argsL.reverse ++ .ref a :: rest) (pc' : Nat) (hp : pc + 3 = pc')
    (K : ∀ v T' h', Sd l Z n0 y B ml rt R k T' h' (cc + rm.cells) (ss + rm.slots) → Qz v h' → Go k n0 Q kc ks T' pc' Ls (v.toList ++ rest)) : Go k n0 Q kc ks T pc Ls st := by
  subst hp; obtain ⟨⟨locs, Y, N⟩, eh, hx, hZ, hown, hby, hml, hr⟩ := X
  obtain ⟨cq, kq, qa, qb, qc⟩ := isOf hZ eh E
  obtain ⟨v, _, ⟨T', L', c', n'⟩, -, X', ⟨Lc, hQ, l1, y1, z1⟩, stp⟩ := Y.virtualBack hx (y := z) (z := z) hown (mvT hZ w1) (mvT hZ w2) (notFace_of_selects (args := #[]) (mvT hZ w5)) (mvT hZ w5) (mvT hZ w6) hy (backOf (W := (rest.map fun v => v.category).sum) (Q := fun v h L => Fr n0 L ∧ Qz v h) M hZ w4 w3 hf hlo) qa qc (g := mkF (owm k) pc Ls st) rfl (hsz.trans hml.symm) (Steps.refl _) (argsL := argsL) (rest := rest) (lenOf pd hlen) hst (by show 2 * 0 + _ ≤ _; omega) (Jvm.hb hby hd) (fun _ _ => ⟨rfl, eh, hc, hs⟩)
  dsimp only [Pt.U, Pt.locs, Pt.cells, Pt.slots] at X' l1 y1 z1 stp hQ
  subst l1 y1 z1
  exact (K v T' _ ⟨⟨_, X', N.app hQ.1⟩, rfl, hx, hZ, hown, hby, hml, hr⟩ hQ.2).of fun _ q => stp.trans q
/-- a private instance method by invokevirtual -/
theorem g_callP (X : Sd l Z n0 y B ml rt R k T h cc ss) {i : Nat} {z : MethodName} {C : String} {Bz : ByteArray} {mz : Nat} {rz : Option FieldType} {rm : Room} {Qz : Option Value → Heap → Prop} (a : Addr) (argsL rest : List Value) {ps : List FieldType} {pr : Option FieldType} (M : Met l Z n0 z Bz mz rz [] rm (Value.ref a :: argsL).toArray h Qz rm.cells rm.slots) (E : Exa Z h a C)
    (w1 : (Jvm.Cond.methodLink y.cls i z).before a0 Z = true) (w2 : (Jvm.Cond.privateMethod z).before a0 Z = true) {kk : Nat} (w5 : (Jvm.Cond.instantiable z.cls kk).before a0 Z = true) (w6 : (Jvm.Cond.instanceMethod z).before a0 Z = true) (w3 : (Jvm.Cond.initialized z.cls).before a0 Z = true) (w4 : (Jvm.Cond.code z Bz mz rz).before a0 Z = true) (hy : z.cls ≠ "java/lang/invoke/MethodHandle" ∧ z.cls ≠ "java/lang/invoke/VarHandle") (pd : parseMethodDescriptor z.desc = some ⟨ps, pr⟩) (hlen : argsL.length = ps.length)
    (hsz : Ls.size = ml) (hf : rm.frames + 1 ≤ R.frames) (hlo : (rest.map fun v => v.category).sum + (mz + 11) + rm.locals ≤ R.locals) (hc : cc + rm.cells ≤ R.cells) (hs : ss + rm.slots ≤ R.slots) (hd : decode B pc = .ok (.invokevirtual i, 3)) (hst : st = argsL.reverse ++ .ref a :: rest) (pc' : Nat) (hp : pc + 3 = pc')
    (K : ∀ v T' h', Sd l Z n0 y B ml rt R k T' h' (cc + rm.cells) (ss + rm.slots) → Qz v h' → Go k n0 Q kc ks T' pc' Ls (v.toList ++ rest)) : Go k n0 Q kc ks T pc Ls st := by
  subst hp; obtain ⟨⟨locs, Y, N⟩, eh, hx, hZ, hown, hby, hml, hr⟩ := X
  obtain ⟨cl, qa, qb⟩ := E.cell
  obtain ⟨cz, kz, cz1, cz2, -, cz4, -⟩ := Cond.instantiable_spec (mvT (s := ows k) (args := owa k) hZ w5)
  have hni : kz.isInterface = false := by revert cz4; cases kz.isInterface <;> simp
  have hpv := Cond.privateMethod_at (mvP (s := ows k) (args := #[]) hZ w2)
  have hsl := Jvm.Stand.selects_self_of_private (args := owa k) cz1 cz2 hni hpv (mvT hZ w6) hy
  obtain ⟨v, _, ⟨T', L', c', n'⟩, -, X', ⟨Lc, hQ, l1, y1, z1⟩, stp⟩ := Y.privateBack hx (y := z) hown (mvT hZ w1) (mvT hZ w6) hsl hpv (mvT hZ w4) hy (backOf (W := (rest.map fun v => v.category).sum) (Q := fun v h L => Fr n0 L ∧ Qz v h) M hZ w4 w3 hf hlo) (g := mkF (owm k) pc Ls st) rfl (hsz.trans hml.symm) (Steps.refl _) (by rw [eh]; exact qa) qb (argsL := argsL) (rest := rest) (lenOf pd hlen) hst (by show 2 * 0 + _ ≤ _; omega) (Jvm.hb hby hd) (fun _ _ => ⟨rfl, eh, hc, hs⟩)
  dsimp only [Pt.U, Pt.locs, Pt.cells, Pt.slots] at X' l1 y1 z1 stp hQ
  subst l1 y1 z1
  exact (K v T' _ ⟨⟨_, X', N.app hQ.1⟩, rfl, hx, hZ, hown, hby, hml, hr⟩ hQ.2).of fun _ q => stp.trans q
/-! arrays: n places, f says what each holds -/
def AI (Z : State) (h : Heap) (a : Addr) (ty : FieldType) (n : Nat) (f : Nat → Value) : Prop := ∃ c : Cell, Arr Z h a c ty ∧ c.slots.size = n ∧ n < 2147483648 ∧ ∀ i, i < n → c.slots[i]? = some (f i)
theorem AI.lt {a : Addr} {ty : FieldType} {n : Nat} {f : Nat → Value} (A : AI Z h a ty n f) : a < h.size := by obtain ⟨c, A, -⟩ := A; exact A.lt
theorem AI.ext {h' : Heap} {a : Addr} {ty : FieldType} {n : Nat} {f : Nat → Value} (A : AI Z h a ty n f) (E : Ext h h') : AI Z h' a ty n f := by obtain ⟨c, A, r⟩ := A; exact ⟨c, A.ext E, r⟩
theorem AI.other {h' : Heap} {a b : Addr} {sl : Nat} {v : Value} {ty : FieldType} {n : Nat} {f : Nat → Value} (A : AI Z h a ty n f) (W : Wr h h' b sl v) (q : a ≠ b) : AI Z h' a ty n f := by obtain ⟨c, A, r⟩ := A; exact ⟨c, A.other W q, r⟩
theorem AI.keep {h' : Heap} {ws : List Addr} {a : Addr} {ty : FieldType} {n : Nat} {f : Nat → Value} (A : AI Z h a ty n f) (K : Keep h h' ws) (q : a ∉ ws) : AI Z h' a ty n f := by obtain ⟨c, A, r⟩ := A; exact ⟨c, ⟨K.2.1 a c A.1 q, A.2⟩, r⟩
theorem AI.to {a : Addr} {ty : FieldType} {n : Nat} {f g : Nat → Value} (A : AI Z h a ty n f) (e : ∀ i, i < n → f i = g i) : AI Z h a ty n g := by obtain ⟨c, A, r1, r2, r3⟩ := A; exact ⟨c, A, r1, r2, fun i hi => by rw [r3 i hi, e i hi]⟩
theorem AI.set {h' : Heap} {a : Addr} {ty : FieldType} {n i : Nat} {v : Value} {f : Nat → Value} (A : AI Z h a ty n f) (W : Wr h h' a i v) : AI Z h' a ty n (fun j => if j = i then v else f j) := by
  obtain ⟨c, A, r1, r2, r3⟩ := A
  refine ⟨_, A.same W, by rw [sz_set]; exact r1, r2, fun j hj => ?_⟩
  obtain ⟨c', q1, -, q3, -⟩ := W
  cases A.1.symm.trans q1
  by_cases e : j = i
  · subst e; simp [Cell.setSlot, r1, hj]
  · have e' : ¬ i = j := fun z => e z.symm
    simp [Cell.setSlot, Array.getElem?_setIfInBounds, e', e, r3 j hj]
theorem AI.new {a : Addr} {ty : FieldType} {cA : ClassId} {m : Int32} (A : Arr Z h a (newA cA ty m) ty) (q : ¬ m < 0) {n : Nat} (e : m.toInt = n) : AI Z h a ty n (fun _ => defaultValue ty) := by
  have e1 : m.toNatClampNeg = n := by simp [Int32.toNatClampNeg, e]
  have e2 : n < 2147483648 := by have := m.toInt_lt; omega
  refine ⟨_, A, by rw [sz_new]; exact e1, e2, fun i hi => ?_⟩
  simp [newA, e1, hi]
theorem ix_of {j : Int32} {i n : Nat} (hj : j.toInt = i) (hi : i < n) : ¬ (j < 0 ∨ n ≤ j.toNatClampNeg) ∧ j.toNatClampNeg = i := by
  have e1 : j.toNatClampNeg = i := by simp [Int32.toNatClampNeg, hj]
  refine ⟨fun q => ?_, e1⟩
  rcases q with q | q
  · rw [Int32.lt_iff_toInt_lt, hj] at q; simp at q; omega
  · omega
theorem g_iaload (X : Sd l Z n0 y B ml rt R k T h cc ss) {a : Addr} {n : Nat} {f : Nat → Value} (A : AI Z h a .int n f) {j : Int32} (i : Nat) (hj : j.toInt = i) (hi : i < n) (v : Value) (hv : f i = v) (hd : decode B pc = .ok (.iaload, 1)) (pc' : Nat) (hp : pc + 1 = pc') (K : Go k n0 Q kc ks T pc' Ls (v :: st)) : Go k n0 Q kc ks T pc Ls (.int j :: .ref a :: st) := by
  subst hp hv; obtain ⟨⟨locs, Y, N⟩, eh, hx, hZ, hown, hby, hr⟩ := X
  obtain ⟨c, A, r1, r2, r3⟩ := A; obtain ⟨q1, q2⟩ := ix_of hj hi
  exact K.of fun t q => Y.iaload hx (by rw [eh]; exact A.1) (State.isArrayOf_alike hZ.alike A.2.1) A.2.2 (by rw [r1]; exact q1) (by rw [q2]; exact r3 i hi) (g := mkF (owm k) pc Ls (.int j :: .ref a :: st)) rfl rfl (Jvm.hb hby hd) t q
theorem g_baload (X : Sd l Z n0 y B ml rt R k T h cc ss) {a : Addr} {n : Nat} {f : Nat → Value} (A : AI Z h a .byte n f) {j : Int32} (i : Nat) (hj : j.toInt = i) (hi : i < n) (v : Value) (hv : f i = v) (hd : decode B pc = .ok (.baload, 1)) (pc' : Nat) (hp : pc + 1 = pc') (K : Go k n0 Q kc ks T pc' Ls (v :: st)) : Go k n0 Q kc ks T pc Ls (.int j :: .ref a :: st) := by
  subst hp hv; obtain ⟨⟨locs, Y, N⟩, eh, hx, hZ, hown, hby, hr⟩ := X
  obtain ⟨c, A, r1, r2, r3⟩ := A; obtain ⟨q1, q2⟩ := ix_of hj hi
  exact K.of fun t q => Y.baloadBytes hx (by rw [eh]; exact A.1) (State.isArrayOf_alike hZ.alike A.2.1) A.2.2 (by rw [r1]; exact q1) (by rw [q2]; exact r3 i hi) (g := mkF (owm k) pc Ls (.int j :: .ref a :: st)) rfl rfl (Jvm.hb hby hd) t q
theorem g_laload (X : Sd l Z n0 y B ml rt R k T h cc ss) {a : Addr} {n : Nat} {f : Nat → Value} (A : AI Z h a .long n f) {j : Int32} (i : Nat) (hj : j.toInt = i) (hi : i < n) (v : Value) (hv : f i = v) (hd : decode B pc = .ok (.laload, 1)) (pc' : Nat) (hp : pc + 1 = pc') (K : Go k n0 Q kc ks T pc' Ls (v :: st)) : Go k n0 Q kc ks T pc Ls (.int j :: .ref a :: st) := by
  subst hp hv; obtain ⟨⟨locs, Y, N⟩, eh, hx, hZ, hown, hby, hr⟩ := X
  obtain ⟨c, A, r1, r2, r3⟩ := A; obtain ⟨q1, q2⟩ := ix_of hj hi
  exact K.of fun t q => Y.laload hx (by rw [eh]; exact A.1) (State.isArrayOf_alike hZ.alike A.2.1) A.2.2 (by rw [r1]; exact q1) (by rw [q2]; exact r3 i hi) (g := mkF (owm k) pc Ls (.int j :: .ref a :: st)) rfl rfl (Jvm.hb hby hd) t q
theorem g_aaload (X : Sd l Z n0 y B ml rt R k T h cc ss) {a : Addr} {ty : FieldType} {n : Nat} {f : Nat → Value} (A : AI Z h a ty n f) (hty : ty.isReference = true) {j : Int32} (i : Nat) (hj : j.toInt = i) (hi : i < n) (v : Value) (hv : f i = v) (hd : decode B pc = .ok (.aaload, 1)) (pc' : Nat) (hp : pc + 1 = pc') (K : Go k n0 Q kc ks T pc' Ls (v :: st)) : Go k n0 Q kc ks T pc Ls (.int j :: .ref a :: st) := by
  subst hp hv; obtain ⟨⟨locs, Y, N⟩, eh, hx, hZ, hown, hby, hr⟩ := X
  obtain ⟨c, A, r1, r2, r3⟩ := A; obtain ⟨q1, q2⟩ := ix_of hj hi
  exact K.of fun t q => Y.aaload hx (by rw [eh]; exact A.1) (State.isArrayOf_alike hZ.alike A.2.1) hty A.2.2 (by rw [r1]; exact q1) (by rw [q2]; exact r3 i hi) (g := mkF (owm k) pc Ls (.int j :: .ref a :: st)) rfl rfl (Jvm.hb hby hd) t q
theorem g_alen (X : Sd l Z n0 y B ml rt R k T h cc ss) {a : Addr} {ty : FieldType} {n : Nat} {f : Nat → Value} (A : AI Z h a ty n f) (v : Int32) (hv : v.toInt = n) (hd : decode B pc = .ok (.arraylength, 1)) (pc' : Nat) (hp : pc + 1 = pc') (K : Go k n0 Q kc ks T pc' Ls (.int v :: st)) : Go k n0 Q kc ks T pc Ls (.ref a :: st) := by
  subst hp; obtain ⟨⟨locs, Y, N⟩, eh, hx, hZ, hown, hby, hr⟩ := X
  obtain ⟨c, A, r1, r2, r3⟩ := A
  have ev : c.slots.size.toInt32 = v := by
    rw [r1]; apply Int32.toInt_inj.mp; rw [hv]
    show (Int32.ofNat n).toInt = _
    rw [Int32.toInt_ofNat_of_lt (by omega)]
  exact K.of fun t q => Y.arraylength hx (by rw [eh]; exact A.1) (State.isArrayOf_alike hZ.alike A.2.1) (g := mkF (owm k) pc Ls (.ref a :: st)) rfl rfl (Jvm.hb hby hd) t (by rw [ev]; exact q)
theorem g_newP (X : Sd l Z n0 y B ml rt R k T h cc ss) {aty : ArrayType} (w : (Jvm.Cond.arrayClass (newarray.typeOf aty)).before a0 Z = true) {m : Int32} (n cap : Nat) (hm : m.toInt = n) (hn : n ≤ cap) (hb : cap * 8 ≤ 536870912) (hd : decode B pc = .ok (.newarray aty, 2)) (hc : cc + 1 ≤ R.cells) (hl : ss + cap ≤ R.slots) (pc' : Nat) (hp : pc + 2 = pc')
    (K : ∀ T' h' a, Sd l Z n0 y B ml rt R k T' h' (cc + 1) (ss + cap) → a = h.size → Ext h h' → AI Z h' a (newarray.typeOf aty) n (fun _ => defaultValue (newarray.typeOf aty)) → Go k n0 Q kc ks T' pc' Ls (.ref a :: st)) : Go k n0 Q kc ks T pc Ls (.int m :: st) := by
  subst hp; obtain ⟨⟨locs, Y, N⟩, eh, hx, hZ, hown, hby, hr⟩ := X
  have q : ¬ m < 0 := by
    have e : (0 : Int32).toInt = 0 := by decide
    rw [Int32.lt_iff_toInt_lt, hm]; omega
  have e1 : m.toNatClampNeg = n := by simp [Int32.toNatClampNeg, hm]
  obtain ⟨T2, h2, cA, X2, e2, E2, A2, st2⟩ := newP Y hx hZ w eh (g := mkF (owm k) pc Ls (.int m :: st)) rfl (Jvm.hb hby hd) rfl q (cap := cap) (by omega) hb hc hl
  exact (K T2 h2 h.size ⟨⟨locs, X2, N⟩, e2, hx, hZ, hown, hby, hr⟩ rfl E2 (AI.new A2 q hm)).of st2
theorem g_iastore (X : Sd l Z n0 y B ml rt R k T h cc ss) {a : Addr} {n : Nat} {f : Nat → Value} (A : AI Z h a .int n f) {j x : Int32} (i : Nat) (hj : j.toInt = i) (hi : i < n) (g0 : n0 ≤ a) (hd : decode B pc = .ok (.iastore, 1)) (pc' : Nat) (hp : pc + 1 = pc')
    (K : ∀ T' h', Sd l Z n0 y B ml rt R k T' h' cc ss → Wr h h' a i (.int x) → Go k n0 Q kc ks T' pc' Ls st) : Go k n0 Q kc ks T pc Ls (.int x :: .int j :: .ref a :: st) := by
  subst hp; obtain ⟨⟨locs, Y, N⟩, eh, hx, hZ, hown, hby, hr⟩ := X
  obtain ⟨c, A, r1, r2, r3⟩ := A; obtain ⟨q1, q2⟩ := ix_of hj hi
  obtain ⟨T2, h2, X2, e2, W2, st2⟩ := stI Y hx hZ eh A (j := j) (x := x) (by rw [r1]; exact q1) (g := mkF (owm k) pc Ls (.int x :: .int j :: .ref a :: st)) rfl rfl (Jvm.hb hby hd)
  rw [q2] at X2 W2
  exact (K T2 h2 ⟨⟨_, X2, Fr.snoc X2 N g0⟩, e2, hx, hZ, hown, hby, hr⟩ W2).of st2
theorem g_lastore (X : Sd l Z n0 y B ml rt R k T h cc ss) {a : Addr} {n : Nat} {f : Nat → Value} (A : AI Z h a .long n f) {j : Int32} {x : Int64} (i : Nat) (hj : j.toInt = i) (hi : i < n) (g0 : n0 ≤ a) (hd : decode B pc = .ok (.lastore, 1)) (pc' : Nat) (hp : pc + 1 = pc')
    (K : ∀ T' h', Sd l Z n0 y B ml rt R k T' h' cc ss → Wr h h' a i (.long x) → Go k n0 Q kc ks T' pc' Ls st) : Go k n0 Q kc ks T pc Ls (.long x :: .int j :: .ref a :: st) := by
  subst hp; obtain ⟨⟨locs, Y, N⟩, eh, hx, hZ, hown, hby, hr⟩ := X
  obtain ⟨c, A, r1, r2, r3⟩ := A; obtain ⟨q1, q2⟩ := ix_of hj hi
  obtain ⟨T2, h2, X2, e2, W2, st2⟩ := stJ Y hx hZ eh A (j := j) (x := x) (by rw [r1]; exact q1) (g := mkF (owm k) pc Ls (.long x :: .int j :: .ref a :: st)) rfl rfl (Jvm.hb hby hd)
  rw [q2] at X2 W2
  exact (K T2 h2 ⟨⟨_, X2, Fr.snoc X2 N g0⟩, e2, hx, hZ, hown, hby, hr⟩ W2).of st2
theorem g_bastore (X : Sd l Z n0 y B ml rt R k T h cc ss) {a : Addr} {n : Nat} {f : Nat → Value} (A : AI Z h a .byte n f) {j x : Int32} (i : Nat) (hj : j.toInt = i) (hi : i < n) (g0 : n0 ≤ a) (hd : decode B pc = .ok (.bastore, 1)) (pc' : Nat) (hp : pc + 1 = pc')
    (K : ∀ T' h', Sd l Z n0 y B ml rt R k T' h' cc ss → Wr h h' a i (.int x.toInt8.toInt32) → Go k n0 Q kc ks T' pc' Ls st) : Go k n0 Q kc ks T pc Ls (.int x :: .int j :: .ref a :: st) := by
  subst hp; obtain ⟨⟨locs, Y, N⟩, eh, hx, hZ, hown, hby, hr⟩ := X
  obtain ⟨c, A, r1, r2, r3⟩ := A; obtain ⟨q1, q2⟩ := ix_of hj hi
  obtain ⟨T2, h2, X2, e2, W2, st2⟩ := stB Y hx hZ eh A (j := j) (x := x) (by rw [r1]; exact q1) (g := mkF (owm k) pc Ls (.int x :: .int j :: .ref a :: st)) rfl rfl (Jvm.hb hby hd)
  rw [q2] at X2 W2
  exact (K T2 h2 ⟨⟨_, X2, Fr.snoc X2 N g0⟩, e2, hx, hZ, hown, hby, hr⟩ W2).of st2
/-! arrays of references of the class C -/
def AR (Z : State) (h : Heap) (a : Addr) (C : String) (n : Nat) (f : Nat → Value) : Prop := ∃ c : Cell, Arr Z h a c (.object C) ∧ Ovr Z c.cls C ∧ c.slots.size = n ∧ n < 2147483648 ∧ ∀ i, i < n → c.slots[i]? = some (f i)
theorem AR.ai {a : Addr} {C : String} {n : Nat} {f : Nat → Value} (A : AR Z h a C n f) : AI Z h a (.object C) n f := by obtain ⟨c, A, -, r⟩ := A; exact ⟨c, A, r⟩
theorem AR.lt {a : Addr} {C : String} {n : Nat} {f : Nat → Value} (A : AR Z h a C n f) : a < h.size := A.ai.lt
theorem AR.ext {h' : Heap} {a : Addr} {C : String} {n : Nat} {f : Nat → Value} (A : AR Z h a C n f) (E : Ext h h') : AR Z h' a C n f := by obtain ⟨c, A, r⟩ := A; exact ⟨c, A.ext E, r⟩
theorem AR.other {h' : Heap} {a b : Addr} {sl : Nat} {v : Value} {C : String} {n : Nat} {f : Nat → Value} (A : AR Z h a C n f) (W : Wr h h' b sl v) (q : a ≠ b) : AR Z h' a C n f := by obtain ⟨c, A, r⟩ := A; exact ⟨c, A.other W q, r⟩
theorem AR.keep {h' : Heap} {ws : List Addr} {a : Addr} {C : String} {n : Nat} {f : Nat → Value} (A : AR Z h a C n f) (K : Keep h h' ws) (q : a ∉ ws) : AR Z h' a C n f := by obtain ⟨c, A, r⟩ := A; exact ⟨c, ⟨K.2.1 a c A.1 q, A.2⟩, r⟩
theorem AR.to {a : Addr} {C : String} {n : Nat} {f g : Nat → Value} (A : AR Z h a C n f) (e : ∀ i, i < n → f i = g i) : AR Z h a C n g := by obtain ⟨c, A, r0, r1, r2, r3⟩ := A; exact ⟨c, A, r0, r1, r2, fun i hi => by rw [r3 i hi, e i hi]⟩
theorem AR.set {h' : Heap} {a : Addr} {C : String} {n i : Nat} {v : Value} {f : Nat → Value} (A : AR Z h a C n f) (W : Wr h h' a i v) : AR Z h' a C n (fun j => if j = i then v else f j) := by
  obtain ⟨c, A, r0, r1, r2, r3⟩ := A
  refine ⟨_, A.same W, r0, by rw [sz_set]; exact r1, r2, fun j hj => ?_⟩
  obtain ⟨c', q1, -, q3, -⟩ := W
  cases A.1.symm.trans q1
  by_cases e : j = i
  · subst e; simp [Cell.setSlot, r1, hj]
  · have e' : ¬ i = j := fun z => e z.symm
    simp [Cell.setSlot, Array.getElem?_setIfInBounds, e', e, r3 j hj]
theorem g_newR (X : Sd l Z n0 y B ml rt R k T h cc ss) {i : Nat} {C : String} (w1 : (Jvm.Cond.classLink y.cls i C).before a0 Z = true) (w2 : (Jvm.Cond.arrayOver (.object C)).before a0 Z = true) {m : Int32} (n cap : Nat) (hm : m.toInt = n) (hn : n ≤ cap) (hb : cap * 8 ≤ 536870912) (hd : decode B pc = .ok (.anewarray i, 3)) (hc : cc + 1 ≤ R.cells) (hl : ss + cap ≤ R.slots) (pc' : Nat) (hp : pc + 3 = pc')
    (K : ∀ T' h' a, Sd l Z n0 y B ml rt R k T' h' (cc + 1) (ss + cap) → a = h.size → Ext h h' → AR Z h' a C n (fun _ => .null) → Go k n0 Q kc ks T' pc' Ls (.ref a :: st)) : Go k n0 Q kc ks T pc Ls (.int m :: st) := by
  subst hp; obtain ⟨⟨locs, Y, N⟩, eh, hx, hZ, hown, hby, hr⟩ := X
  have q : ¬ m < 0 := by
    have e : (0 : Int32).toInt = 0 := by decide
    rw [Int32.lt_iff_toInt_lt, hm]; omega
  have e1 : m.toNatClampNeg = n := by simp [Int32.toNatClampNeg, hm]
  obtain ⟨T2, h2, cA, X2, e2, E2, A2, O2, st2⟩ := newR Y hx hZ hown w1 w2 eh (g := mkF (owm k) pc Ls (.int m :: st)) rfl (Jvm.hb hby hd) rfl q (cap := cap) (by omega) hb hc hl
  obtain ⟨c, A3, r1, r2, r3⟩ := AI.new A2 q hm
  cases A2.1.symm.trans A3.1
  exact (K T2 h2 h.size ⟨⟨locs, X2, N⟩, e2, hx, hZ, hown, hby, hr⟩ rfl E2 ⟨_, A2, O2, r1, r2, r3⟩).of st2
theorem g_aastore (X : Sd l Z n0 y B ml rt R k T h cc ss) {a b : Addr} {C : String} {n : Nat} {f : Nat → Value} (A : AR Z h a C n f) {j : Int32} (i : Nat) (hj : j.toInt = i) (hi : i < n) (I : Ins Z h b C true) (g0 : n0 ≤ a) (hd : decode B pc = .ok (.aastore, 1)) (pc' : Nat) (hp : pc + 1 = pc')
    (K : ∀ T' h', Sd l Z n0 y B ml rt R k T' h' cc ss → Wr h h' a i (.ref b) → Go k n0 Q kc ks T' pc' Ls st) : Go k n0 Q kc ks T pc Ls (.ref b :: .int j :: .ref a :: st) := by
  subst hp; obtain ⟨⟨locs, Y, N⟩, eh, hx, hZ, hown, hby, hr⟩ := X
  obtain ⟨c, A, r0, r1, r2, r3⟩ := A; obtain ⟨q1, q2⟩ := ix_of hj hi
  obtain ⟨T2, h2, X2, e2, W2, st2⟩ := stR Y hx hZ eh A (j := j) (v := .ref b) (by rw [r1]; exact q1) rfl (Sto.of A r0 I) (g := mkF (owm k) pc Ls (.ref b :: .int j :: .ref a :: st)) rfl rfl (Jvm.hb hby hd)
  rw [q2] at X2 W2
  exact (K T2 h2 ⟨⟨_, X2, Fr.snoc X2 N g0⟩, e2, hx, hZ, hown, hby, hr⟩ W2).of st2
theorem g_inst1 (X : Sd l Z n0 y B ml rt R k T h cc ss) {i : Nat} {C : String} {a : Addr} (w : (Jvm.Cond.classLink y.cls i C).before a0 Z = true) (I : Ins Z h a C true) (hd : decode B pc = .ok (.instanceof i, 3)) (pc' : Nat) (hp : pc + 3 = pc')
    (K : ∀ T', Sd l Z n0 y B ml rt R k T' h cc ss → Go k n0 Q kc ks T' pc' Ls (.int 1 :: st)) : Go k n0 Q kc ks T pc Ls (.ref a :: st) := by
  subst hp; obtain ⟨⟨locs, Y, N⟩, eh, hx, hZ, hown, hby, hr⟩ := X
  obtain ⟨T2, X2, e2, st2⟩ := instY Y hx hZ hown w eh I (g := mkF (owm k) pc Ls (.ref a :: st)) rfl rfl (Jvm.hb hby hd)
  exact (K T2 ⟨⟨locs, X2, N⟩, e2, hx, hZ, hown, hby, hr⟩).of st2
theorem g_inst0 (X : Sd l Z n0 y B ml rt R k T h cc ss) {i : Nat} {C D : String} {a : Addr} (w : (Jvm.Cond.classLink y.cls i C).before a0 Z = true) (E : Exa Z h a D) (F : ∃ c t, Z.vm.findClass D = some c ∧ Z.vm.findClass C = some t ∧ Z.vm.assignable c t = false) (hd : decode B pc = .ok (.instanceof i, 3)) (pc' : Nat) (hp : pc + 3 = pc')
    (K : ∀ T', Sd l Z n0 y B ml rt R k T' h cc ss → Go k n0 Q kc ks T' pc' Ls (.int 0 :: st)) : Go k n0 Q kc ks T pc Ls (.ref a :: st) := by
  subst hp; obtain ⟨⟨locs, Y, N⟩, eh, hx, hZ, hown, hby, hr⟩ := X
  obtain ⟨T2, X2, e2, st2⟩ := instNo Y hx hZ hown w eh E F (g := mkF (owm k) pc Ls (.ref a :: st)) rfl rfl (Jvm.hb hby hd)
  exact (K T2 ⟨⟨locs, X2, N⟩, e2, hx, hZ, hown, hby, hr⟩).of st2
theorem g_instN (X : Sd l Z n0 y B ml rt R k T h cc ss) {i : Nat} (hd : decode B pc = .ok (.instanceof i, 3)) (pc' : Nat) (hp : pc + 3 = pc') (K : Go k n0 Q kc ks T pc' Ls (.int 0 :: st)) : Go k n0 Q kc ks T pc Ls (.null :: st) := by
  subst hp; obtain ⟨⟨locs, Y, N⟩, eh, hx, hZ, hown, hby, hr⟩ := X
  exact K.of fun t q => Y.instanceofNull hx (g := mkF (owm k) pc Ls (.null :: st)) rfl rfl (Jvm.hb hby hd) t q
theorem g_cast (X : Sd l Z n0 y B ml rt R k T h cc ss) {i : Nat} {C : String} {a : Addr} (w : (Jvm.Cond.classLink y.cls i C).before a0 Z = true) (I : Ins Z h a C true) (hd : decode B pc = .ok (.checkcast i, 3)) (pc' : Nat) (hp : pc + 3 = pc')
    (K : ∀ T', Sd l Z n0 y B ml rt R k T' h cc ss → Go k n0 Q kc ks T' pc' Ls (.ref a :: st)) : Go k n0 Q kc ks T pc Ls (.ref a :: st) := by
  subst hp; obtain ⟨⟨locs, Y, N⟩, eh, hx, hZ, hown, hby, hr⟩ := X
  obtain ⟨T2, X2, e2, st2⟩ := castY Y hx hZ hown w eh I (g := mkF (owm k) pc Ls (.ref a :: st)) rfl rfl (Jvm.hb hby hd)
  exact (K T2 ⟨⟨locs, X2, N⟩, e2, hx, hZ, hown, hby, hr⟩).of st2
end Ow
theorem own_i0 : (0 : Int32).toInt = 0 := by decide
theorem own_i1 : (1 : Int32).toInt = 1 := by decide
theorem own_z0 : (0 : Int32).toInt = ((0 : Nat) : Int) := by decide
theorem own_nn {o : Int32} (h : 0 ≤ o.toInt) : ¬ o < 0 := by rw [Int32.lt_iff_toInt_lt, own_i0]; omega
theorem own_b1 : ((1 : Int32) &&& 1) = 1 := by decide
theorem own_b0 : ((0 : Int32) &&& 1) = 0 := by decide
theorem own_one : (some (Value.int ((1 : Int32) &&& 1))) = some (.int 1) := congrArg (fun z => some (Value.int z)) own_b1
theorem w0 {Z : State} {a0 : Array Value} (hw : ∀ d ∈ tables_1, d.before a0 Z = true) : (Jvm.Cond.constant "com/example/libaxes/libaxes/tree/ScopeRunsAtPinLaw" (7 : Nat) (1073741823 : Int32)).before a0 Z = true := hw _ (List.mem_of_getElem? (i := 0) rfl)
theorem w1 {Z : State} {a0 : Array Value} (hw : ∀ d ∈ tables_1, d.before a0 Z = true) : (Jvm.Cond.constant "com/example/libaxes/libaxes/tree/ScopeRunsAtPinLaw" (8 : Nat) (2147483647 : Int32)).before a0 Z = true := hw _ (List.mem_of_getElem? (i := 1) rfl)
theorem w2 {Z : State} {a0 : Array Value} (hw : ∀ d ∈ tables_1, d.before a0 Z = true) : (Jvm.Cond.classLink "com/example/libaxes/libaxes/tree/ScopeRunsAtPinLaw" (15 : Nat) "com/example/libaxes/libaxes/tree/NamespaceScope$Declaration").before a0 Z = true := hw _ (List.mem_of_getElem? (i := 2) rfl)
theorem w3 {Z : State} {a0 : Array Value} (hw : ∀ d ∈ tables_1, d.before a0 Z = true) : (Jvm.Cond.instantiable "com/example/libaxes/libaxes/tree/NamespaceScope$Declaration" (2 : Nat)).before a0 Z = true := hw _ (List.mem_of_getElem? (i := 3) rfl)
theorem w4 {Z : State} {a0 : Array Value} (hw : ∀ d ∈ tables_1, d.before a0 Z = true) : (Jvm.Cond.initialized "com/example/libaxes/libaxes/tree/NamespaceScope$Declaration").before a0 Z = true := hw _ (List.mem_of_getElem? (i := 4) rfl)
theorem w5 {Z : State} {a0 : Array Value} (hw : ∀ d ∈ tables_1, d.before a0 Z = true) : (Jvm.Cond.methodLink "com/example/libaxes/libaxes/tree/ScopeRunsAtPinLaw" (17 : Nat) ({ cls := "com/example/libaxes/libaxes/tree/NamespaceScope$Declaration", name := "<init>", desc := "(Lcom/example/libaxes/libaxes/tree/Label;I)V" } : Jvm.MethodName)).before a0 Z = true := hw _ (List.mem_of_getElem? (i := 5) rfl)
theorem w6 {Z : State} {a0 : Array Value} (hw : ∀ d ∈ tables_1, d.before a0 Z = true) : (Jvm.Cond.instanceMethod ({ cls := "com/example/libaxes/libaxes/tree/NamespaceScope$Declaration", name := "<init>", desc := "(Lcom/example/libaxes/libaxes/tree/Label;I)V" } : Jvm.MethodName)).before a0 Z = true := hw _ (List.mem_of_getElem? (i := 6) rfl)
theorem w7 {Z : State} {a0 : Array Value} (hw : ∀ d ∈ tables_1, d.before a0 Z = true) : (Jvm.Cond.code ({ cls := "com/example/libaxes/libaxes/tree/NamespaceScope$Declaration", name := "<init>", desc := "(Lcom/example/libaxes/libaxes/tree/Label;I)V" } : Jvm.MethodName) prog_32_method_1_code (3 : Nat) (Option.none : Option Jvm.ClassFile.FieldType)).before a0 Z = true := hw _ (List.mem_of_getElem? (i := 7) rfl)
theorem w8 {Z : State} {a0 : Array Value} (hw : ∀ d ∈ tables_1, d.before a0 Z = true) : (Jvm.Cond.methodLink "com/example/libaxes/libaxes/tree/NamespaceScope$Declaration" (1 : Nat) ({ cls := "java/lang/Object", name := "<init>", desc := "()V" } : Jvm.MethodName)).before a0 Z = true := hw _ (List.mem_of_getElem? (i := 8) rfl)
theorem w9 {Z : State} {a0 : Array Value} (hw : ∀ d ∈ tables_1, d.before a0 Z = true) : (Jvm.Cond.instanceMethod ({ cls := "java/lang/Object", name := "<init>", desc := "()V" } : Jvm.MethodName)).before a0 Z = true := hw _ (List.mem_of_getElem? (i := 9) rfl)
theorem w10 {Z : State} {a0 : Array Value} (hw : ∀ d ∈ tables_1, d.before a0 Z = true) : (Jvm.Cond.code ({ cls := "java/lang/Object", name := "<init>", desc := "()V" } : Jvm.MethodName) object_method_1_code (1 : Nat) (Option.none : Option Jvm.ClassFile.FieldType)).before a0 Z = true := hw _ (List.mem_of_getElem? (i := 10) rfl)
theorem w11 {Z : State} {a0 : Array Value} (hw : ∀ d ∈ tables_1, d.before a0 Z = true) : (Jvm.Cond.fieldLink "com/example/libaxes/libaxes/tree/NamespaceScope$Declaration" (7 : Nat) "com/example/libaxes/libaxes/tree/NamespaceScope$Declaration" "label" "Lcom/example/libaxes/libaxes/tree/Label;").before a0 Z = true := hw _ (List.mem_of_getElem? (i := 11) rfl)
theorem w12 {Z : State} {a0 : Array Value} (hw : ∀ d ∈ tables_1, d.before a0 Z = true) : (Jvm.Cond.laysFinal "com/example/libaxes/libaxes/tree/NamespaceScope$Declaration" "com/example/libaxes/libaxes/tree/NamespaceScope$Declaration" "label" "Lcom/example/libaxes/libaxes/tree/Label;").before a0 Z = true := hw _ (List.mem_of_getElem? (i := 12) rfl)
theorem w13 {Z : State} {a0 : Array Value} (hw : ∀ d ∈ tables_1, d.before a0 Z = true) : (Jvm.Cond.fieldLink "com/example/libaxes/libaxes/tree/NamespaceScope$Declaration" (13 : Nat) "com/example/libaxes/libaxes/tree/NamespaceScope$Declaration" "uri" "I").before a0 Z = true := hw _ (List.mem_of_getElem? (i := 13) rfl)
theorem w14 {Z : State} {a0 : Array Value} (hw : ∀ d ∈ tables_1, d.before a0 Z = true) : (Jvm.Cond.laysFinal "com/example/libaxes/libaxes/tree/NamespaceScope$Declaration" "com/example/libaxes/libaxes/tree/NamespaceScope$Declaration" "uri" "I").before a0 Z = true := hw _ (List.mem_of_getElem? (i := 14) rfl)
theorem w15 {Z : State} {a0 : Array Value} (hw : ∀ d ∈ tables_1, d.before a0 Z = true) : (Jvm.Cond.methodLink "com/example/libaxes/libaxes/tree/ScopeRunsAtPinLaw" (20 : Nat) ({ cls := "com/example/libaxes/libaxes/tree/NamespaceScope", name := "ofRoot", desc := "(Lcom/example/libaxes/libaxes/tree/NamespaceScope$Declaration;)Lcom/example/libaxes/libaxes/tree/NamespaceScope;" } : Jvm.MethodName)).before a0 Z = true := hw _ (List.mem_of_getElem? (i := 15) rfl)
theorem w16 {Z : State} {a0 : Array Value} (hw : ∀ d ∈ tables_1, d.before a0 Z = true) : (Jvm.Cond.static ({ cls := "com/example/libaxes/libaxes/tree/NamespaceScope", name := "ofRoot", desc := "(Lcom/example/libaxes/libaxes/tree/NamespaceScope$Declaration;)Lcom/example/libaxes/libaxes/tree/NamespaceScope;" } : Jvm.MethodName)).before a0 Z = true := hw _ (List.mem_of_getElem? (i := 16) rfl)
theorem w17 {Z : State} {a0 : Array Value} (hw : ∀ d ∈ tables_1, d.before a0 Z = true) : (Jvm.Cond.initialized "com/example/libaxes/libaxes/tree/NamespaceScope").before a0 Z = true := hw _ (List.mem_of_getElem? (i := 17) rfl)
theorem w18 {Z : State} {a0 : Array Value} (hw : ∀ d ∈ tables_1, d.before a0 Z = true) : (Jvm.Cond.code ({ cls := "com/example/libaxes/libaxes/tree/NamespaceScope", name := "ofRoot", desc := "(Lcom/example/libaxes/libaxes/tree/NamespaceScope$Declaration;)Lcom/example/libaxes/libaxes/tree/NamespaceScope;" } : Jvm.MethodName) prog_30_method_2_code (1 : Nat) (Option.some (Jvm.ClassFile.FieldType.object "com/example/libaxes/libaxes/tree/NamespaceScope"))).before a0 Z = true := hw _ (List.mem_of_getElem? (i := 18) rfl)
theorem w19 {Z : State} {a0 : Array Value} (hw : ∀ d ∈ tables_1, d.before a0 Z = true) : (Jvm.Cond.classLink "com/example/libaxes/libaxes/tree/NamespaceScope" (8 : Nat) "com/example/libaxes/libaxes/tree/NamespaceScope").before a0 Z = true := hw _ (List.mem_of_getElem? (i := 19) rfl)
theorem w20 {Z : State} {a0 : Array Value} (hw : ∀ d ∈ tables_1, d.before a0 Z = true) : (Jvm.Cond.instantiable "com/example/libaxes/libaxes/tree/NamespaceScope" (1 : Nat)).before a0 Z = true := hw _ (List.mem_of_getElem? (i := 20) rfl)
theorem w21 {Z : State} {a0 : Array Value} (hw : ∀ d ∈ tables_1, d.before a0 Z = true) : (Jvm.Cond.methodLink "com/example/libaxes/libaxes/tree/NamespaceScope" (13 : Nat) ({ cls := "com/example/libaxes/libaxes/tree/NamespaceScope$Binding", name := "bind", desc := "(Lcom/example/libaxes/libaxes/tree/NamespaceScope$Binding;Lcom/example/libaxes/libaxes/tree/NamespaceScope$Declaration;)Lcom/example/libaxes/libaxes/tree/NamespaceScope$Binding;" } : Jvm.MethodName)).before a0 Z = true := hw _ (List.mem_of_getElem? (i := 21) rfl)
theorem w22 {Z : State} {a0 : Array Value} (hw : ∀ d ∈ tables_1, d.before a0 Z = true) : (Jvm.Cond.static ({ cls := "com/example/libaxes/libaxes/tree/NamespaceScope$Binding", name := "bind", desc := "(Lcom/example/libaxes/libaxes/tree/NamespaceScope$Binding;Lcom/example/libaxes/libaxes/tree/NamespaceScope$Declaration;)Lcom/example/libaxes/libaxes/tree/NamespaceScope$Binding;" } : Jvm.MethodName)).before a0 Z = true := hw _ (List.mem_of_getElem? (i := 22) rfl)
theorem w23 {Z : State} {a0 : Array Value} (hw : ∀ d ∈ tables_1, d.before a0 Z = true) : (Jvm.Cond.initialized "com/example/libaxes/libaxes/tree/NamespaceScope$Binding").before a0 Z = true := hw _ (List.mem_of_getElem? (i := 23) rfl)
theorem w24 {Z : State} {a0 : Array Value} (hw : ∀ d ∈ tables_1, d.before a0 Z = true) : (Jvm.Cond.code ({ cls := "com/example/libaxes/libaxes/tree/NamespaceScope$Binding", name := "bind", desc := "(Lcom/example/libaxes/libaxes/tree/NamespaceScope$Binding;Lcom/example/libaxes/libaxes/tree/NamespaceScope$Declaration;)Lcom/example/libaxes/libaxes/tree/NamespaceScope$Binding;" } : Jvm.MethodName) prog_31_method_3_code (4 : Nat) (Option.some (Jvm.ClassFile.FieldType.object "com/example/libaxes/libaxes/tree/NamespaceScope$Binding"))).before a0 Z = true := hw _ (List.mem_of_getElem? (i := 24) rfl)
theorem w25 {Z : State} {a0 : Array Value} (hw : ∀ d ∈ tables_1, d.before a0 Z = true) : (Jvm.Cond.classLink "com/example/libaxes/libaxes/tree/NamespaceScope$Binding" (8 : Nat) "com/example/libaxes/libaxes/tree/NamespaceScope$Binding").before a0 Z = true := hw _ (List.mem_of_getElem? (i := 25) rfl)
theorem w26 {Z : State} {a0 : Array Value} (hw : ∀ d ∈ tables_1, d.before a0 Z = true) : (Jvm.Cond.instantiable "com/example/libaxes/libaxes/tree/NamespaceScope$Binding" (4 : Nat)).before a0 Z = true := hw _ (List.mem_of_getElem? (i := 26) rfl)
theorem w27 {Z : State} {a0 : Array Value} (hw : ∀ d ∈ tables_1, d.before a0 Z = true) : (Jvm.Cond.methodLink "com/example/libaxes/libaxes/tree/NamespaceScope$Binding" (33 : Nat) ({ cls := "com/example/libaxes/libaxes/tree/NamespaceScope$Binding", name := "<init>", desc := "(Lcom/example/libaxes/libaxes/tree/NamespaceScope$Binding;Lcom/example/libaxes/libaxes/tree/NamespaceScope$Declaration;Lcom/example/libaxes/libaxes/tree/NamespaceScope$Binding;)V" } : Jvm.MethodName)).before a0 Z = true := hw _ (List.mem_of_getElem? (i := 27) rfl)
theorem w28 {Z : State} {a0 : Array Value} (hw : ∀ d ∈ tables_1, d.before a0 Z = true) : (Jvm.Cond.instanceMethod ({ cls := "com/example/libaxes/libaxes/tree/NamespaceScope$Binding", name := "<init>", desc := "(Lcom/example/libaxes/libaxes/tree/NamespaceScope$Binding;Lcom/example/libaxes/libaxes/tree/NamespaceScope$Declaration;Lcom/example/libaxes/libaxes/tree/NamespaceScope$Binding;)V" } : Jvm.MethodName)).before a0 Z = true := hw _ (List.mem_of_getElem? (i := 28) rfl)
theorem w29 {Z : State} {a0 : Array Value} (hw : ∀ d ∈ tables_1, d.before a0 Z = true) : (Jvm.Cond.code ({ cls := "com/example/libaxes/libaxes/tree/NamespaceScope$Binding", name := "<init>", desc := "(Lcom/example/libaxes/libaxes/tree/NamespaceScope$Binding;Lcom/example/libaxes/libaxes/tree/NamespaceScope$Declaration;Lcom/example/libaxes/libaxes/tree/NamespaceScope$Binding;)V" } : Jvm.MethodName) prog_31_method_1_code (4 : Nat) (Option.none : Option Jvm.ClassFile.FieldType)).before a0 Z = true := hw _ (List.mem_of_getElem? (i := 29) rfl)
theorem w30 {Z : State} {a0 : Array Value} (hw : ∀ d ∈ tables_1, d.before a0 Z = true) : (Jvm.Cond.methodLink "com/example/libaxes/libaxes/tree/NamespaceScope$Binding" (1 : Nat) ({ cls := "java/lang/Object", name := "<init>", desc := "()V" } : Jvm.MethodName)).before a0 Z = true := hw _ (List.mem_of_getElem? (i := 30) rfl)
theorem w31 {Z : State} {a0 : Array Value} (hw : ∀ d ∈ tables_1, d.before a0 Z = true) : (Jvm.Cond.fieldLink "com/example/libaxes/libaxes/tree/NamespaceScope$Binding" (7 : Nat) "com/example/libaxes/libaxes/tree/NamespaceScope$Binding" "left" "Lcom/example/libaxes/libaxes/tree/NamespaceScope$Binding;").before a0 Z = true := hw _ (List.mem_of_getElem? (i := 31) rfl)
theorem w32 {Z : State} {a0 : Array Value} (hw : ∀ d ∈ tables_1, d.before a0 Z = true) : (Jvm.Cond.laysFinal "com/example/libaxes/libaxes/tree/NamespaceScope$Binding" "com/example/libaxes/libaxes/tree/NamespaceScope$Binding" "left" "Lcom/example/libaxes/libaxes/tree/NamespaceScope$Binding;").before a0 Z = true := hw _ (List.mem_of_getElem? (i := 32) rfl)
theorem w33 {Z : State} {a0 : Array Value} (hw : ∀ d ∈ tables_1, d.before a0 Z = true) : (Jvm.Cond.fieldLink "com/example/libaxes/libaxes/tree/NamespaceScope$Binding" (13 : Nat) "com/example/libaxes/libaxes/tree/NamespaceScope$Binding" "declaration" "Lcom/example/libaxes/libaxes/tree/NamespaceScope$Declaration;").before a0 Z = true := hw _ (List.mem_of_getElem? (i := 33) rfl)
theorem w34 {Z : State} {a0 : Array Value} (hw : ∀ d ∈ tables_1, d.before a0 Z = true) : (Jvm.Cond.laysFinal "com/example/libaxes/libaxes/tree/NamespaceScope$Binding" "com/example/libaxes/libaxes/tree/NamespaceScope$Binding" "declaration" "Lcom/example/libaxes/libaxes/tree/NamespaceScope$Declaration;").before a0 Z = true := hw _ (List.mem_of_getElem? (i := 34) rfl)
theorem w35 {Z : State} {a0 : Array Value} (hw : ∀ d ∈ tables_1, d.before a0 Z = true) : (Jvm.Cond.fieldLink "com/example/libaxes/libaxes/tree/NamespaceScope$Binding" (17 : Nat) "com/example/libaxes/libaxes/tree/NamespaceScope$Binding" "right" "Lcom/example/libaxes/libaxes/tree/NamespaceScope$Binding;").before a0 Z = true := hw _ (List.mem_of_getElem? (i := 35) rfl)
theorem w36 {Z : State} {a0 : Array Value} (hw : ∀ d ∈ tables_1, d.before a0 Z = true) : (Jvm.Cond.laysFinal "com/example/libaxes/libaxes/tree/NamespaceScope$Binding" "com/example/libaxes/libaxes/tree/NamespaceScope$Binding" "right" "Lcom/example/libaxes/libaxes/tree/NamespaceScope$Binding;").before a0 Z = true := hw _ (List.mem_of_getElem? (i := 36) rfl)
theorem w37 {Z : State} {a0 : Array Value} (hw : ∀ d ∈ tables_1, d.before a0 Z = true) : (Jvm.Cond.methodLink "com/example/libaxes/libaxes/tree/NamespaceScope$Binding" (20 : Nat) ({ cls := "com/example/libaxes/libaxes/tree/NamespaceScope$Binding", name := "height", desc := "(Lcom/example/libaxes/libaxes/tree/NamespaceScope$Binding;)I" } : Jvm.MethodName)).before a0 Z = true := hw _ (List.mem_of_getElem? (i := 37) rfl)
theorem w38 {Z : State} {a0 : Array Value} (hw : ∀ d ∈ tables_1, d.before a0 Z = true) : (Jvm.Cond.static ({ cls := "com/example/libaxes/libaxes/tree/NamespaceScope$Binding", name := "height", desc := "(Lcom/example/libaxes/libaxes/tree/NamespaceScope$Binding;)I" } : Jvm.MethodName)).before a0 Z = true := hw _ (List.mem_of_getElem? (i := 38) rfl)
theorem w39 {Z : State} {a0 : Array Value} (hw : ∀ d ∈ tables_1, d.before a0 Z = true) : (Jvm.Cond.code ({ cls := "com/example/libaxes/libaxes/tree/NamespaceScope$Binding", name := "height", desc := "(Lcom/example/libaxes/libaxes/tree/NamespaceScope$Binding;)I" } : Jvm.MethodName) prog_31_method_2_code (1 : Nat) (Option.some Jvm.ClassFile.FieldType.int)).before a0 Z = true := hw _ (List.mem_of_getElem? (i := 39) rfl)
theorem w40 {Z : State} {a0 : Array Value} (hw : ∀ d ∈ tables_1, d.before a0 Z = true) : (Jvm.Cond.methodLink "com/example/libaxes/libaxes/tree/NamespaceScope$Binding" (24 : Nat) ({ cls := "java/lang/Math", name := "max", desc := "(II)I" } : Jvm.MethodName)).before a0 Z = true := hw _ (List.mem_of_getElem? (i := 40) rfl)
theorem w41 {Z : State} {a0 : Array Value} (hw : ∀ d ∈ tables_1, d.before a0 Z = true) : (Jvm.Cond.static ({ cls := "java/lang/Math", name := "max", desc := "(II)I" } : Jvm.MethodName)).before a0 Z = true := hw _ (List.mem_of_getElem? (i := 41) rfl)
theorem w42 {Z : State} {a0 : Array Value} (hw : ∀ d ∈ tables_1, d.before a0 Z = true) : (Jvm.Cond.initialized "java/lang/Math").before a0 Z = true := hw _ (List.mem_of_getElem? (i := 42) rfl)
theorem w43 {Z : State} {a0 : Array Value} (hw : ∀ d ∈ tables_1, d.before a0 Z = true) : (Jvm.Cond.code ({ cls := "java/lang/Math", name := "max", desc := "(II)I" } : Jvm.MethodName) jdk_29_method_65_code (2 : Nat) (Option.some Jvm.ClassFile.FieldType.int)).before a0 Z = true := hw _ (List.mem_of_getElem? (i := 43) rfl)
theorem w44 {Z : State} {a0 : Array Value} (hw : ∀ d ∈ tables_1, d.before a0 Z = true) : (Jvm.Cond.fieldLink "com/example/libaxes/libaxes/tree/NamespaceScope$Binding" (30 : Nat) "com/example/libaxes/libaxes/tree/NamespaceScope$Binding" "height" "I").before a0 Z = true := hw _ (List.mem_of_getElem? (i := 44) rfl)
theorem w45 {Z : State} {a0 : Array Value} (hw : ∀ d ∈ tables_1, d.before a0 Z = true) : (Jvm.Cond.laysFinal "com/example/libaxes/libaxes/tree/NamespaceScope$Binding" "com/example/libaxes/libaxes/tree/NamespaceScope$Binding" "height" "I").before a0 Z = true := hw _ (List.mem_of_getElem? (i := 45) rfl)
theorem w46 {Z : State} {a0 : Array Value} (hw : ∀ d ∈ tables_1, d.before a0 Z = true) : (Jvm.Cond.methodLink "com/example/libaxes/libaxes/tree/NamespaceScope" (19 : Nat) ({ cls := "com/example/libaxes/libaxes/tree/NamespaceScope", name := "<init>", desc := "(Lcom/example/libaxes/libaxes/tree/NamespaceScope$Binding;)V" } : Jvm.MethodName)).before a0 Z = true := hw _ (List.mem_of_getElem? (i := 46) rfl)
theorem w47 {Z : State} {a0 : Array Value} (hw : ∀ d ∈ tables_1, d.before a0 Z = true) : (Jvm.Cond.instanceMethod ({ cls := "com/example/libaxes/libaxes/tree/NamespaceScope", name := "<init>", desc := "(Lcom/example/libaxes/libaxes/tree/NamespaceScope$Binding;)V" } : Jvm.MethodName)).before a0 Z = true := hw _ (List.mem_of_getElem? (i := 47) rfl)
theorem w48 {Z : State} {a0 : Array Value} (hw : ∀ d ∈ tables_1, d.before a0 Z = true) : (Jvm.Cond.code ({ cls := "com/example/libaxes/libaxes/tree/NamespaceScope", name := "<init>", desc := "(Lcom/example/libaxes/libaxes/tree/NamespaceScope$Binding;)V" } : Jvm.MethodName) prog_30_method_1_code (2 : Nat) (Option.none : Option Jvm.ClassFile.FieldType)).before a0 Z = true := hw _ (List.mem_of_getElem? (i := 48) rfl)
theorem w49 {Z : State} {a0 : Array Value} (hw : ∀ d ∈ tables_1, d.before a0 Z = true) : (Jvm.Cond.methodLink "com/example/libaxes/libaxes/tree/NamespaceScope" (1 : Nat) ({ cls := "java/lang/Object", name := "<init>", desc := "()V" } : Jvm.MethodName)).before a0 Z = true := hw _ (List.mem_of_getElem? (i := 49) rfl)
theorem w50 {Z : State} {a0 : Array Value} (hw : ∀ d ∈ tables_1, d.before a0 Z = true) : (Jvm.Cond.fieldLink "com/example/libaxes/libaxes/tree/NamespaceScope" (7 : Nat) "com/example/libaxes/libaxes/tree/NamespaceScope" "bindings" "Lcom/example/libaxes/libaxes/tree/NamespaceScope$Binding;").before a0 Z = true := hw _ (List.mem_of_getElem? (i := 50) rfl)
theorem w51 {Z : State} {a0 : Array Value} (hw : ∀ d ∈ tables_1, d.before a0 Z = true) : (Jvm.Cond.laysFinal "com/example/libaxes/libaxes/tree/NamespaceScope" "com/example/libaxes/libaxes/tree/NamespaceScope" "bindings" "Lcom/example/libaxes/libaxes/tree/NamespaceScope$Binding;").before a0 Z = true := hw _ (List.mem_of_getElem? (i := 51) rfl)
theorem w52 {Z : State} {a0 : Array Value} (hw : ∀ d ∈ tables_1, d.before a0 Z = true) : (Jvm.Cond.classLink "com/example/libaxes/libaxes/tree/ScopeRunsAtPinLaw" (26 : Nat) "com/example/libaxes/libaxes/tree/ScopeRuns").before a0 Z = true := hw _ (List.mem_of_getElem? (i := 52) rfl)
theorem w53 {Z : State} {a0 : Array Value} (hw : ∀ d ∈ tables_1, d.before a0 Z = true) : (Jvm.Cond.instantiable "com/example/libaxes/libaxes/tree/ScopeRuns" (3 : Nat)).before a0 Z = true := hw _ (List.mem_of_getElem? (i := 53) rfl)
theorem w54 {Z : State} {a0 : Array Value} (hw : ∀ d ∈ tables_1, d.before a0 Z = true) : (Jvm.Cond.initialized "com/example/libaxes/libaxes/tree/ScopeRuns").before a0 Z = true := hw _ (List.mem_of_getElem? (i := 54) rfl)
theorem w55 {Z : State} {a0 : Array Value} (hw : ∀ d ∈ tables_1, d.before a0 Z = true) : (Jvm.Cond.methodLink "com/example/libaxes/libaxes/tree/ScopeRunsAtPinLaw" (28 : Nat) ({ cls := "com/example/libaxes/libaxes/tree/ScopeRuns", name := "<init>", desc := "()V" } : Jvm.MethodName)).before a0 Z = true := hw _ (List.mem_of_getElem? (i := 55) rfl)
theorem w56 {Z : State} {a0 : Array Value} (hw : ∀ d ∈ tables_1, d.before a0 Z = true) : (Jvm.Cond.instanceMethod ({ cls := "com/example/libaxes/libaxes/tree/ScopeRuns", name := "<init>", desc := "()V" } : Jvm.MethodName)).before a0 Z = true := hw _ (List.mem_of_getElem? (i := 56) rfl)
theorem w57 {Z : State} {a0 : Array Value} (hw : ∀ d ∈ tables_1, d.before a0 Z = true) : (Jvm.Cond.code ({ cls := "com/example/libaxes/libaxes/tree/ScopeRuns", name := "<init>", desc := "()V" } : Jvm.MethodName) prog_38_method_1_code (1 : Nat) (Option.none : Option Jvm.ClassFile.FieldType)).before a0 Z = true := hw _ (List.mem_of_getElem? (i := 57) rfl)
theorem w58 {Z : State} {a0 : Array Value} (hw : ∀ d ∈ tables_1, d.before a0 Z = true) : (Jvm.Cond.methodLink "com/example/libaxes/libaxes/tree/ScopeRuns" (1 : Nat) ({ cls := "java/lang/Object", name := "<init>", desc := "()V" } : Jvm.MethodName)).before a0 Z = true := hw _ (List.mem_of_getElem? (i := 58) rfl)
theorem w59 {Z : State} {a0 : Array Value} (hw : ∀ d ∈ tables_1, d.before a0 Z = true) : (Jvm.Cond.arrayClass Jvm.ClassFile.FieldType.int).before a0 Z = true := hw _ (List.mem_of_getElem? (i := 59) rfl)
theorem w60 {Z : State} {a0 : Array Value} (hw : ∀ d ∈ tables_1, d.before a0 Z = true) : (Jvm.Cond.fieldLink "com/example/libaxes/libaxes/tree/ScopeRuns" (7 : Nat) "com/example/libaxes/libaxes/tree/ScopeRuns" "starts" "[I").before a0 Z = true := hw _ (List.mem_of_getElem? (i := 60) rfl)
theorem w61 {Z : State} {a0 : Array Value} (hw : ∀ d ∈ tables_1, d.before a0 Z = true) : (Jvm.Cond.lays "com/example/libaxes/libaxes/tree/ScopeRuns" "com/example/libaxes/libaxes/tree/ScopeRuns" "starts" "[I").before a0 Z = true := hw _ (List.mem_of_getElem? (i := 61) rfl)
theorem w62 {Z : State} {a0 : Array Value} (hw : ∀ d ∈ tables_1, d.before a0 Z = true) : (Jvm.Cond.classLink "com/example/libaxes/libaxes/tree/ScopeRuns" (13 : Nat) "com/example/libaxes/libaxes/tree/NamespaceScope").before a0 Z = true := hw _ (List.mem_of_getElem? (i := 62) rfl)
theorem w63 {Z : State} {a0 : Array Value} (hw : ∀ d ∈ tables_1, d.before a0 Z = true) : (Jvm.Cond.arrayOver (Jvm.ClassFile.FieldType.object "com/example/libaxes/libaxes/tree/NamespaceScope")).before a0 Z = true := hw _ (List.mem_of_getElem? (i := 63) rfl)
theorem w64 {Z : State} {a0 : Array Value} (hw : ∀ d ∈ tables_1, d.before a0 Z = true) : (Jvm.Cond.fieldLink "com/example/libaxes/libaxes/tree/ScopeRuns" (15 : Nat) "com/example/libaxes/libaxes/tree/ScopeRuns" "scopes" "[Lcom/example/libaxes/libaxes/tree/NamespaceScope;").before a0 Z = true := hw _ (List.mem_of_getElem? (i := 64) rfl)
theorem w65 {Z : State} {a0 : Array Value} (hw : ∀ d ∈ tables_1, d.before a0 Z = true) : (Jvm.Cond.lays "com/example/libaxes/libaxes/tree/ScopeRuns" "com/example/libaxes/libaxes/tree/ScopeRuns" "scopes" "[Lcom/example/libaxes/libaxes/tree/NamespaceScope;").before a0 Z = true := hw _ (List.mem_of_getElem? (i := 65) rfl)
theorem w66 {Z : State} {a0 : Array Value} (hw : ∀ d ∈ tables_1, d.before a0 Z = true) : (Jvm.Cond.methodLink "com/example/libaxes/libaxes/tree/ScopeRunsAtPinLaw" (29 : Nat) ({ cls := "com/example/libaxes/libaxes/tree/ScopeRuns", name := "begin", desc := "(ILcom/example/libaxes/libaxes/tree/NamespaceScope;)V" } : Jvm.MethodName)).before a0 Z = true := hw _ (List.mem_of_getElem? (i := 66) rfl)
theorem w67 {Z : State} {a0 : Array Value} (hw : ∀ d ∈ tables_1, d.before a0 Z = true) : (Jvm.Cond.declares ({ cls := "com/example/libaxes/libaxes/tree/ScopeRuns", name := "begin", desc := "(ILcom/example/libaxes/libaxes/tree/NamespaceScope;)V" } : Jvm.MethodName)).before a0 Z = true := hw _ (List.mem_of_getElem? (i := 67) rfl)
theorem w68 {Z : State} {a0 : Array Value} (hw : ∀ d ∈ tables_1, d.before a0 Z = true) : (Jvm.Cond.instanceMethod ({ cls := "com/example/libaxes/libaxes/tree/ScopeRuns", name := "begin", desc := "(ILcom/example/libaxes/libaxes/tree/NamespaceScope;)V" } : Jvm.MethodName)).before a0 Z = true := hw _ (List.mem_of_getElem? (i := 68) rfl)
theorem w69 {Z : State} {a0 : Array Value} (hw : ∀ d ∈ tables_1, d.before a0 Z = true) : (Jvm.Cond.selects "com/example/libaxes/libaxes/tree/ScopeRuns" ({ cls := "com/example/libaxes/libaxes/tree/ScopeRuns", name := "begin", desc := "(ILcom/example/libaxes/libaxes/tree/NamespaceScope;)V" } : Jvm.MethodName) ({ cls := "com/example/libaxes/libaxes/tree/ScopeRuns", name := "begin", desc := "(ILcom/example/libaxes/libaxes/tree/NamespaceScope;)V" } : Jvm.MethodName)).before a0 Z = true := hw _ (List.mem_of_getElem? (i := 69) rfl)
theorem w70 {Z : State} {a0 : Array Value} (hw : ∀ d ∈ tables_1, d.before a0 Z = true) : (Jvm.Cond.code ({ cls := "com/example/libaxes/libaxes/tree/ScopeRuns", name := "begin", desc := "(ILcom/example/libaxes/libaxes/tree/NamespaceScope;)V" } : Jvm.MethodName) prog_38_method_2_code (3 : Nat) (Option.none : Option Jvm.ClassFile.FieldType)).before a0 Z = true := hw _ (List.mem_of_getElem? (i := 70) rfl)
theorem w71 {Z : State} {a0 : Array Value} (hw : ∀ d ∈ tables_1, d.before a0 Z = true) : (Jvm.Cond.fieldLink "com/example/libaxes/libaxes/tree/ScopeRuns" (19 : Nat) "com/example/libaxes/libaxes/tree/ScopeRuns" "count" "I").before a0 Z = true := hw _ (List.mem_of_getElem? (i := 71) rfl)
theorem w72 {Z : State} {a0 : Array Value} (hw : ∀ d ∈ tables_1, d.before a0 Z = true) : (Jvm.Cond.lays "com/example/libaxes/libaxes/tree/ScopeRuns" "com/example/libaxes/libaxes/tree/ScopeRuns" "count" "I").before a0 Z = true := hw _ (List.mem_of_getElem? (i := 72) rfl)
theorem w74 {Z : State} {a0 : Array Value} (hw : ∀ d ∈ tables_1, d.before a0 Z = true) : (Jvm.Cond.methodLink "com/example/libaxes/libaxes/tree/ScopeRunsAtPinLaw" (33 : Nat) ({ cls := "com/example/libaxes/libaxes/tree/ScopeRuns", name := "at", desc := "(I)Lcom/example/libaxes/libaxes/tree/NamespaceScope;" } : Jvm.MethodName)).before a0 Z = true := hw _ (List.mem_of_getElem? (i := 74) rfl)
theorem w75 {Z : State} {a0 : Array Value} (hw : ∀ d ∈ tables_1, d.before a0 Z = true) : (Jvm.Cond.declares ({ cls := "com/example/libaxes/libaxes/tree/ScopeRuns", name := "at", desc := "(I)Lcom/example/libaxes/libaxes/tree/NamespaceScope;" } : Jvm.MethodName)).before a0 Z = true := hw _ (List.mem_of_getElem? (i := 75) rfl)
theorem w76 {Z : State} {a0 : Array Value} (hw : ∀ d ∈ tables_1, d.before a0 Z = true) : (Jvm.Cond.instanceMethod ({ cls := "com/example/libaxes/libaxes/tree/ScopeRuns", name := "at", desc := "(I)Lcom/example/libaxes/libaxes/tree/NamespaceScope;" } : Jvm.MethodName)).before a0 Z = true := hw _ (List.mem_of_getElem? (i := 76) rfl)
theorem w77 {Z : State} {a0 : Array Value} (hw : ∀ d ∈ tables_1, d.before a0 Z = true) : (Jvm.Cond.selects "com/example/libaxes/libaxes/tree/ScopeRuns" ({ cls := "com/example/libaxes/libaxes/tree/ScopeRuns", name := "at", desc := "(I)Lcom/example/libaxes/libaxes/tree/NamespaceScope;" } : Jvm.MethodName) ({ cls := "com/example/libaxes/libaxes/tree/ScopeRuns", name := "at", desc := "(I)Lcom/example/libaxes/libaxes/tree/NamespaceScope;" } : Jvm.MethodName)).before a0 Z = true := hw _ (List.mem_of_getElem? (i := 77) rfl)
theorem w78 {Z : State} {a0 : Array Value} (hw : ∀ d ∈ tables_1, d.before a0 Z = true) : (Jvm.Cond.code ({ cls := "com/example/libaxes/libaxes/tree/ScopeRuns", name := "at", desc := "(I)Lcom/example/libaxes/libaxes/tree/NamespaceScope;" } : Jvm.MethodName) prog_38_method_3_code (5 : Nat) (Option.some (Jvm.ClassFile.FieldType.object "com/example/libaxes/libaxes/tree/NamespaceScope"))).before a0 Z = true := hw _ (List.mem_of_getElem? (i := 78) rfl)
theorem w79 {Z : State} {a0 : Array Value} (hw : ∀ d ∈ tables_1, d.before a0 Z = true) : (Jvm.Cond.methodLink "com/example/libaxes/libaxes/tree/ScopeRunsAtPinLaw" (9 : Nat) ({ cls := "java/lang/Math", name := "max", desc := "(II)I" } : Jvm.MethodName)).before a0 Z = true := hw _ (List.mem_of_getElem? (i := 79) rfl)
theorem pd0 : parseMethodDescriptor "(Lcom/example/libaxes/libaxes/tree/NamespaceScope$Binding;)I" = some ⟨[(.object "com/example/libaxes/libaxes/tree/NamespaceScope$Binding")], some .int⟩ := by decide +kernel
theorem pd1 : parseMethodDescriptor "(II)I" = some ⟨[.int, .int], some .int⟩ := by decide +kernel
theorem pd2 : parseMethodDescriptor "(Lcom/example/libaxes/libaxes/tree/NamespaceScope$Binding;Lcom/example/libaxes/libaxes/tree/NamespaceScope$Declaration;Lcom/example/libaxes/libaxes/tree/NamespaceScope$Binding;)V" = some ⟨[(.object "com/example/libaxes/libaxes/tree/NamespaceScope$Binding"), (.object "com/example/libaxes/libaxes/tree/NamespaceScope$Declaration"), (.object "com/example/libaxes/libaxes/tree/NamespaceScope$Binding")], none⟩ := by decide +kernel
theorem pd3 : parseMethodDescriptor "(Lcom/example/libaxes/libaxes/tree/NamespaceScope$Binding;Lcom/example/libaxes/libaxes/tree/NamespaceScope$Declaration;)Lcom/example/libaxes/libaxes/tree/NamespaceScope$Binding;" = some ⟨[(.object "com/example/libaxes/libaxes/tree/NamespaceScope$Binding"), (.object "com/example/libaxes/libaxes/tree/NamespaceScope$Declaration")], some (.object "com/example/libaxes/libaxes/tree/NamespaceScope$Binding")⟩ := by decide +kernel
theorem pd4 : parseMethodDescriptor "(Lcom/example/libaxes/libaxes/tree/NamespaceScope$Binding;)V" = some ⟨[(.object "com/example/libaxes/libaxes/tree/NamespaceScope$Binding")], none⟩ := by decide +kernel
theorem pd5 : parseMethodDescriptor "(Lcom/example/libaxes/libaxes/tree/Label;I)V" = some ⟨[(.object "com/example/libaxes/libaxes/tree/Label"), .int], none⟩ := by decide +kernel
theorem pd6 : parseMethodDescriptor "(Lcom/example/libaxes/libaxes/tree/NamespaceScope$Declaration;)Lcom/example/libaxes/libaxes/tree/NamespaceScope;" = some ⟨[(.object "com/example/libaxes/libaxes/tree/NamespaceScope$Declaration")], some (.object "com/example/libaxes/libaxes/tree/NamespaceScope")⟩ := by decide +kernel
theorem pd7 : parseMethodDescriptor "()V" = some ⟨[], none⟩ := by decide +kernel
theorem pd8 : parseMethodDescriptor "(ILcom/example/libaxes/libaxes/tree/NamespaceScope;)V" = some ⟨[.int, (.object "com/example/libaxes/libaxes/tree/NamespaceScope")], none⟩ := by decide +kernel
theorem pd9 : parseMethodDescriptor "(I)Lcom/example/libaxes/libaxes/tree/NamespaceScope;" = some ⟨[.int], some (.object "com/example/libaxes/libaxes/tree/NamespaceScope")⟩ := by decide +kernel
theorem pn0 : Jvm.plainFor (⟨"com/example/libaxes/libaxes/tree/NamespaceScope$Declaration", "<init>", "(Lcom/example/libaxes/libaxes/tree/Label;I)V"⟩ : MethodName) = true := by first | exact plainFor_of_name (by first | (simp [Jvm.plainName, overriddenIn]; done) | decide +kernel) | decide +kernel
theorem pn1 : Jvm.plainFor (⟨"java/lang/Math", "max", "(II)I"⟩ : MethodName) = true := by first | exact plainFor_of_name (by first | (simp [Jvm.plainName, overriddenIn]; done) | decide +kernel) | decide +kernel
theorem pn2 : Jvm.plainFor (⟨"com/example/libaxes/libaxes/tree/NamespaceScope$Binding", "height", "(Lcom/example/libaxes/libaxes/tree/NamespaceScope$Binding;)I"⟩ : MethodName) = true := by first | exact plainFor_of_name (by first | (simp [Jvm.plainName, overriddenIn]; done) | decide +kernel) | decide +kernel
theorem pn3 : Jvm.plainFor (⟨"com/example/libaxes/libaxes/tree/NamespaceScope$Binding", "<init>", "(Lcom/example/libaxes/libaxes/tree/NamespaceScope$Binding;Lcom/example/libaxes/libaxes/tree/NamespaceScope$Declaration;Lcom/example/libaxes/libaxes/tree/NamespaceScope$Binding;)V"⟩ : MethodName) = true := by first | exact plainFor_of_name (by first | (simp [Jvm.plainName, overriddenIn]; done) | decide +kernel) | decide +kernel
theorem pn4 : Jvm.plainFor (⟨"com/example/libaxes/libaxes/tree/NamespaceScope$Binding", "bind", "(Lcom/example/libaxes/libaxes/tree/NamespaceScope$Binding;Lcom/example/libaxes/libaxes/tree/NamespaceScope$Declaration;)Lcom/example/libaxes/libaxes/tree/NamespaceScope$Binding;"⟩ : MethodName) = true := by first | exact plainFor_of_name (by first | (simp [Jvm.plainName, overriddenIn]; done) | decide +kernel) | decide +kernel
theorem pn5 : Jvm.plainFor (⟨"com/example/libaxes/libaxes/tree/NamespaceScope", "<init>", "(Lcom/example/libaxes/libaxes/tree/NamespaceScope$Binding;)V"⟩ : MethodName) = true := by first | exact plainFor_of_name (by first | (simp [Jvm.plainName, overriddenIn]; done) | decide +kernel) | decide +kernel
theorem pn6 : Jvm.plainFor (⟨"com/example/libaxes/libaxes/tree/NamespaceScope", "ofRoot", "(Lcom/example/libaxes/libaxes/tree/NamespaceScope$Declaration;)Lcom/example/libaxes/libaxes/tree/NamespaceScope;"⟩ : MethodName) = true := by first | exact plainFor_of_name (by first | (simp [Jvm.plainName, overriddenIn]; done) | decide +kernel) | decide +kernel
theorem pn7 : Jvm.plainFor (⟨"com/example/libaxes/libaxes/tree/ScopeRuns", "<init>", "()V"⟩ : MethodName) = true := by first | exact plainFor_of_name (by first | (simp [Jvm.plainName, overriddenIn]; done) | decide +kernel) | decide +kernel
theorem pn8 : Jvm.plainFor (⟨"com/example/libaxes/libaxes/tree/ScopeRuns", "begin", "(ILcom/example/libaxes/libaxes/tree/NamespaceScope;)V"⟩ : MethodName) = true := by first | exact plainFor_of_name (by first | (simp [Jvm.plainName, overriddenIn]; done) | decide +kernel) | decide +kernel
theorem pn9 : Jvm.plainFor (⟨"com/example/libaxes/libaxes/tree/ScopeRuns", "at", "(I)Lcom/example/libaxes/libaxes/tree/NamespaceScope;"⟩ : MethodName) = true := by first | exact plainFor_of_name (by first | (simp [Jvm.plainName, overriddenIn]; done) | decide +kernel) | decide +kernel
theorem pn10 : Jvm.plainFor (⟨"com/example/libaxes/libaxes/tree/ScopeRunsAtPinLaw", "law", "(IIII)Z"⟩ : MethodName) = true := by first | exact plainFor_of_name (by first | (simp [Jvm.plainName, overriddenIn]; done) | decide +kernel) | decide +kernel
def fMax (a b : Int32) : Int32 := if a < b then b else a
def own_f3 (a b : Int32) (i : Nat) : Int32 := if i = 0 then 0 else if i = 1 then a else b
theorem own_mid {lo hi : Int32} (h1 : 0 ≤ lo.toInt) (h2 : 0 ≤ hi.toInt) : (((lo + hi).toUInt32 >>> ((1 : Int32) &&& 31).toUInt32).toInt32).toInt = (lo.toInt + hi.toInt) / 2 := by
  rw [c_iushr (lo + hi) 1 1 (by decide) (by decide)]
  have := c_iadd lo hi; have r1 := rng32 lo; have r2 := rng32 hi; have r3 := rng32 (lo + hi)
  show (lo + hi).toInt % 4294967296 / ((2 : Nat) : Int) = _
  omega
theorem own_inc {v : Int32} {m : Nat} (h : v.toInt = m) (hb : m < 2147483647) : (v + 1).toInt = m + 1 := by
  have := c_iadd v 1; have r := rng32 (v + 1); have e : (1 : Int32).toInt = 1 := by decide
  omega
theorem own_dec {v : Int32} {m : Nat} (h : v.toInt = m) (hb : 1 ≤ m) : (v - 1).toInt = ((m - 1 : Nat) : Int) := by
  have := c_isub v 1; have r := rng32 (v - 1); have r0 := rng32 v; have e : (1 : Int32).toInt = 1 := by decide
  omega
theorem own_gt {a b : Int32} (h : a < b) : a.toInt < b.toInt := Int32.lt_iff_toInt_lt.mp h
theorem own_le {a b : Int32} (h : ¬ a < b) : b.toInt ≤ a.toInt := by rw [Int32.lt_iff_toInt_lt] at h; omega
theorem own_ix1 {x v : Int32} (h : x &&& (2147483647 : Int32) = v) : 0 ≤ v.toInt := by have q := c_and x 2147483647 (by decide); rw [h] at q; exact q.1
theorem own_ix2 {y v : Int32} (h : fMax (0 : Int32) y = v) : 0 ≤ v.toInt := by
  subst h; unfold fMax; split
  · have q := own_gt (by assumption); rw [own_i0] at q; omega
  · rw [own_i0]; omega
theorem own_s1 {x v : Int32} (h : x &&& (1073741823 : Int32) = v) : 0 ≤ v.toInt ∧ v.toInt ≤ 1073741823 := by
  have q := c_and x 1073741823 (by decide); rw [h] at q; have e : (1073741823 : Int32).toInt = 1073741823 := by decide
  omega
theorem own_s2 {x s v : Int32} (hs : 0 ≤ s.toInt ∧ s.toInt ≤ 1073741823) (h : s + (x &&& (1073741823 : Int32)) = v) : s.toInt ≤ v.toInt := by
  have q := own_s1 (x := x) rfl; have a := c_iadd s (x &&& 1073741823); rw [h] at a; have r := rng32 v
  omega
theorem own_n3 {x v : Int32} (h : (((x.toUInt32 >>> ((4 : Int32) &&& 31).toUInt32).toInt32) % (3 : Int32)) + (1 : Int32) = v) : v = 1 ∨ v = 2 ∨ v = 3 := by
  have q := c_iushr x 4 4 (by decide) (by decide)
  generalize (x.toUInt32 >>> ((4 : Int32) &&& 31).toUInt32).toInt32 = y at *
  have e16 : ((2 ^ 4 : Nat) : Int) = 16 := by decide
  have y0 : 0 ≤ y.toInt := by omega
  have z := (c_irem y 3 3 (by decide)).1 y0
  have a := c_iadd (y % 3) 1; rw [h] at a; have r := rng32 v
  have e1 := own_i1; have e2 : (2 : Int32).toInt = 2 := by decide
  have e3 : (3 : Int32).toInt = 3 := by decide
  simp only [← Int32.toInt_inj, e1, e2, e3]; omega
theorem own_srt {a b : Int32} (h1 : 0 ≤ a.toInt) (h2 : a.toInt ≤ b.toInt) {N : Nat} : ∀ i j, i ≤ j → j < N → (own_f3 a b i).toInt ≤ (own_f3 a b j).toInt := by
  intro i j hij _; unfold own_f3; (repeat' split) <;> (try rw [own_i0]) <;> omega
theorem d1_0 : decode prog_32_method_1_code 0 = .ok (.aload_n 0, 1) := by decide +kernel
theorem d1_1 : decode prog_32_method_1_code 1 = .ok (.invokespecial 1, 3) := by decide +kernel
theorem d1_4 : decode prog_32_method_1_code 4 = .ok (.aload_n 0, 1) := by decide +kernel
theorem d1_5 : decode prog_32_method_1_code 5 = .ok (.aload_n 1, 1) := by decide +kernel
theorem d1_6 : decode prog_32_method_1_code 6 = .ok (.putfield 7, 3) := by decide +kernel
theorem d1_9 : decode prog_32_method_1_code 9 = .ok (.aload_n 0, 1) := by decide +kernel
theorem d1_10 : decode prog_32_method_1_code 10 = .ok (.iload_n 2, 1) := by decide +kernel
theorem d1_11 : decode prog_32_method_1_code 11 = .ok (.putfield 13, 3) := by decide +kernel
theorem d1_14 : decode prog_32_method_1_code 14 = .ok (.return_, 1) := by decide +kernel
abbrev Q1 (Z : State) (a : Addr) (u : Int32)  (h0 : Heap) : Option Value → Heap → Prop := fun v h => v = none ∧ Keep h0 h [a] ∧ Fld Z h a "com/example/libaxes/libaxes/tree/NamespaceScope$Declaration" "label" "Lcom/example/libaxes/libaxes/tree/Label;" .null ∧ Fld Z h a "com/example/libaxes/libaxes/tree/NamespaceScope$Declaration" "uri" "I" (.int u)
set_option maxRecDepth 65536 in
set_option maxHeartbeats 40000000 in
theorem rm1 {l : Launch} {Z : State} {a0 : Array Value} (hw : ∀ d ∈ tables_1, d.before a0 Z = true) (n0 : Nat) (a : Addr) (u : Int32)  (h0 : Heap) (Flabel : Fld Z h0 a "com/example/libaxes/libaxes/tree/NamespaceScope$Declaration" "label" "Lcom/example/libaxes/libaxes/tree/Label;" .null) (Furi : Fld Z h0 a "com/example/libaxes/libaxes/tree/NamespaceScope$Declaration" "uri" "I" (.int (0 : Int32))) (E : Exa Z h0 a "com/example/libaxes/libaxes/tree/NamespaceScope$Declaration") (g_a : n0 ≤ a) :
    Met l Z n0 (⟨"com/example/libaxes/libaxes/tree/NamespaceScope$Declaration", "<init>", "(Lcom/example/libaxes/libaxes/tree/Label;I)V"⟩ : MethodName) prog_32_method_1_code 3 none [] ({ frames := 1, cells := 0, slots := 0, locals := 12 } : Room) #[(.ref a), .null, (.int u)] h0 (Q1 Z a u h0) 0 0 := by
  refine Met.of pn0 (Ls := #[.val (.ref a), .val .null, .val (.int u)]) rfl (fun k T0 X0 => ?_)
  have K0 : Keep h0 h0 [a] := Keep.refl _ _
  refine g_aloadN X0 d1_0 rfl rfl 1 rfl ?_
  refine g_initO X0 (w8 hw) (w9 hw) (w10 hw) rfl (by decide) (Nat.le_of_ble_eq_true rfl) d1_1 4 rfl (fun T1 X1 => ?_)
  refine g_aloadN X1 d1_4 rfl rfl 5 rfl ?_
  refine g_aloadN X1 d1_5 rfl rfl 6 rfl ?_
  refine g_putFin X1 (w11 hw) Flabel E (w12 hw) rfl rfl (w3 hw) g_a (.object "com/example/libaxes/libaxes/tree/Label") (by decide) rfl rfl d1_6 9 rfl (fun T2 h2 X2 W2 => ?_)
  have F2 := Flabel.same W2
  have K3 : Keep h0 h2 [a] := K0.wr W2 (Or.inl (by simp))
  refine g_aloadN X2 d1_9 rfl rfl 10 rfl ?_
  refine g_iloadN X2 d1_10 rfl 11 rfl ?_
  have ft4 := (E.wr W2)
  have ft5 := (Furi.other W2 (Or.inr (slot_ne (Or.inr (w14 hw)) (Or.inr (w12 hw)) (by decide) (t := .int) (t' := (.object "com/example/libaxes/libaxes/tree/Label")) (by decide) (by decide))))
  refine g_putFin X2 (w13 hw) ft5 ft4 (w14 hw) rfl rfl (w3 hw) g_a .int (by decide) rfl rfl d1_11 14 rfl (fun T6 h6 X6 W6 => ?_)
  have F6 := ft5.same W6
  have K7 : Keep h0 h6 [a] := K3.wr W6 (Or.inl (by simp))
  have ft8 := (F2.other W6 (Or.inr (slot_ne (Or.inr (w12 hw)) (Or.inr (w14 hw)) (by decide) (t := (.object "com/example/libaxes/libaxes/tree/Label")) (t' := .int) (by decide) (by decide))))
  exact g_ret X6 d1_14 (by decide) (by decide) ⟨rfl, K7, ft8, F6⟩
theorem d2_0 : decode jdk_29_method_65_code 0 = .ok (.iload_n 0, 1) := by decide +kernel
theorem d2_1 : decode jdk_29_method_65_code 1 = .ok (.iload_n 1, 1) := by decide +kernel
theorem d2_2 : decode jdk_29_method_65_code 2 = .ok (.if_icmp .lt 7, 3) := by decide +kernel
theorem d2_5 : decode jdk_29_method_65_code 5 = .ok (.iload_n 0, 1) := by decide +kernel
theorem d2_6 : decode jdk_29_method_65_code 6 = .ok (.goto 4, 3) := by decide +kernel
theorem d2_9 : decode jdk_29_method_65_code 9 = .ok (.iload_n 1, 1) := by decide +kernel
theorem d2_10 : decode jdk_29_method_65_code 10 = .ok (.ireturn, 1) := by decide +kernel
abbrev Q2 (a : Int32) (b : Int32)  (h0 : Heap) : Option Value → Heap → Prop := fun v h => v = some (.int (fMax a b)) ∧ h0 = h
set_option maxRecDepth 65536 in
set_option maxHeartbeats 40000000 in
theorem rm2 {l : Launch} {Z : State} {a0 : Array Value} (hw : ∀ d ∈ tables_1, d.before a0 Z = true) (n0 : Nat) (a : Int32) (b : Int32)  (h0 : Heap)  :
    Met l Z n0 (⟨"java/lang/Math", "max", "(II)I"⟩ : MethodName) jdk_29_method_65_code 2 (some .int) [] ({ frames := 0, cells := 0, slots := 0, locals := 0 } : Room) #[(.int a), (.int b)] h0 (Q2 a b h0) 0 0 := by
  refine Met.of pn1 (Ls := #[.val (.int a), .val (.int b)]) rfl (fun k T0 X0 => ?_)
  refine g_iloadN X0 d2_0 rfl 1 rfl ?_
  refine g_iloadN X0 d2_1 rfl 2 rfl ?_
  have k10_1 : ∀ (v1 : Int32), (Q2 a b h0) (some (.int v1)) h0 → Go k n0 (Q2 a b h0) 0 0 T0 10 #[.val (.int a), .val (.int b)] [(.int v1)] := by
    intro v1 hQ
    exact g_retI X0 d2_10 (by decide) (by decide) hQ
  refine g_icmp X0 i_lt d2_2 9 (by decide) (by decide) 5 rfl (fun h2 => ?_) (fun h2 => ?_)
  · skip
    refine g_iloadN X0 d2_9 rfl 10 rfl ?_
    exact k10_1 (b) ⟨by simp [fMax, h2], rfl⟩
  · skip
    refine g_iloadN X0 d2_5 rfl 6 rfl ?_
    refine g_goto X0 d2_6 10 (by decide) (by decide) ?_
    exact k10_1 (a) ⟨by simp [fMax, h2], rfl⟩
theorem d3_0 : decode prog_31_method_2_code 0 = .ok (.aload_n 0, 1) := by decide +kernel
theorem d3_1 : decode prog_31_method_2_code 1 = .ok (.ifnonnull 7, 3) := by decide +kernel
theorem d3_4 : decode prog_31_method_2_code 4 = .ok (.iconst 0, 1) := by decide +kernel
theorem d3_5 : decode prog_31_method_2_code 5 = .ok (.goto 7, 3) := by decide +kernel
theorem d3_12 : decode prog_31_method_2_code 12 = .ok (.ireturn, 1) := by decide +kernel
abbrev Q3   (h0 : Heap) : Option Value → Heap → Prop := fun v h => v = some (.int 0) ∧ h0 = h
set_option maxRecDepth 65536 in
set_option maxHeartbeats 40000000 in
theorem rm3 {l : Launch} {Z : State} {a0 : Array Value} (hw : ∀ d ∈ tables_1, d.before a0 Z = true) (n0 : Nat)   (h0 : Heap)  :
    Met l Z n0 (⟨"com/example/libaxes/libaxes/tree/NamespaceScope$Binding", "height", "(Lcom/example/libaxes/libaxes/tree/NamespaceScope$Binding;)I"⟩ : MethodName) prog_31_method_2_code 1 (some .int) [] ({ frames := 0, cells := 0, slots := 0, locals := 0 } : Room) #[.null] h0 (Q3  h0) 0 0 := by
  refine Met.of pn2 (Ls := #[.val .null]) rfl (fun k T0 X0 => ?_)
  refine g_aloadN X0 d3_0 rfl rfl 1 rfl ?_
  refine g_nonnullN X0 d3_1 4 rfl ?_
  refine g_iconst X0 (0 : Int32) d3_4 rfl 5 rfl ?_
  refine g_goto X0 d3_5 12 (by decide) (by decide) ?_
  exact g_retI X0 d3_12 (by decide) (by decide) ⟨rfl, rfl⟩
theorem d4_0 : decode prog_31_method_1_code 0 = .ok (.aload_n 0, 1) := by decide +kernel
theorem d4_1 : decode prog_31_method_1_code 1 = .ok (.invokespecial 1, 3) := by decide +kernel
theorem d4_4 : decode prog_31_method_1_code 4 = .ok (.aload_n 0, 1) := by decide +kernel
theorem d4_5 : decode prog_31_method_1_code 5 = .ok (.aload_n 1, 1) := by decide +kernel
theorem d4_6 : decode prog_31_method_1_code 6 = .ok (.putfield 7, 3) := by decide +kernel
theorem d4_9 : decode prog_31_method_1_code 9 = .ok (.aload_n 0, 1) := by decide +kernel
theorem d4_10 : decode prog_31_method_1_code 10 = .ok (.aload_n 2, 1) := by decide +kernel
theorem d4_11 : decode prog_31_method_1_code 11 = .ok (.putfield 13, 3) := by decide +kernel
theorem d4_14 : decode prog_31_method_1_code 14 = .ok (.aload_n 0, 1) := by decide +kernel
theorem d4_15 : decode prog_31_method_1_code 15 = .ok (.aload_n 3, 1) := by decide +kernel
theorem d4_16 : decode prog_31_method_1_code 16 = .ok (.putfield 17, 3) := by decide +kernel
theorem d4_19 : decode prog_31_method_1_code 19 = .ok (.aload_n 0, 1) := by decide +kernel
theorem d4_20 : decode prog_31_method_1_code 20 = .ok (.aload_n 1, 1) := by decide +kernel
theorem d4_21 : decode prog_31_method_1_code 21 = .ok (.invokestatic 20, 3) := by decide +kernel
theorem d4_24 : decode prog_31_method_1_code 24 = .ok (.aload_n 3, 1) := by decide +kernel
theorem d4_25 : decode prog_31_method_1_code 25 = .ok (.invokestatic 20, 3) := by decide +kernel
theorem d4_28 : decode prog_31_method_1_code 28 = .ok (.invokestatic 24, 3) := by decide +kernel
theorem d4_31 : decode prog_31_method_1_code 31 = .ok (.iconst 1, 1) := by decide +kernel
theorem d4_32 : decode prog_31_method_1_code 32 = .ok (.iadd, 1) := by decide +kernel
theorem d4_33 : decode prog_31_method_1_code 33 = .ok (.putfield 30, 3) := by decide +kernel
theorem d4_36 : decode prog_31_method_1_code 36 = .ok (.return_, 1) := by decide +kernel
abbrev Q4 (a : Addr) (d : Addr)  (h0 : Heap) : Option Value → Heap → Prop := fun v h => v = none ∧ Keep h0 h [a]
set_option maxRecDepth 65536 in
set_option maxHeartbeats 40000000 in
theorem rm4 {l : Launch} {Z : State} {a0 : Array Value} (hw : ∀ d ∈ tables_1, d.before a0 Z = true) (n0 : Nat) (a : Addr) (d : Addr)  (h0 : Heap) (Fa_left : Fld Z h0 a "com/example/libaxes/libaxes/tree/NamespaceScope$Binding" "left" "Lcom/example/libaxes/libaxes/tree/NamespaceScope$Binding;" .null) (Fa_declaration : Fld Z h0 a "com/example/libaxes/libaxes/tree/NamespaceScope$Binding" "declaration" "Lcom/example/libaxes/libaxes/tree/NamespaceScope$Declaration;" .null) (Fa_right : Fld Z h0 a "com/example/libaxes/libaxes/tree/NamespaceScope$Binding" "right" "Lcom/example/libaxes/libaxes/tree/NamespaceScope$Binding;" .null) (Fa_height : Fld Z h0 a "com/example/libaxes/libaxes/tree/NamespaceScope$Binding" "height" "I" (.int (0 : Int32))) (E : Exa Z h0 a "com/example/libaxes/libaxes/tree/NamespaceScope$Binding") (g_a : n0 ≤ a) :
    Met l Z n0 (⟨"com/example/libaxes/libaxes/tree/NamespaceScope$Binding", "<init>", "(Lcom/example/libaxes/libaxes/tree/NamespaceScope$Binding;Lcom/example/libaxes/libaxes/tree/NamespaceScope$Declaration;Lcom/example/libaxes/libaxes/tree/NamespaceScope$Binding;)V"⟩ : MethodName) prog_31_method_1_code 4 none [] ({ frames := 1, cells := 0, slots := 0, locals := 14 } : Room) #[(.ref a), .null, (.ref d), .null] h0 (Q4 a d h0) 0 0 := by
  refine Met.of pn3 (Ls := #[.val (.ref a), .val .null, .val (.ref d), .val .null]) rfl (fun k T0 X0 => ?_)
  have K0 : Keep h0 h0 [a] := Keep.refl _ _
  refine g_aloadN X0 d4_0 rfl rfl 1 rfl ?_
  refine g_initO X0 (w30 hw) (w9 hw) (w10 hw) rfl (by decide) (Nat.le_of_ble_eq_true rfl) d4_1 4 rfl (fun T1 X1 => ?_)
  refine g_aloadN X1 d4_4 rfl rfl 5 rfl ?_
  refine g_aloadN X1 d4_5 rfl rfl 6 rfl ?_
  refine g_putFin X1 (w31 hw) Fa_left E (w32 hw) rfl rfl (w26 hw) g_a (.object "com/example/libaxes/libaxes/tree/NamespaceScope$Binding") (by decide) rfl rfl d4_6 9 rfl (fun T2 h2 X2 W2 => ?_)
  have F2 := Fa_left.same W2
  have K3 : Keep h0 h2 [a] := K0.wr W2 (Or.inl (by simp))
  refine g_aloadN X2 d4_9 rfl rfl 10 rfl ?_
  refine g_aloadN X2 d4_10 rfl rfl 11 rfl ?_
  have ft4 := (E.wr W2)
  have ft5 := (Fa_declaration.other W2 (Or.inr (slot_ne (Or.inr (w34 hw)) (Or.inr (w32 hw)) (by decide) (t := (.object "com/example/libaxes/libaxes/tree/NamespaceScope$Declaration")) (t' := (.object "com/example/libaxes/libaxes/tree/NamespaceScope$Binding")) (by decide) (by decide))))
  refine g_putFin X2 (w33 hw) ft5 ft4 (w34 hw) rfl rfl (w26 hw) g_a (.object "com/example/libaxes/libaxes/tree/NamespaceScope$Declaration") (by decide) rfl rfl d4_11 14 rfl (fun T6 h6 X6 W6 => ?_)
  have F6 := ft5.same W6
  have K7 : Keep h0 h6 [a] := K3.wr W6 (Or.inl (by simp))
  refine g_aloadN X6 d4_14 rfl rfl 15 rfl ?_
  refine g_aloadN X6 d4_15 rfl rfl 16 rfl ?_
  have ft8 := (ft4.wr W6)
  have ft9 := ((Fa_right.other W2 (Or.inr (slot_ne (Or.inr (w36 hw)) (Or.inr (w32 hw)) (by decide) (t := (.object "com/example/libaxes/libaxes/tree/NamespaceScope$Binding")) (t' := (.object "com/example/libaxes/libaxes/tree/NamespaceScope$Binding")) (by decide) (by decide)))).other W6 (Or.inr (slot_ne (Or.inr (w36 hw)) (Or.inr (w34 hw)) (by decide) (t := (.object "com/example/libaxes/libaxes/tree/NamespaceScope$Binding")) (t' := (.object "com/example/libaxes/libaxes/tree/NamespaceScope$Declaration")) (by decide) (by decide))))
  refine g_putFin X6 (w35 hw) ft9 ft8 (w36 hw) rfl rfl (w26 hw) g_a (.object "com/example/libaxes/libaxes/tree/NamespaceScope$Binding") (by decide) rfl rfl d4_16 19 rfl (fun T10 h10 X10 W10 => ?_)
  have F10 := ft9.same W10
  have K11 : Keep h0 h10 [a] := K7.wr W10 (Or.inl (by simp))
  refine g_aloadN X10 d4_19 rfl rfl 20 rfl ?_
  refine g_aloadN X10 d4_20 rfl rfl 21 rfl ?_
  refine g_callS X10 [.null] [(.ref a)] (rm3 hw n0 h10) (w37 hw) (w38 hw) (w23 hw) (w39 hw) (by decide) pd0 rfl rfl (by decide) (Nat.le_of_ble_eq_true rfl) (by decide) (by decide) d4_21 rfl 24 rfl (fun v12 T12 h12 X12 q12 => ?_)
  obtain ⟨rfl, rfl⟩ := q12
  show Go k n0 (Q4 a d h0) 0 0 T12 24 #[.val (.ref a), .val .null, .val (.ref d), .val .null] [(.int (0 : Int32)), (.ref a)]
  refine g_aloadN X12 d4_24 rfl rfl 25 rfl ?_
  refine g_callS X12 [.null] [(.int (0 : Int32)), (.ref a)] (rm3 hw n0 h10) (w37 hw) (w38 hw) (w23 hw) (w39 hw) (by decide) pd0 rfl rfl (by decide) (Nat.le_of_ble_eq_true rfl) (by decide) (by decide) d4_25 rfl 28 rfl (fun v13 T13 h13 X13 q13 => ?_)
  obtain ⟨rfl, rfl⟩ := q13
  show Go k n0 (Q4 a d h0) 0 0 T13 28 #[.val (.ref a), .val .null, .val (.ref d), .val .null] [(.int (0 : Int32)), (.int (0 : Int32)), (.ref a)]
  refine g_callS X13 [(.int (0 : Int32)), (.int (0 : Int32))] [(.ref a)] (rm2 hw n0 (0 : Int32) (0 : Int32) h10) (w40 hw) (w41 hw) (w42 hw) (w43 hw) (by decide) pd1 rfl rfl (by decide) (Nat.le_of_ble_eq_true rfl) (by decide) (by decide) d4_28 rfl 31 rfl (fun v14 T14 h14 X14 q14 => ?_)
  obtain ⟨rfl, rfl⟩ := q14
  show Go k n0 (Q4 a d h0) 0 0 T14 31 #[.val (.ref a), .val .null, .val (.ref d), .val .null] [(.int (fMax (0 : Int32) (0 : Int32))), (.ref a)]
  refine g_iconst X14 (1 : Int32) d4_31 rfl 32 rfl ?_
  refine g_iadd X14 d4_32 33 rfl ?_
  have ft15 := (ft8.wr W10)
  have ft16 := (((Fa_height.other W2 (Or.inr (slot_ne (Or.inr (w45 hw)) (Or.inr (w32 hw)) (by decide) (t := .int) (t' := (.object "com/example/libaxes/libaxes/tree/NamespaceScope$Binding")) (by decide) (by decide)))).other W6 (Or.inr (slot_ne (Or.inr (w45 hw)) (Or.inr (w34 hw)) (by decide) (t := .int) (t' := (.object "com/example/libaxes/libaxes/tree/NamespaceScope$Declaration")) (by decide) (by decide)))).other W10 (Or.inr (slot_ne (Or.inr (w45 hw)) (Or.inr (w36 hw)) (by decide) (t := .int) (t' := (.object "com/example/libaxes/libaxes/tree/NamespaceScope$Binding")) (by decide) (by decide))))
  refine g_putFin X14 (w44 hw) ft16 ft15 (w45 hw) rfl rfl (w26 hw) g_a .int (by decide) rfl rfl d4_33 36 rfl (fun T17 h17 X17 W17 => ?_)
  have F17 := ft16.same W17
  have K18 : Keep h0 h17 [a] := K11.wr W17 (Or.inl (by simp))
  exact g_ret X17 d4_36 (by decide) (by decide) ⟨rfl, K18⟩
theorem d5_0 : decode prog_31_method_3_code 0 = .ok (.aload_n 0, 1) := by decide +kernel
theorem d5_1 : decode prog_31_method_3_code 1 = .ok (.ifnonnull 17, 3) := by decide +kernel
theorem d5_4 : decode prog_31_method_3_code 4 = .ok (.new 8, 3) := by decide +kernel
theorem d5_7 : decode prog_31_method_3_code 7 = .ok (.dup, 1) := by decide +kernel
theorem d5_8 : decode prog_31_method_3_code 8 = .ok (.aconst_null, 1) := by decide +kernel
theorem d5_9 : decode prog_31_method_3_code 9 = .ok (.aload_n 1, 1) := by decide +kernel
theorem d5_10 : decode prog_31_method_3_code 10 = .ok (.aconst_null, 1) := by decide +kernel
theorem d5_11 : decode prog_31_method_3_code 11 = .ok (.invokespecial 33, 3) := by decide +kernel
theorem d5_14 : decode prog_31_method_3_code 14 = .ok (.astore_n 2, 1) := by decide +kernel
theorem d5_15 : decode prog_31_method_3_code 15 = .ok (.goto 94, 3) := by decide +kernel
theorem d5_109 : decode prog_31_method_3_code 109 = .ok (.aload_n 2, 1) := by decide +kernel
theorem d5_110 : decode prog_31_method_3_code 110 = .ok (.areturn, 1) := by decide +kernel
abbrev Q5 (d : Addr)  (h0 : Heap) : Option Value → Heap → Prop := fun v h => (∃ b, v = some (.ref b) ∧ h0.size ≤ b) ∧ Keep h0 h []
set_option maxRecDepth 65536 in
set_option maxHeartbeats 40000000 in
theorem rm5 {l : Launch} {Z : State} {a0 : Array Value} (hw : ∀ d ∈ tables_1, d.before a0 Z = true) (n0 : Nat) (d : Addr)  (h0 : Heap) (Z0 : n0 ≤ h0.size)  :
    Met l Z n0 (⟨"com/example/libaxes/libaxes/tree/NamespaceScope$Binding", "bind", "(Lcom/example/libaxes/libaxes/tree/NamespaceScope$Binding;Lcom/example/libaxes/libaxes/tree/NamespaceScope$Declaration;)Lcom/example/libaxes/libaxes/tree/NamespaceScope$Binding;"⟩ : MethodName) prog_31_method_3_code 4 (some (.object "com/example/libaxes/libaxes/tree/NamespaceScope$Binding")) [] ({ frames := 2, cells := 1, slots := 4, locals := 30 } : Room) #[.null, (.ref d)] h0 (Q5 d h0) 1 4 := by
  refine Met.of pn4 (Ls := #[.val .null, .val (.ref d), .unset, .unset]) rfl (fun k T0 X0 => ?_)
  have K0 : Keep h0 h0 [] := Keep.refl _ _
  refine g_aloadN X0 d5_0 rfl rfl 1 rfl ?_
  refine g_nonnullN X0 d5_1 4 rfl ?_
  refine g_new X0 (w25 hw) (w26 hw) (w23 hw) d5_4 (by decide) (by decide) 7 rfl (fun T1 h1 b1 X1 g1 E1 A1 D1 => ?_)
  have g_b1 : n0 ≤ b1 := Nat.le_trans Z0 (Nat.le_of_eq g1.symm)
  have s_b1 : h0.size ≤ b1 := Nat.le_trans K0.1 (Nat.le_of_eq g1.symm)
  have z2 : n0 ≤ h1.size := Nat.le_trans Z0 E1.1
  have F3 : Fld Z h1 b1 "com/example/libaxes/libaxes/tree/NamespaceScope$Binding" "left" "Lcom/example/libaxes/libaxes/tree/NamespaceScope$Binding;" .null := D1 (Or.inr (w32 hw)) (ty := (.object "com/example/libaxes/libaxes/tree/NamespaceScope$Binding")) (by decide)
  have F4 : Fld Z h1 b1 "com/example/libaxes/libaxes/tree/NamespaceScope$Binding" "declaration" "Lcom/example/libaxes/libaxes/tree/NamespaceScope$Declaration;" .null := D1 (Or.inr (w34 hw)) (ty := (.object "com/example/libaxes/libaxes/tree/NamespaceScope$Declaration")) (by decide)
  have F5 : Fld Z h1 b1 "com/example/libaxes/libaxes/tree/NamespaceScope$Binding" "right" "Lcom/example/libaxes/libaxes/tree/NamespaceScope$Binding;" .null := D1 (Or.inr (w36 hw)) (ty := (.object "com/example/libaxes/libaxes/tree/NamespaceScope$Binding")) (by decide)
  have F6 : Fld Z h1 b1 "com/example/libaxes/libaxes/tree/NamespaceScope$Binding" "height" "I" (.int (0 : Int32)) := D1 (Or.inr (w45 hw)) (ty := .int) (by decide)
  have K7 : Keep h0 h1 [] := K0.ext E1
  refine g_dup X1 d5_7 rfl 8 rfl ?_
  refine g_null X1 d5_8 9 rfl ?_
  refine g_aloadN X1 d5_9 rfl rfl 10 rfl ?_
  refine g_null X1 d5_10 11 rfl ?_
  refine g_callI X1 b1 [.null, (.ref d), .null] [(.ref b1)] (rm4 hw n0 b1 d h1 F3 F4 F5 F6 A1 g_b1) rfl (w27 hw) (w28 hw) (w23 hw) (w29 hw) (by decide) pd2 rfl rfl (by decide) (Nat.le_of_ble_eq_true rfl) (by decide) (by decide) d5_11 rfl 14 rfl (fun v8 T8 h8 X8 q8 => ?_)
  obtain ⟨rfl, K8⟩ := q8
  have z9 : n0 ≤ h8.size := Nat.le_trans z2 K8.1
  have K10 : Keep h0 h8 [] := K7.trans K8 (allS (Or.inr s_b1) all0)
  show Go k n0 (Q5 d h0) 1 4 T8 14 #[.val .null, .val (.ref d), .unset, .unset] [(.ref b1)]
  refine g_astoreN X8 d5_14 rfl #[.val .null, .val (.ref d), .val (.ref b1), .unset] rfl 15 rfl ?_
  refine g_goto X8 d5_15 109 (by decide) (by decide) ?_
  refine g_aloadN X8 d5_109 rfl rfl 110 rfl ?_
  exact g_retA X8 rfl rfl rfl d5_110 (by decide) (by decide) ⟨⟨b1, rfl, s_b1⟩, K10⟩
theorem d6_0 : decode prog_30_method_1_code 0 = .ok (.aload_n 0, 1) := by decide +kernel
theorem d6_1 : decode prog_30_method_1_code 1 = .ok (.invokespecial 1, 3) := by decide +kernel
theorem d6_4 : decode prog_30_method_1_code 4 = .ok (.aload_n 0, 1) := by decide +kernel
theorem d6_5 : decode prog_30_method_1_code 5 = .ok (.aload_n 1, 1) := by decide +kernel
theorem d6_6 : decode prog_30_method_1_code 6 = .ok (.putfield 7, 3) := by decide +kernel
theorem d6_9 : decode prog_30_method_1_code 9 = .ok (.return_, 1) := by decide +kernel
abbrev Q6 (Z : State) (a : Addr) (b : Addr)  (h0 : Heap) : Option Value → Heap → Prop := fun v h => v = none ∧ Keep h0 h [a] ∧ Fld Z h a "com/example/libaxes/libaxes/tree/NamespaceScope" "bindings" "Lcom/example/libaxes/libaxes/tree/NamespaceScope$Binding;" (.ref b)
set_option maxRecDepth 65536 in
set_option maxHeartbeats 40000000 in
theorem rm6 {l : Launch} {Z : State} {a0 : Array Value} (hw : ∀ d ∈ tables_1, d.before a0 Z = true) (n0 : Nat) (a : Addr) (b : Addr)  (h0 : Heap) (Fbindings : Fld Z h0 a "com/example/libaxes/libaxes/tree/NamespaceScope" "bindings" "Lcom/example/libaxes/libaxes/tree/NamespaceScope$Binding;" .null) (E : Exa Z h0 a "com/example/libaxes/libaxes/tree/NamespaceScope") (g_a : n0 ≤ a) :
    Met l Z n0 (⟨"com/example/libaxes/libaxes/tree/NamespaceScope", "<init>", "(Lcom/example/libaxes/libaxes/tree/NamespaceScope$Binding;)V"⟩ : MethodName) prog_30_method_1_code 2 none [] ({ frames := 1, cells := 0, slots := 0, locals := 12 } : Room) #[(.ref a), (.ref b)] h0 (Q6 Z a b h0) 0 0 := by
  refine Met.of pn5 (Ls := #[.val (.ref a), .val (.ref b)]) rfl (fun k T0 X0 => ?_)
  have K0 : Keep h0 h0 [a] := Keep.refl _ _
  refine g_aloadN X0 d6_0 rfl rfl 1 rfl ?_
  refine g_initO X0 (w49 hw) (w9 hw) (w10 hw) rfl (by decide) (Nat.le_of_ble_eq_true rfl) d6_1 4 rfl (fun T1 X1 => ?_)
  refine g_aloadN X1 d6_4 rfl rfl 5 rfl ?_
  refine g_aloadN X1 d6_5 rfl rfl 6 rfl ?_
  refine g_putFin X1 (w50 hw) Fbindings E (w51 hw) rfl rfl (w20 hw) g_a (.object "com/example/libaxes/libaxes/tree/NamespaceScope$Binding") (by decide) rfl rfl d6_6 9 rfl (fun T2 h2 X2 W2 => ?_)
  have F2 := Fbindings.same W2
  have K3 : Keep h0 h2 [a] := K0.wr W2 (Or.inl (by simp))
  exact g_ret X2 d6_9 (by decide) (by decide) ⟨rfl, K3, F2⟩
theorem d7_0 : decode prog_30_method_2_code 0 = .ok (.new 8, 3) := by decide +kernel
theorem d7_3 : decode prog_30_method_2_code 3 = .ok (.dup, 1) := by decide +kernel
theorem d7_4 : decode prog_30_method_2_code 4 = .ok (.aconst_null, 1) := by decide +kernel
theorem d7_5 : decode prog_30_method_2_code 5 = .ok (.aload_n 0, 1) := by decide +kernel
theorem d7_6 : decode prog_30_method_2_code 6 = .ok (.invokestatic 13, 3) := by decide +kernel
theorem d7_9 : decode prog_30_method_2_code 9 = .ok (.invokespecial 19, 3) := by decide +kernel
theorem d7_12 : decode prog_30_method_2_code 12 = .ok (.areturn, 1) := by decide +kernel
abbrev Q7 (Z : State) (d : Addr)  (h0 : Heap) : Option Value → Heap → Prop := fun v h => (∃ s, v = some (.ref s) ∧ h0.size ≤ s ∧ Exa Z h s "com/example/libaxes/libaxes/tree/NamespaceScope") ∧ Keep h0 h []
set_option maxRecDepth 65536 in
set_option maxHeartbeats 40000000 in
theorem rm7 {l : Launch} {Z : State} {a0 : Array Value} (hw : ∀ d ∈ tables_1, d.before a0 Z = true) (n0 : Nat) (d : Addr)  (h0 : Heap) (Z0 : n0 ≤ h0.size)  :
    Met l Z n0 (⟨"com/example/libaxes/libaxes/tree/NamespaceScope", "ofRoot", "(Lcom/example/libaxes/libaxes/tree/NamespaceScope$Declaration;)Lcom/example/libaxes/libaxes/tree/NamespaceScope;"⟩ : MethodName) prog_30_method_2_code 1 (some (.object "com/example/libaxes/libaxes/tree/NamespaceScope")) [] ({ frames := 3, cells := 2, slots := 5, locals := 47 } : Room) #[(.ref d)] h0 (Q7 Z d h0) 2 5 := by
  refine Met.of pn6 (Ls := #[.val (.ref d)]) rfl (fun k T0 X0 => ?_)
  have K0 : Keep h0 h0 [] := Keep.refl _ _
  refine g_new X0 (w19 hw) (w20 hw) (w17 hw) d7_0 (by decide) (by decide) 3 rfl (fun T1 h1 b1 X1 g1 E1 A1 D1 => ?_)
  have g_b1 : n0 ≤ b1 := Nat.le_trans Z0 (Nat.le_of_eq g1.symm)
  have s_b1 : h0.size ≤ b1 := Nat.le_trans K0.1 (Nat.le_of_eq g1.symm)
  have z2 : n0 ≤ h1.size := Nat.le_trans Z0 E1.1
  have F3 : Fld Z h1 b1 "com/example/libaxes/libaxes/tree/NamespaceScope" "bindings" "Lcom/example/libaxes/libaxes/tree/NamespaceScope$Binding;" .null := D1 (Or.inr (w51 hw)) (ty := (.object "com/example/libaxes/libaxes/tree/NamespaceScope$Binding")) (by decide)
  have K4 : Keep h0 h1 [] := K0.ext E1
  refine g_dup X1 d7_3 rfl 4 rfl ?_
  refine g_null X1 d7_4 5 rfl ?_
  refine g_aloadN X1 d7_5 rfl rfl 6 rfl ?_
  refine g_callS X1 [.null, (.ref d)] [(.ref b1), (.ref b1)] (rm5 hw n0 d h1 z2) (w21 hw) (w22 hw) (w23 hw) (w24 hw) (by decide) pd3 rfl rfl (by decide) (Nat.le_of_ble_eq_true rfl) (by decide) (by decide) d7_6 rfl 9 rfl (fun v5 T5 h5 X5 q5 => ?_)
  obtain ⟨⟨c5, rfl, gc5⟩, K5⟩ := q5
  have z6 : n0 ≤ h5.size := Nat.le_trans z2 K5.1
  have K7 : Keep h0 h5 [] := K4.trans K5 all0
  show Go k n0 (Q7 Z d h0) 2 5 T5 9 #[.val (.ref d)] [(.ref c5), (.ref b1), (.ref b1)]
  have ft8 := (F3.keep K5 nin0)
  have ft9 := (A1.keep K5)
  refine g_callI X5 b1 [(.ref c5)] [(.ref b1)] (rm6 hw n0 b1 c5 h5 ft8 ft9 g_b1) rfl (w46 hw) (w47 hw) (w17 hw) (w48 hw) (by decide) pd4 rfl rfl (by decide) (Nat.le_of_ble_eq_true rfl) (by decide) (by decide) d7_9 rfl 12 rfl (fun v10 T10 h10 X10 q10 => ?_)
  obtain ⟨rfl, K10, F10_0⟩ := q10
  have z11 : n0 ≤ h10.size := Nat.le_trans z6 K10.1
  have K12 : Keep h0 h10 [] := K7.trans K10 (allS (Or.inr s_b1) all0)
  show Go k n0 (Q7 Z d h0) 2 5 T10 12 #[.val (.ref d)] [(.ref b1)]
  have ft13 := (ft9.keep K10)
  exact g_retA X10 rfl rfl rfl d7_12 (by decide) (by decide) ⟨⟨b1, rfl, s_b1, ft13⟩, K12⟩
theorem d8_0 : decode prog_38_method_1_code 0 = .ok (.aload_n 0, 1) := by decide +kernel
theorem d8_1 : decode prog_38_method_1_code 1 = .ok (.invokespecial 1, 3) := by decide +kernel
theorem d8_4 : decode prog_38_method_1_code 4 = .ok (.aload_n 0, 1) := by decide +kernel
theorem d8_5 : decode prog_38_method_1_code 5 = .ok (.iconst 4, 1) := by decide +kernel
theorem d8_6 : decode prog_38_method_1_code 6 = .ok (.newarray .int, 2) := by decide +kernel
theorem d8_8 : decode prog_38_method_1_code 8 = .ok (.putfield 7, 3) := by decide +kernel
theorem d8_11 : decode prog_38_method_1_code 11 = .ok (.aload_n 0, 1) := by decide +kernel
theorem d8_12 : decode prog_38_method_1_code 12 = .ok (.iconst 4, 1) := by decide +kernel
theorem d8_13 : decode prog_38_method_1_code 13 = .ok (.anewarray 13, 3) := by decide +kernel
theorem d8_16 : decode prog_38_method_1_code 16 = .ok (.putfield 15, 3) := by decide +kernel
theorem d8_19 : decode prog_38_method_1_code 19 = .ok (.return_, 1) := by decide +kernel
abbrev Q8 (Z : State) (a : Addr)  (h0 : Heap) : Option Value → Heap → Prop := fun v h => v = none ∧ Keep h0 h [a] ∧ ∃ b c, h0.size ≤ b ∧ h0.size ≤ c ∧ b ≠ c ∧ Fld Z h a "com/example/libaxes/libaxes/tree/ScopeRuns" "starts" "[I" (.ref b) ∧ Fld Z h a "com/example/libaxes/libaxes/tree/ScopeRuns" "scopes" "[Lcom/example/libaxes/libaxes/tree/NamespaceScope;" (.ref c) ∧ Fld Z h a "com/example/libaxes/libaxes/tree/ScopeRuns" "count" "I" (.int (0 : Int32)) ∧ AI Z h b .int 4 (fun _ => defaultValue (newarray.typeOf .int)) ∧ AR Z h c "com/example/libaxes/libaxes/tree/NamespaceScope" 4 (fun _ => .null)
set_option maxRecDepth 65536 in
set_option maxHeartbeats 40000000 in
theorem rm8 {l : Launch} {Z : State} {a0 : Array Value} (hw : ∀ d ∈ tables_1, d.before a0 Z = true) (n0 : Nat) (a : Addr)  (h0 : Heap) (Z0 : n0 ≤ h0.size) (Fa_starts : Fld Z h0 a "com/example/libaxes/libaxes/tree/ScopeRuns" "starts" "[I" .null) (Fa_scopes : Fld Z h0 a "com/example/libaxes/libaxes/tree/ScopeRuns" "scopes" "[Lcom/example/libaxes/libaxes/tree/NamespaceScope;" .null) (Fa_count : Fld Z h0 a "com/example/libaxes/libaxes/tree/ScopeRuns" "count" "I" (.int (0 : Int32))) (E : Exa Z h0 a "com/example/libaxes/libaxes/tree/ScopeRuns") (g_a : n0 ≤ a) :
    Met l Z n0 (⟨"com/example/libaxes/libaxes/tree/ScopeRuns", "<init>", "()V"⟩ : MethodName) prog_38_method_1_code 1 none [] ({ frames := 1, cells := 2, slots := 8, locals := 12 } : Room) #[(.ref a)] h0 (Q8 Z a h0) 2 8 := by
  refine Met.of pn7 (Ls := #[.val (.ref a)]) rfl (fun k T0 X0 => ?_)
  have K0 : Keep h0 h0 [a] := Keep.refl _ _
  refine g_aloadN X0 d8_0 rfl rfl 1 rfl ?_
  refine g_initO X0 (w58 hw) (w9 hw) (w10 hw) rfl (by decide) (Nat.le_of_ble_eq_true rfl) d8_1 4 rfl (fun T1 X1 => ?_)
  refine g_aloadN X1 d8_4 rfl rfl 5 rfl ?_
  refine g_iconst X1 (4 : Int32) d8_5 rfl 6 rfl ?_
  refine g_newP (aty := .int) X1 (w59 hw) 4 4 (by decide) (by decide) (by decide) d8_6 (by decide) (by decide) 8 rfl (fun T2 h2 b2 X2 g2 E2 A2 => ?_)
  have ne3 : a ≠ b2 := Nat.ne_of_lt (Nat.lt_of_lt_of_le Fa_starts.lt (Nat.le_of_eq g2.symm))
  have g_b2 : n0 ≤ b2 := Nat.le_trans Z0 (Nat.le_of_eq g2.symm)
  have s_b2 : h0.size ≤ b2 := Nat.le_trans K0.1 (Nat.le_of_eq g2.symm)
  have z4 : n0 ≤ h2.size := Nat.le_trans Z0 E2.1
  have K5 : Keep h0 h2 [a] := K0.ext E2
  have ft6 := (E.ext E2)
  have ft7 := (Fa_starts.ext E2)
  refine g_putF X2 (w60 hw) Via.refl ft7 ft6 (w61 hw) (w53 hw) g_a (.array .int) (by decide) rfl rfl d8_8 11 rfl (fun T8 h8 X8 W8 => ?_)
  have z9 : n0 ≤ h8.size := Nat.le_trans z4 (Nat.le_of_eq W8.size.symm)
  have F8 := ft7.same W8
  have K10 : Keep h0 h8 [a] := K5.wr W8 (Or.inl (by simp))
  refine g_aloadN X8 d8_11 rfl rfl 12 rfl ?_
  refine g_iconst X8 (4 : Int32) d8_12 rfl 13 rfl ?_
  refine g_newR X8 (w62 hw) (w63 hw) 4 4 (by decide) (by decide) (by decide) d8_13 (by decide) (by decide) 16 rfl (fun T11 h11 b11 X11 g11 E11 A11 => ?_)
  have ne12 : a ≠ b11 := Nat.ne_of_lt (Nat.lt_of_lt_of_le F8.lt (Nat.le_of_eq g11.symm))
  have ft13 := (A2.other W8 (Ne.symm ne3))
  have ne14 : b2 ≠ b11 := Nat.ne_of_lt (Nat.lt_of_lt_of_le ft13.lt (Nat.le_of_eq g11.symm))
  have g_b11 : n0 ≤ b11 := Nat.le_trans z9 (Nat.le_of_eq g11.symm)
  have s_b11 : h0.size ≤ b11 := Nat.le_trans K10.1 (Nat.le_of_eq g11.symm)
  have z15 : n0 ≤ h11.size := Nat.le_trans z9 E11.1
  have K16 : Keep h0 h11 [a] := K10.ext E11
  have ft17 := ((ft6.wr W8).ext E11)
  have ft18 := (((Fa_scopes.ext E2).other W8 (Or.inr (slot_ne (Or.inl (w65 hw)) (Or.inl (w61 hw)) (by decide) (t := (.array (.object "com/example/libaxes/libaxes/tree/NamespaceScope"))) (t' := (.array .int)) (by decide) (by decide)))).ext E11)
  refine g_putF X11 (w64 hw) Via.refl ft18 ft17 (w65 hw) (w53 hw) g_a (.array (.object "com/example/libaxes/libaxes/tree/NamespaceScope")) (by decide) rfl rfl d8_16 19 rfl (fun T19 h19 X19 W19 => ?_)
  have z20 : n0 ≤ h19.size := Nat.le_trans z15 (Nat.le_of_eq W19.size.symm)
  have F19 := ft18.same W19
  have K21 : Keep h0 h19 [a] := K16.wr W19 (Or.inl (by simp))
  have ft22 := ((F8.ext E11).other W19 (Or.inr (slot_ne (Or.inl (w61 hw)) (Or.inl (w65 hw)) (by decide) (t := (.array .int)) (t' := (.array (.object "com/example/libaxes/libaxes/tree/NamespaceScope"))) (by decide) (by decide))))
  have ft23 := ((((Fa_count.ext E2).other W8 (Or.inr (slot_ne (Or.inl (w72 hw)) (Or.inl (w61 hw)) (by decide) (t := .int) (t' := (.array .int)) (by decide) (by decide)))).ext E11).other W19 (Or.inr (slot_ne (Or.inl (w72 hw)) (Or.inl (w65 hw)) (by decide) (t := .int) (t' := (.array (.object "com/example/libaxes/libaxes/tree/NamespaceScope"))) (by decide) (by decide))))
  have ft24 := ((ft13.ext E11).other W19 (Ne.symm ne3))
  have ft25 := (A11.other W19 (Ne.symm ne12))
  exact g_ret X19 d8_19 (by decide) (by decide) ⟨rfl, K21, b2, b11, s_b2, s_b11, ne14, ft22, F19, ft23, ft24, ft25⟩
theorem d9_0 : decode prog_38_method_2_code 0 = .ok (.aload_n 0, 1) := by decide +kernel
theorem d9_1 : decode prog_38_method_2_code 1 = .ok (.getfield 19, 3) := by decide +kernel
theorem d9_4 : decode prog_38_method_2_code 4 = .ok (.aload_n 0, 1) := by decide +kernel
theorem d9_5 : decode prog_38_method_2_code 5 = .ok (.getfield 7, 3) := by decide +kernel
theorem d9_8 : decode prog_38_method_2_code 8 = .ok (.arraylength, 1) := by decide +kernel
theorem d9_9 : decode prog_38_method_2_code 9 = .ok (.if_icmp .ne 40, 3) := by decide +kernel
theorem d9_49 : decode prog_38_method_2_code 49 = .ok (.aload_n 0, 1) := by decide +kernel
theorem d9_50 : decode prog_38_method_2_code 50 = .ok (.getfield 7, 3) := by decide +kernel
theorem d9_53 : decode prog_38_method_2_code 53 = .ok (.aload_n 0, 1) := by decide +kernel
theorem d9_54 : decode prog_38_method_2_code 54 = .ok (.getfield 19, 3) := by decide +kernel
theorem d9_57 : decode prog_38_method_2_code 57 = .ok (.iload_n 1, 1) := by decide +kernel
theorem d9_58 : decode prog_38_method_2_code 58 = .ok (.iastore, 1) := by decide +kernel
theorem d9_59 : decode prog_38_method_2_code 59 = .ok (.aload_n 0, 1) := by decide +kernel
theorem d9_60 : decode prog_38_method_2_code 60 = .ok (.getfield 15, 3) := by decide +kernel
theorem d9_63 : decode prog_38_method_2_code 63 = .ok (.aload_n 0, 1) := by decide +kernel
theorem d9_64 : decode prog_38_method_2_code 64 = .ok (.getfield 19, 3) := by decide +kernel
theorem d9_67 : decode prog_38_method_2_code 67 = .ok (.aload_n 2, 1) := by decide +kernel
theorem d9_68 : decode prog_38_method_2_code 68 = .ok (.aastore, 1) := by decide +kernel
theorem d9_69 : decode prog_38_method_2_code 69 = .ok (.aload_n 0, 1) := by decide +kernel
theorem d9_70 : decode prog_38_method_2_code 70 = .ok (.dup, 1) := by decide +kernel
theorem d9_71 : decode prog_38_method_2_code 71 = .ok (.getfield 19, 3) := by decide +kernel
theorem d9_74 : decode prog_38_method_2_code 74 = .ok (.iconst 1, 1) := by decide +kernel
theorem d9_75 : decode prog_38_method_2_code 75 = .ok (.iadd, 1) := by decide +kernel
theorem d9_76 : decode prog_38_method_2_code 76 = .ok (.putfield 19, 3) := by decide +kernel
theorem d9_79 : decode prog_38_method_2_code 79 = .ok (.return_, 1) := by decide +kernel
abbrev Q9 (Z : State) (a : Addr) (s : Int32) (sc : Addr) (b : Addr) (c : Addr) (cn : Int32) (n' : Nat) (F : Nat → Value) (G : Nat → Value) (h0 : Heap) : Option Value → Heap → Prop := fun v h => v = none ∧ Keep h0 h [a, b, c] ∧ Fld Z h a "com/example/libaxes/libaxes/tree/ScopeRuns" "starts" "[I" (.ref b) ∧ Fld Z h a "com/example/libaxes/libaxes/tree/ScopeRuns" "scopes" "[Lcom/example/libaxes/libaxes/tree/NamespaceScope;" (.ref c) ∧ Fld Z h a "com/example/libaxes/libaxes/tree/ScopeRuns" "count" "I" (.int (cn + (1 : Int32))) ∧ AI Z h b .int 4 (fun j => if j = n' then .int s else F j) ∧ AR Z h c "com/example/libaxes/libaxes/tree/NamespaceScope" 4 (fun j => if j = n' then .ref sc else G j)
set_option maxRecDepth 65536 in
set_option maxHeartbeats 40000000 in
theorem rm9 {l : Launch} {Z : State} {a0 : Array Value} (hw : ∀ d ∈ tables_1, d.before a0 Z = true) (n0 : Nat) (a : Addr) (s : Int32) (sc : Addr) (b : Addr) (c : Addr) (cn : Int32) (n' : Nat) (F : Nat → Value) (G : Nat → Value) (h0 : Heap) (Fa_starts : Fld Z h0 a "com/example/libaxes/libaxes/tree/ScopeRuns" "starts" "[I" (.ref b)) (Fa_scopes : Fld Z h0 a "com/example/libaxes/libaxes/tree/ScopeRuns" "scopes" "[Lcom/example/libaxes/libaxes/tree/NamespaceScope;" (.ref c)) (Fa_count : Fld Z h0 a "com/example/libaxes/libaxes/tree/ScopeRuns" "count" "I" (.int cn)) (E : Exa Z h0 a "com/example/libaxes/libaxes/tree/ScopeRuns") (Es : Exa Z h0 sc "com/example/libaxes/libaxes/tree/NamespaceScope") (Ab : AI Z h0 b .int 4 F) (Ac : AR Z h0 c "com/example/libaxes/libaxes/tree/NamespaceScope" 4 G) (g_a : n0 ≤ a) (g_b : n0 ≤ b) (g_c : n0 ≤ c) (nab : a ≠ b) (nac : a ≠ c) (nbc : b ≠ c) (hcn : ¬ cn = (4 : Int32)) (hn1 : cn.toInt = n') (hn2 : n' < 4) :
    Met l Z n0 (⟨"com/example/libaxes/libaxes/tree/ScopeRuns", "begin", "(ILcom/example/libaxes/libaxes/tree/NamespaceScope;)V"⟩ : MethodName) prog_38_method_2_code 3 none [] ({ frames := 0, cells := 0, slots := 0, locals := 0 } : Room) #[(.ref a), (.int s), (.ref sc)] h0 (Q9 Z a s sc b c cn n' F G h0) 0 0 := by
  refine Met.of pn8 (Ls := #[.val (.ref a), .val (.int s), .val (.ref sc)]) rfl (fun k T0 X0 => ?_)
  have K0 : Keep h0 h0 [a, b, c] := Keep.refl _ _
  refine g_aloadN X0 d9_0 rfl rfl 1 rfl ?_
  refine g_getF X0 (w71 hw) Via.refl Fa_count d9_1 4 rfl (fun T1 X1 => ?_)
  refine g_aloadN X1 d9_4 rfl rfl 5 rfl ?_
  refine g_getF X1 (w60 hw) Via.refl Fa_starts d9_5 8 rfl (fun T2 X2 => ?_)
  refine g_alen X2 Ab (4 : Int32) (by decide) d9_8 9 rfl ?_
  refine g_icmpN X2 i_ne d9_9 49 (by decide) (by decide) 12 rfl (fun h3 => ?_) (fun h3 => ?_)
  · exact absurd h3 hcn
  · skip
    refine g_aloadN X2 d9_49 rfl rfl 50 rfl ?_
    refine g_getF X2 (w60 hw) Via.refl Fa_starts d9_50 53 rfl (fun T4 X4 => ?_)
    refine g_aloadN X4 d9_53 rfl rfl 54 rfl ?_
    refine g_getF X4 (w71 hw) Via.refl Fa_count d9_54 57 rfl (fun T5 X5 => ?_)
    refine g_iloadN X5 d9_57 rfl 58 rfl ?_
    refine g_iastore X5 Ab n' hn1 hn2 g_b d9_58 59 rfl (fun T6 h6 X6 W6 => ?_)
    have A6 := AI.set Ab W6
    have K7 : Keep h0 h6 [a, b, c] := K0.wr W6 (Or.inl (by simp))
    refine g_aloadN X6 d9_59 rfl rfl 60 rfl ?_
    have ft8 := (Fa_scopes.other W6 (Or.inl nab))
    refine g_getF X6 (w64 hw) Via.refl ft8 d9_60 63 rfl (fun T9 X9 => ?_)
    refine g_aloadN X9 d9_63 rfl rfl 64 rfl ?_
    have ft10 := (Fa_count.other W6 (Or.inl nab))
    refine g_getF X9 (w71 hw) Via.refl ft10 d9_64 67 rfl (fun T11 X11 => ?_)
    refine g_aloadN X11 d9_67 rfl rfl 68 rfl ?_
    have ft12 := (Ac.other W6 (Ne.symm nbc))
    have ft14 := (Es.wr W6)
    refine g_aastore X11 ft12 n' hn1 hn2 (Ins.self ft14) g_c d9_68 69 rfl (fun T13 h13 X13 W13 => ?_)
    have A13 := AR.set ft12 W13
    have K15 : Keep h0 h13 [a, b, c] := K7.wr W13 (Or.inl (by simp))
    refine g_aloadN X13 d9_69 rfl rfl 70 rfl ?_
    refine g_dup X13 d9_70 rfl 71 rfl ?_
    have ft16 := (ft10.other W13 (Or.inl nac))
    refine g_getF X13 (w71 hw) Via.refl ft16 d9_71 74 rfl (fun T17 X17 => ?_)
    refine g_iconst X17 (1 : Int32) d9_74 rfl 75 rfl ?_
    refine g_iadd X17 d9_75 76 rfl ?_
    have ft18 := ((E.wr W6).wr W13)
    refine g_putF X17 (w71 hw) Via.refl ft16 ft18 (w72 hw) (w53 hw) g_a .int (by decide) rfl rfl d9_76 79 rfl (fun T19 h19 X19 W19 => ?_)
    have F19 := ft16.same W19
    have K20 : Keep h0 h19 [a, b, c] := K15.wr W19 (Or.inl (by simp))
    have ft21 := (((Fa_starts.other W6 (Or.inl nab)).other W13 (Or.inl nac)).other W19 (Or.inr (slot_ne (Or.inl (w61 hw)) (Or.inl (w72 hw)) (by decide) (t := (.array .int)) (t' := .int) (by decide) (by decide))))
    have ft22 := ((ft8.other W13 (Or.inl nac)).other W19 (Or.inr (slot_ne (Or.inl (w65 hw)) (Or.inl (w72 hw)) (by decide) (t := (.array (.object "com/example/libaxes/libaxes/tree/NamespaceScope"))) (t' := .int) (by decide) (by decide))))
    have ft23 := ((A6.other W13 nbc).other W19 (Ne.symm nab))
    have ft24 := (A13.other W19 (Ne.symm nac))
    exact g_ret X19 d9_79 (by decide) (by decide) ⟨rfl, K20, ft21, ft22, F19, ft23, ft24⟩
theorem d10_0 : decode prog_38_method_3_code 0 = .ok (.iconst 0, 1) := by decide +kernel
theorem d10_1 : decode prog_38_method_3_code 1 = .ok (.istore_n 2, 1) := by decide +kernel
theorem d10_2 : decode prog_38_method_3_code 2 = .ok (.aload_n 0, 1) := by decide +kernel
theorem d10_3 : decode prog_38_method_3_code 3 = .ok (.getfield 19, 3) := by decide +kernel
theorem d10_6 : decode prog_38_method_3_code 6 = .ok (.istore_n 3, 1) := by decide +kernel
theorem d10_7 : decode prog_38_method_3_code 7 = .ok (.iload_n 2, 1) := by decide +kernel
theorem d10_8 : decode prog_38_method_3_code 8 = .ok (.iload_n 3, 1) := by decide +kernel
theorem d10_9 : decode prog_38_method_3_code 9 = .ok (.if_icmp .ge 35, 3) := by decide +kernel
theorem d10_12 : decode prog_38_method_3_code 12 = .ok (.iload_n 2, 1) := by decide +kernel
theorem d10_13 : decode prog_38_method_3_code 13 = .ok (.iload_n 3, 1) := by decide +kernel
theorem d10_14 : decode prog_38_method_3_code 14 = .ok (.iadd, 1) := by decide +kernel
theorem d10_15 : decode prog_38_method_3_code 15 = .ok (.iconst 1, 1) := by decide +kernel
theorem d10_16 : decode prog_38_method_3_code 16 = .ok (.iushr, 1) := by decide +kernel
theorem d10_17 : decode prog_38_method_3_code 17 = .ok (.istore 4, 2) := by decide +kernel
theorem d10_19 : decode prog_38_method_3_code 19 = .ok (.aload_n 0, 1) := by decide +kernel
theorem d10_20 : decode prog_38_method_3_code 20 = .ok (.getfield 7, 3) := by decide +kernel
theorem d10_23 : decode prog_38_method_3_code 23 = .ok (.iload 4, 2) := by decide +kernel
theorem d10_25 : decode prog_38_method_3_code 25 = .ok (.iaload, 1) := by decide +kernel
theorem d10_26 : decode prog_38_method_3_code 26 = .ok (.iload_n 1, 1) := by decide +kernel
theorem d10_27 : decode prog_38_method_3_code 27 = .ok (.if_icmp .gt 11, 3) := by decide +kernel
theorem d10_30 : decode prog_38_method_3_code 30 = .ok (.iload 4, 2) := by decide +kernel
theorem d10_32 : decode prog_38_method_3_code 32 = .ok (.iconst 1, 1) := by decide +kernel
theorem d10_33 : decode prog_38_method_3_code 33 = .ok (.iadd, 1) := by decide +kernel
theorem d10_34 : decode prog_38_method_3_code 34 = .ok (.istore_n 2, 1) := by decide +kernel
theorem d10_35 : decode prog_38_method_3_code 35 = .ok (.goto 6, 3) := by decide +kernel
theorem d10_38 : decode prog_38_method_3_code 38 = .ok (.iload 4, 2) := by decide +kernel
theorem d10_40 : decode prog_38_method_3_code 40 = .ok (.istore_n 3, 1) := by decide +kernel
theorem d10_41 : decode prog_38_method_3_code 41 = .ok (.goto (-34), 3) := by decide +kernel
theorem d10_44 : decode prog_38_method_3_code 44 = .ok (.aload_n 0, 1) := by decide +kernel
theorem d10_45 : decode prog_38_method_3_code 45 = .ok (.getfield 15, 3) := by decide +kernel
theorem d10_48 : decode prog_38_method_3_code 48 = .ok (.iload_n 2, 1) := by decide +kernel
theorem d10_49 : decode prog_38_method_3_code 49 = .ok (.iconst 1, 1) := by decide +kernel
theorem d10_50 : decode prog_38_method_3_code 50 = .ok (.isub, 1) := by decide +kernel
theorem d10_51 : decode prog_38_method_3_code 51 = .ok (.aaload, 1) := by decide +kernel
theorem d10_52 : decode prog_38_method_3_code 52 = .ok (.areturn, 1) := by decide +kernel
abbrev Q10 (a : Addr) (i : Int32) (b : Addr) (c : Addr) (cn : Int32) (n' : Nat) (f : Nat → Int32) (F : Nat → Value) (G : Nat → Value) (h0 : Heap) : Option Value → Heap → Prop := fun v h => (∃ r : Nat, v = some (G (r - 1)) ∧ 1 ≤ r ∧ r ≤ n' ∧ ∀ j, j < n' → (j < r ↔ (f j).toInt ≤ i.toInt)) ∧ h0 = h
set_option maxRecDepth 65536 in
set_option maxHeartbeats 40000000 in
theorem rm10 {l : Launch} {Z : State} {a0 : Array Value} (hw : ∀ d ∈ tables_1, d.before a0 Z = true) (n0 : Nat) (a : Addr) (i : Int32) (b : Addr) (c : Addr) (cn : Int32) (n' : Nat) (f : Nat → Int32) (F : Nat → Value) (G : Nat → Value) (h0 : Heap) (Fa_starts : Fld Z h0 a "com/example/libaxes/libaxes/tree/ScopeRuns" "starts" "[I" (.ref b)) (Fa_scopes : Fld Z h0 a "com/example/libaxes/libaxes/tree/ScopeRuns" "scopes" "[Lcom/example/libaxes/libaxes/tree/NamespaceScope;" (.ref c)) (Fa_count : Fld Z h0 a "com/example/libaxes/libaxes/tree/ScopeRuns" "count" "I" (.int cn)) (Ab : AI Z h0 b .int 4 F) (Ac : AR Z h0 c "com/example/libaxes/libaxes/tree/NamespaceScope" 4 G) (hn1 : cn.toInt = n') (hn2 : n' ≤ 4) (hn3 : 1 ≤ n') (hF : ∀ j, j < n' → F j = .int (f j)) (hG : ∀ j, j < n' → (G j).isRef = true) (hs : ∀ i j, i ≤ j → j < n' → (f i).toInt ≤ (f j).toInt) (hf0 : (f 0).toInt ≤ i.toInt) :
    Met l Z n0 (⟨"com/example/libaxes/libaxes/tree/ScopeRuns", "at", "(I)Lcom/example/libaxes/libaxes/tree/NamespaceScope;"⟩ : MethodName) prog_38_method_3_code 5 (some (.object "com/example/libaxes/libaxes/tree/NamespaceScope")) [] ({ frames := 0, cells := 0, slots := 0, locals := 0 } : Room) #[(.ref a), (.int i)] h0 (Q10 a i b c cn n' f F G h0) 0 0 := by
  refine Met.of pn9 (Ls := #[.val (.ref a), .val (.int i), .unset, .unset, .unset]) rfl (fun k T0 X0 => ?_)
  refine g_iconst X0 (0 : Int32) d10_0 rfl 1 rfl ?_
  refine g_istoreN X0 d10_1 #[.val (.ref a), .val (.int i), .val (.int (0 : Int32)), .unset, .unset] rfl 2 rfl ?_
  refine g_aloadN X0 d10_2 rfl rfl 3 rfl ?_
  refine g_getF X0 (w71 hw) Via.refl Fa_count d10_3 6 rfl (fun T1 X1 => ?_)
  refine g_istoreN X1 d10_6 #[.val (.ref a), .val (.int i), .val (.int (0 : Int32)), .val (.int cn), .unset] rfl 7 rfl ?_
  have loop7 : ∀ (NL : Nat) (TL : State) (XL : Sd l Z n0 (⟨"com/example/libaxes/libaxes/tree/ScopeRuns", "at", "(I)Lcom/example/libaxes/libaxes/tree/NamespaceScope;"⟩ : MethodName) prog_38_method_3_code 5 (some (.object "com/example/libaxes/libaxes/tree/NamespaceScope")) ({ frames := 0, cells := 0, slots := 0, locals := 0 } : Room) k TL h0 0 0) (lo : Int32) (hi : Int32) (z4 : Slot), One z4 → (0 ≤ lo.toInt) → (lo.toInt ≤ hi.toInt) → (hi.toInt ≤ n') → (∀ j, j < n' → (j : Int) < lo.toInt → (f j).toInt ≤ i.toInt) → (∀ j, j < n' → hi.toInt ≤ j → ¬ (f j).toInt ≤ i.toInt) → ((hi.toInt - lo.toInt).toNat) < NL → Go k n0 (Q10 a i b c cn n' f F G h0) 0 0 TL 7 #[.val (.ref a), .val (.int i), .val (.int lo), .val (.int hi), z4] [] := by
    intro NL; induction NL with
    | zero => intro TL XL lo hi z4 hz4 i1 i2 i3 i4 i5 hmL; exact absurd hmL (Nat.not_lt_zero _)
    | succ NL ih =>
      intro TL XL lo hi z4 hz4 i1 i2 i3 i4 i5 hmL
      refine g_iloadN XL d10_7 rfl 8 rfl ?_
      refine g_iloadN XL d10_8 rfl 9 rfl ?_
      refine g_icmpN XL i_ge d10_9 44 (by decide) (by decide) 12 rfl (fun h2 => ?_) (fun h2 => ?_)
      · skip
        refine g_iloadN XL d10_12 rfl 13 rfl ?_
        refine g_iloadN XL d10_13 rfl 14 rfl ?_
        refine g_iadd XL d10_14 15 rfl ?_
        refine g_iconst XL (1 : Int32) d10_15 rfl 16 rfl ?_
        refine g_iushr XL d10_16 17 rfl ?_
        refine g_istore XL d10_17 #[.val (.ref a), .val (.int i), .val (.int lo), .val (.int hi), .val (.int (((lo + hi).toUInt32 >>> ((1 : Int32) &&& 31).toUInt32).toInt32))] (XS.store1 rfl hz4 rfl) 19 rfl ?_
        generalize hv3 : (((lo + hi).toUInt32 >>> ((1 : Int32) &&& 31).toUInt32).toInt32) = v3
        have hlt := own_gt h2
        have hm : v3.toInt = (lo.toInt + hi.toInt) / 2 := by rw [← hv3]; exact own_mid i1 (by omega)
        obtain ⟨mi, hmi⟩ : ∃ mi : Nat, v3.toInt = mi := ⟨v3.toInt.toNat, by omega⟩
        refine g_aloadN XL d10_19 rfl rfl 20 rfl ?_
        refine g_getF XL (w60 hw) Via.refl Fa_starts d10_20 23 rfl (fun T4 X4 => ?_)
        refine g_iload X4 d10_23 rfl 25 rfl ?_
        refine g_iaload X4 Ab mi hmi (by omega) (.int (f mi)) (hF mi (by omega)) d10_25 26 rfl ?_
        refine g_iloadN X4 d10_26 rfl 27 rfl ?_
        refine g_icmp X4 i_gt d10_27 38 (by decide) (by decide) 30 rfl (fun h5 => ?_) (fun h5 => ?_)
        · skip
          refine g_iload X4 d10_38 rfl 40 rfl ?_
          refine g_istoreN X4 d10_40 #[.val (.ref a), .val (.int i), .val (.int lo), .val (.int v3), .val (.int v3)] rfl 41 rfl ?_
          refine g_goto X4 d10_41 7 (by decide) (by decide) ?_
          exact ih T4 X4 (lo) (v3) (.val (.int v3)) (One.val rfl) i1 (by omega) (by omega) i4 (fun j hj q => by have q1 := hs mi j (by omega) (by omega); have q2 := own_gt h5; omega) (by omega)
        · skip
          refine g_iload X4 d10_30 rfl 32 rfl ?_
          refine g_iconst X4 (1 : Int32) d10_32 rfl 33 rfl ?_
          refine g_iadd X4 d10_33 34 rfl ?_
          refine g_istoreN X4 d10_34 #[.val (.ref a), .val (.int i), .val (.int (v3 + (1 : Int32))), .val (.int hi), .val (.int v3)] rfl 35 rfl ?_
          refine g_goto X4 d10_35 41 (by decide) (by decide) ?_
          refine g_goto X4 d10_41 7 (by decide) (by decide) ?_
          exact ih T4 X4 ((v3 + (1 : Int32))) (hi) (.val (.int v3)) (One.val rfl) (by rw [own_inc hmi (by omega)]; omega) (by rw [own_inc hmi (by omega)]; omega) i3 (fun j hj q => by rw [own_inc hmi (by omega)] at q; have q1 := hs j mi (by omega) (by omega); have q2 := own_le h5; omega) i5 (by rw [own_inc hmi (by omega)]; omega)
      · skip
        have hge := own_le h2
        obtain ⟨r, hr⟩ : ∃ r : Nat, lo.toInt = r := ⟨lo.toInt.toNat, by omega⟩
        have hr1 : 1 ≤ r := Nat.one_le_iff_ne_zero.mpr (fun z => i5 0 (by omega) (by omega) hf0)
        have hd1 := own_dec hr hr1
        refine g_aloadN XL d10_44 rfl rfl 45 rfl ?_
        refine g_getF XL (w64 hw) Via.refl Fa_scopes d10_45 48 rfl (fun T6 X6 => ?_)
        refine g_iloadN X6 d10_48 rfl 49 rfl ?_
        refine g_iconst X6 (1 : Int32) d10_49 rfl 50 rfl ?_
        refine g_isub X6 d10_50 51 rfl ?_
        refine g_aaload X6 (AR.ai Ac) rfl (r - 1) hd1 (by omega) (G (r - 1)) rfl d10_51 52 rfl ?_
        exact g_retA X6 rfl rfl (hG (r - 1) (by omega)) d10_52 (by decide) (by decide) ⟨⟨r, rfl, hr1, by omega, fun j hj => ⟨fun q => i4 j hj (by omega), fun q => by have q1 := i5 j hj; omega⟩⟩, rfl⟩
  exact loop7 _ T1 X1 ((0 : Int32)) (cn) (.unset) One.u (by decide) (by rw [own_i0]; omega) (by omega) (fun j _ q => by rw [own_i0] at q; omega) (fun j hj q => by omega) (Nat.lt_succ_self _)
abbrev Q0 (ga : Int32) (gb : Int32) (se : Int32) (xx : Int32)  (h0 : Heap) : Option Value → Heap → Prop := fun v h => v = some (.int 1)
set_option maxRecDepth 65536 in
set_option maxHeartbeats 40000000 in
theorem rm0 {l : Launch} {Z : State} {a0 : Array Value} (hw : ∀ d ∈ tables_1, d.before a0 Z = true) (n0 : Nat) (ga : Int32) (gb : Int32) (se : Int32) (xx : Int32)  (h0 : Heap) (Z0 : n0 ≤ h0.size)  :
    Met l Z n0 x code maxLocals ret tables_1 room_1 #[(.int ga), (.int gb), (.int se), (.int xx)] h0 (Q0 ga gb se xx h0) 32 128 := by
  refine Met.of pn10 (Ls := #[.val (.int ga), .val (.int gb), .val (.int se), .val (.int xx), .unset, .unset, .unset, .unset, .unset, .unset, .unset, .unset, .unset, .unset]) rfl (fun k T0 X0 => ?_)
  refine g_iloadN X0 at_0 rfl 1 rfl ?_
  refine g_ldcI X0 (w0 hw) at_1 3 rfl ?_
  refine g_iand X0 at_3 4 rfl ?_
  refine g_istore X0 at_4 #[.val (.int ga), .val (.int gb), .val (.int se), .val (.int xx), .val (.int (ga &&& (1073741823 : Int32))), .unset, .unset, .unset, .unset, .unset, .unset, .unset, .unset, .unset] rfl 6 rfl ?_
  generalize hv1 : (ga &&& (1073741823 : Int32)) = v1
  refine g_iload X0 at_6 rfl 8 rfl ?_
  refine g_iloadN X0 at_8 rfl 9 rfl ?_
  refine g_ldcI X0 (w0 hw) at_9 11 rfl ?_
  refine g_iand X0 at_11 12 rfl ?_
  refine g_iadd X0 at_12 13 rfl ?_
  refine g_istore X0 at_13 #[.val (.int ga), .val (.int gb), .val (.int se), .val (.int xx), .val (.int v1), .val (.int (v1 + (gb &&& (1073741823 : Int32)))), .unset, .unset, .unset, .unset, .unset, .unset, .unset, .unset] rfl 15 rfl ?_
  generalize hv2 : (v1 + (gb &&& (1073741823 : Int32))) = v2
  refine g_iloadN X0 at_15 rfl 16 rfl ?_
  refine g_iconst X0 (4 : Int32) at_16 rfl 17 rfl ?_
  refine g_iushr X0 at_17 18 rfl ?_
  refine g_iconst X0 (3 : Int32) at_18 rfl 19 rfl ?_
  refine g_irem X0 at_19 (by decide) 20 rfl ?_
  refine g_iconst X0 (1 : Int32) at_20 rfl 21 rfl ?_
  refine g_iadd X0 at_21 22 rfl ?_
  refine g_istore X0 at_22 #[.val (.int ga), .val (.int gb), .val (.int se), .val (.int xx), .val (.int v1), .val (.int v2), .val (.int ((((se.toUInt32 >>> ((4 : Int32) &&& 31).toUInt32).toInt32) % (3 : Int32)) + (1 : Int32))), .unset, .unset, .unset, .unset, .unset, .unset, .unset] rfl 24 rfl ?_
  generalize hv3 : ((((se.toUInt32 >>> ((4 : Int32) &&& 31).toUInt32).toInt32) % (3 : Int32)) + (1 : Int32)) = v3
  have hs1 := own_s1 hv1
  have hs2 := own_s2 hs1 hv2
  have hn3 := own_n3 hv3
  have cut80 : ∀ (TL : State) (XL : Sd l Z n0 x code maxLocals ret room_1 k TL h0 0 0) (ix : Int32) (u8 : Slot) (u9 : Slot), One u8 → One u9 → (0 ≤ ix.toInt) → Go k n0 (Q0 ga gb se xx h0) 32 128 TL 80 #[.val (.int ga), .val (.int gb), .val (.int se), .val (.int xx), .val (.int v1), .val (.int v2), .val (.int v3), .val (.int ix), u8, u9, .unset, .unset, .unset, .unset] [] := by
    intro TL XL ix u8 u9 hu8 hu9 hix
    rcases hn3 with rfl | rfl | rfl
    · skip
      refine g_new XL (w2 hw) (w3 hw) (w4 hw) at_80 (by decide) (by decide) 83 rfl (fun T4 h4 b4 X4 g4 E4 A4 D4 => ?_)
      have g_b4 : n0 ≤ b4 := Nat.le_trans Z0 (Nat.le_of_eq g4.symm)
      have z5 : n0 ≤ h4.size := Nat.le_trans Z0 E4.1
      have F6 : Fld Z h4 b4 "com/example/libaxes/libaxes/tree/NamespaceScope$Declaration" "label" "Lcom/example/libaxes/libaxes/tree/Label;" .null := D4 (Or.inr (w12 hw)) (ty := (.object "com/example/libaxes/libaxes/tree/Label")) (by decide)
      have F7 : Fld Z h4 b4 "com/example/libaxes/libaxes/tree/NamespaceScope$Declaration" "uri" "I" (.int (0 : Int32)) := D4 (Or.inr (w14 hw)) (ty := .int) (by decide)
      refine g_dup X4 at_83 rfl 84 rfl ?_
      refine g_null X4 at_84 85 rfl ?_
      refine g_iconst X4 (0 : Int32) at_85 rfl 86 rfl ?_
      refine g_callI X4 b4 [.null, (.int (0 : Int32))] [(.ref b4)] (rm1 hw n0 b4 (0 : Int32) h4 F6 F7 A4 g_b4) rfl (w5 hw) (w6 hw) (w4 hw) (w7 hw) (by decide) pd5 rfl rfl (by decide) (Nat.le_of_ble_eq_true rfl) (by decide) (by decide) at_86 rfl 89 rfl (fun v8 T8 h8 X8 q8 => ?_)
      obtain ⟨rfl, K8, F8_0, F8_1⟩ := q8
      have z9 : n0 ≤ h8.size := Nat.le_trans z5 K8.1
      show Go k n0 (Q0 ga gb se xx h0) 32 128 T8 89 #[.val (.int ga), .val (.int gb), .val (.int se), .val (.int xx), .val (.int v1), .val (.int v2), .val (.int (1 : Int32)), .val (.int ix), u8, u9, .unset, .unset, .unset, .unset] [(.ref b4)]
      refine g_astore X8 at_89 rfl #[.val (.int ga), .val (.int gb), .val (.int se), .val (.int xx), .val (.int v1), .val (.int v2), .val (.int (1 : Int32)), .val (.int ix), .val (.ref b4), u9, .unset, .unset, .unset, .unset] (XS.store1 rfl hu8 rfl) 91 rfl ?_
      refine g_aload X8 at_91 rfl rfl 93 rfl ?_
      refine g_callS X8 [(.ref b4)] [] (rm7 hw n0 b4 h8 z9) (w15 hw) (w16 hw) (w17 hw) (w18 hw) (by decide) pd6 rfl rfl (by decide) (Nat.le_of_ble_eq_true rfl) (by decide) (by decide) at_93 rfl 96 rfl (fun v10 T10 h10 X10 q10 => ?_)
      obtain ⟨⟨o10, rfl, go10, Eo10⟩, K10⟩ := q10
      have z11 : n0 ≤ h10.size := Nat.le_trans z9 K10.1
      show Go k n0 (Q0 ga gb se xx h0) 32 128 T10 96 #[.val (.int ga), .val (.int gb), .val (.int se), .val (.int xx), .val (.int v1), .val (.int v2), .val (.int (1 : Int32)), .val (.int ix), .val (.ref b4), u9, .unset, .unset, .unset, .unset] [(.ref o10)]
      refine g_astore X10 at_96 rfl #[.val (.int ga), .val (.int gb), .val (.int se), .val (.int xx), .val (.int v1), .val (.int v2), .val (.int (1 : Int32)), .val (.int ix), .val (.ref b4), .val (.ref o10), .unset, .unset, .unset, .unset] (XS.store1 rfl hu9 rfl) 98 rfl ?_
      refine g_aload X10 at_98 rfl rfl 100 rfl ?_
      refine g_callS X10 [(.ref b4)] [] (rm7 hw n0 b4 h10 z11) (w15 hw) (w16 hw) (w17 hw) (w18 hw) (by decide) pd6 rfl rfl (by decide) (Nat.le_of_ble_eq_true rfl) (by decide) (by decide) at_100 rfl 103 rfl (fun v12 T12 h12 X12 q12 => ?_)
      obtain ⟨⟨o12, rfl, go12, Eo12⟩, K12⟩ := q12
      have z13 : n0 ≤ h12.size := Nat.le_trans z11 K12.1
      show Go k n0 (Q0 ga gb se xx h0) 32 128 T12 103 #[.val (.int ga), .val (.int gb), .val (.int se), .val (.int xx), .val (.int v1), .val (.int v2), .val (.int (1 : Int32)), .val (.int ix), .val (.ref b4), .val (.ref o10), .unset, .unset, .unset, .unset] [(.ref o12)]
      refine g_astore X12 at_103 rfl #[.val (.int ga), .val (.int gb), .val (.int se), .val (.int xx), .val (.int v1), .val (.int v2), .val (.int (1 : Int32)), .val (.int ix), .val (.ref b4), .val (.ref o10), .val (.ref o12), .unset, .unset, .unset] rfl 105 rfl ?_
      refine g_aload X12 at_105 rfl rfl 107 rfl ?_
      refine g_callS X12 [(.ref b4)] [] (rm7 hw n0 b4 h12 z13) (w15 hw) (w16 hw) (w17 hw) (w18 hw) (by decide) pd6 rfl rfl (by decide) (Nat.le_of_ble_eq_true rfl) (by decide) (by decide) at_107 rfl 110 rfl (fun v14 T14 h14 X14 q14 => ?_)
      obtain ⟨⟨o14, rfl, go14, Eo14⟩, K14⟩ := q14
      have z15 : n0 ≤ h14.size := Nat.le_trans z13 K14.1
      show Go k n0 (Q0 ga gb se xx h0) 32 128 T14 110 #[.val (.int ga), .val (.int gb), .val (.int se), .val (.int xx), .val (.int v1), .val (.int v2), .val (.int (1 : Int32)), .val (.int ix), .val (.ref b4), .val (.ref o10), .val (.ref o12), .unset, .unset, .unset] [(.ref o14)]
      refine g_astore X14 at_110 rfl #[.val (.int ga), .val (.int gb), .val (.int se), .val (.int xx), .val (.int v1), .val (.int v2), .val (.int (1 : Int32)), .val (.int ix), .val (.ref b4), .val (.ref o10), .val (.ref o12), .val (.ref o14), .unset, .unset] rfl 112 rfl ?_
      refine g_new X14 (w52 hw) (w53 hw) (w54 hw) at_112 (by decide) (by decide) 115 rfl (fun T16 h16 b16 X16 g16 E16 A16 D16 => ?_)
      have ft17 := ((((A4.keep K8).keep K10).keep K12).keep K14)
      have ne18 : b4 ≠ b16 := Nat.ne_of_lt (Nat.lt_of_lt_of_le ft17.lt (Nat.le_of_eq g16.symm))
      have ft19 := ((Eo10.keep K12).keep K14)
      have ne20 : o10 ≠ b16 := Nat.ne_of_lt (Nat.lt_of_lt_of_le ft19.lt (Nat.le_of_eq g16.symm))
      have ft21 := (Eo12.keep K14)
      have ne22 : o12 ≠ b16 := Nat.ne_of_lt (Nat.lt_of_lt_of_le ft21.lt (Nat.le_of_eq g16.symm))
      have ne23 : o14 ≠ b16 := Nat.ne_of_lt (Nat.lt_of_lt_of_le Eo14.lt (Nat.le_of_eq g16.symm))
      have g_b16 : n0 ≤ b16 := Nat.le_trans z15 (Nat.le_of_eq g16.symm)
      have z24 : n0 ≤ h16.size := Nat.le_trans z15 E16.1
      have F25 : Fld Z h16 b16 "com/example/libaxes/libaxes/tree/ScopeRuns" "starts" "[I" .null := D16 (Or.inl (w61 hw)) (ty := (.array .int)) (by decide)
      have F26 : Fld Z h16 b16 "com/example/libaxes/libaxes/tree/ScopeRuns" "scopes" "[Lcom/example/libaxes/libaxes/tree/NamespaceScope;" .null := D16 (Or.inl (w65 hw)) (ty := (.array (.object "com/example/libaxes/libaxes/tree/NamespaceScope"))) (by decide)
      have F27 : Fld Z h16 b16 "com/example/libaxes/libaxes/tree/ScopeRuns" "count" "I" (.int (0 : Int32)) := D16 (Or.inl (w72 hw)) (ty := .int) (by decide)
      refine g_dup X16 at_115 rfl 116 rfl ?_
      refine g_callI X16 b16 [] [(.ref b16)] (rm8 hw n0 b16 h16 z24 F25 F26 F27 A16 g_b16) rfl (w55 hw) (w56 hw) (w54 hw) (w57 hw) (by decide) pd7 rfl rfl (by decide) (Nat.le_of_ble_eq_true rfl) (by decide) (by decide) at_116 rfl 119 rfl (fun v28 T28 h28 X28 q28 => ?_)
      obtain ⟨rfl, K28, bs, cs, gbs, gcs, nbc, G1, G2, G3, AB, AC⟩ := q28
      have z29 : n0 ≤ h28.size := Nat.le_trans z24 K28.1
      have nab : b16 ≠ bs := Nat.ne_of_lt (Nat.lt_of_lt_of_le A16.lt gbs)
      have nac : b16 ≠ cs := Nat.ne_of_lt (Nat.lt_of_lt_of_le A16.lt gcs)
      have g_bs : n0 ≤ bs := Nat.le_trans z24 gbs
      have g_cs : n0 ≤ cs := Nat.le_trans z24 gcs
      show Go k n0 (Q0 ga gb se xx h0) 32 128 T28 119 #[.val (.int ga), .val (.int gb), .val (.int se), .val (.int xx), .val (.int v1), .val (.int v2), .val (.int (1 : Int32)), .val (.int ix), .val (.ref b4), .val (.ref o10), .val (.ref o12), .val (.ref o14), .unset, .unset] [(.ref b16)]
      refine g_astore X28 at_119 rfl #[.val (.int ga), .val (.int gb), .val (.int se), .val (.int xx), .val (.int v1), .val (.int v2), .val (.int (1 : Int32)), .val (.int ix), .val (.ref b4), .val (.ref o10), .val (.ref o12), .val (.ref o14), .val (.ref b16), .unset] rfl 121 rfl ?_
      refine g_aload X28 at_121 rfl rfl 123 rfl ?_
      refine g_iconst X28 (0 : Int32) at_123 rfl 124 rfl ?_
      refine g_aload X28 at_124 rfl rfl 126 rfl ?_
      have ft30 := (A16.keep K28)
      have ft31 := ((ft19.ext E16).keep K28)
      refine g_callV X28 b16 [(.int (0 : Int32)), (.ref o10)] [] (rm9 hw n0 b16 (0 : Int32) o10 bs cs (0 : Int32) 0 _ _ h28 G1 G2 G3 ft30 ft31 AB AC g_b16 g_bs g_cs nab nac nbc (by decide) (by decide) (by decide)) ft30 (w66 hw) (w67 hw) (w69 hw) (w68 hw) (w54 hw) (w70 hw) (by decide) pd8 rfl rfl (by decide) (Nat.le_of_ble_eq_true rfl) (by decide) (by decide) at_126 rfl 129 rfl (fun v32 T32 h32 X32 q32 => ?_)
      obtain ⟨rfl, K32, B32_0, B32_1, B32_2, B32_3, B32_4⟩ := q32
      have z33 : n0 ≤ h32.size := Nat.le_trans z29 K32.1
      rw [(by decide : (0 : Int32) + (1 : Int32) = (1 : Int32))] at B32_2
      show Go k n0 (Q0 ga gb se xx h0) 32 128 T32 129 #[.val (.int ga), .val (.int gb), .val (.int se), .val (.int xx), .val (.int v1), .val (.int v2), .val (.int (1 : Int32)), .val (.int ix), .val (.ref b4), .val (.ref o10), .val (.ref o12), .val (.ref o14), .val (.ref b16), .unset] []
      refine g_iload X32 at_129 rfl 131 rfl ?_
      refine g_iconst X32 (2 : Int32) at_131 rfl 132 rfl ?_
      refine g_icmp X32 i_lt at_132 144 (by decide) (by decide) 135 rfl (fun h34 => ?_) (fun h34 => ?_)
      · skip
        refine g_iload X32 at_144 rfl 146 rfl ?_
        refine g_iconst X32 (3 : Int32) at_146 rfl 147 rfl ?_
        refine g_icmp X32 i_lt at_147 159 (by decide) (by decide) 150 rfl (fun h35 => ?_) (fun h35 => ?_)
        · skip
          refine g_iload X32 at_159 rfl 161 rfl ?_
          refine g_iconst X32 (3 : Int32) at_161 rfl 162 rfl ?_
          refine g_icmp X32 i_lt at_162 179 (by decide) (by decide) 165 rfl (fun h36 => ?_) (fun h36 => ?_)
          · skip
            refine g_iload X32 at_179 rfl 181 rfl ?_
            refine g_iconst X32 (2 : Int32) at_181 rfl 182 rfl ?_
            refine g_icmp X32 i_lt at_182 199 (by decide) (by decide) 185 rfl (fun h37 => ?_) (fun h37 => ?_)
            · skip
              refine g_aload X32 at_199 rfl rfl 201 rfl ?_
              refine g_astore X32 at_201 rfl #[.val (.int ga), .val (.int gb), .val (.int se), .val (.int xx), .val (.int v1), .val (.int v2), .val (.int (1 : Int32)), .val (.int ix), .val (.ref b4), .val (.ref o10), .val (.ref o12), .val (.ref o14), .val (.ref b16), .val (.ref o10)] rfl 203 rfl ?_
              refine g_aload X32 at_203 rfl rfl 205 rfl ?_
              refine g_iload X32 at_205 rfl 207 rfl ?_
              have ft39 := (ft30.keep K32)
              refine g_callV X32 b16 [(.int ix)] [] (rm10 hw n0 b16 ix bs cs (1 : Int32) 1 (own_f3 v1 v2) _ _ h32 B32_0 B32_1 B32_2 B32_3 B32_4 (by decide) (by decide) (by decide) (fun j hj => by (have q : j = 0 := by omega); obtain rfl := q <;> rfl) (fun j hj => by (have q : j = 0 := by omega); obtain rfl := q <;> rfl) (own_srt hs1.1 hs2) (by show (0 : Int32).toInt ≤ _; rw [own_i0]; exact hix)) ft39 (w74 hw) (w75 hw) (w77 hw) (w76 hw) (w54 hw) (w78 hw) (by decide) pd9 rfl rfl (by decide) (Nat.le_of_ble_eq_true rfl) (by decide) (by decide) at_207 rfl 210 rfl (fun v38 T38 h38 X38 q38 => ?_)
              obtain ⟨⟨r, rfl, r1, r2, r3⟩, rfl⟩ := q38
              obtain rfl : r = 1 := by omega
              show Go k n0 (Q0 ga gb se xx h0) 32 128 T38 210 #[.val (.int ga), .val (.int gb), .val (.int se), .val (.int xx), .val (.int v1), .val (.int v2), .val (.int (1 : Int32)), .val (.int ix), .val (.ref b4), .val (.ref o10), .val (.ref o12), .val (.ref o14), .val (.ref b16), .val (.ref o10)] [(.ref o10)]
              refine g_aload X38 at_210 rfl rfl 212 rfl ?_
              refine g_acmpNN X38 a_ne at_212 219 (by decide) (by decide) 215 rfl (fun h40 => ?_) (fun h40 => ?_)
              · skip
                refine g_iconst X38 (1 : Int32) at_215 rfl 216 rfl ?_
                refine g_goto X38 at_216 220 (by decide) (by decide) ?_
                exact g_retZ X38 at_220 (by decide) (by decide) own_one
              · exact absurd rfl h40
            · exact absurd (by decide) h37
          · exact absurd (by decide) h36
        · exact absurd (by decide) h35
      · exact absurd (by decide) h34
    · skip
      refine g_new XL (w2 hw) (w3 hw) (w4 hw) at_80 (by decide) (by decide) 83 rfl (fun T41 h41 b41 X41 g41 E41 A41 D41 => ?_)
      have g_b41 : n0 ≤ b41 := Nat.le_trans Z0 (Nat.le_of_eq g41.symm)
      have z42 : n0 ≤ h41.size := Nat.le_trans Z0 E41.1
      have F43 : Fld Z h41 b41 "com/example/libaxes/libaxes/tree/NamespaceScope$Declaration" "label" "Lcom/example/libaxes/libaxes/tree/Label;" .null := D41 (Or.inr (w12 hw)) (ty := (.object "com/example/libaxes/libaxes/tree/Label")) (by decide)
      have F44 : Fld Z h41 b41 "com/example/libaxes/libaxes/tree/NamespaceScope$Declaration" "uri" "I" (.int (0 : Int32)) := D41 (Or.inr (w14 hw)) (ty := .int) (by decide)
      refine g_dup X41 at_83 rfl 84 rfl ?_
      refine g_null X41 at_84 85 rfl ?_
      refine g_iconst X41 (0 : Int32) at_85 rfl 86 rfl ?_
      refine g_callI X41 b41 [.null, (.int (0 : Int32))] [(.ref b41)] (rm1 hw n0 b41 (0 : Int32) h41 F43 F44 A41 g_b41) rfl (w5 hw) (w6 hw) (w4 hw) (w7 hw) (by decide) pd5 rfl rfl (by decide) (Nat.le_of_ble_eq_true rfl) (by decide) (by decide) at_86 rfl 89 rfl (fun v45 T45 h45 X45 q45 => ?_)
      obtain ⟨rfl, K45, F45_0, F45_1⟩ := q45
      have z46 : n0 ≤ h45.size := Nat.le_trans z42 K45.1
      show Go k n0 (Q0 ga gb se xx h0) 32 128 T45 89 #[.val (.int ga), .val (.int gb), .val (.int se), .val (.int xx), .val (.int v1), .val (.int v2), .val (.int (2 : Int32)), .val (.int ix), u8, u9, .unset, .unset, .unset, .unset] [(.ref b41)]
      refine g_astore X45 at_89 rfl #[.val (.int ga), .val (.int gb), .val (.int se), .val (.int xx), .val (.int v1), .val (.int v2), .val (.int (2 : Int32)), .val (.int ix), .val (.ref b41), u9, .unset, .unset, .unset, .unset] (XS.store1 rfl hu8 rfl) 91 rfl ?_
      refine g_aload X45 at_91 rfl rfl 93 rfl ?_
      refine g_callS X45 [(.ref b41)] [] (rm7 hw n0 b41 h45 z46) (w15 hw) (w16 hw) (w17 hw) (w18 hw) (by decide) pd6 rfl rfl (by decide) (Nat.le_of_ble_eq_true rfl) (by decide) (by decide) at_93 rfl 96 rfl (fun v47 T47 h47 X47 q47 => ?_)
      obtain ⟨⟨o47, rfl, go47, Eo47⟩, K47⟩ := q47
      have z48 : n0 ≤ h47.size := Nat.le_trans z46 K47.1
      show Go k n0 (Q0 ga gb se xx h0) 32 128 T47 96 #[.val (.int ga), .val (.int gb), .val (.int se), .val (.int xx), .val (.int v1), .val (.int v2), .val (.int (2 : Int32)), .val (.int ix), .val (.ref b41), u9, .unset, .unset, .unset, .unset] [(.ref o47)]
      refine g_astore X47 at_96 rfl #[.val (.int ga), .val (.int gb), .val (.int se), .val (.int xx), .val (.int v1), .val (.int v2), .val (.int (2 : Int32)), .val (.int ix), .val (.ref b41), .val (.ref o47), .unset, .unset, .unset, .unset] (XS.store1 rfl hu9 rfl) 98 rfl ?_
      refine g_aload X47 at_98 rfl rfl 100 rfl ?_
      refine g_callS X47 [(.ref b41)] [] (rm7 hw n0 b41 h47 z48) (w15 hw) (w16 hw) (w17 hw) (w18 hw) (by decide) pd6 rfl rfl (by decide) (Nat.le_of_ble_eq_true rfl) (by decide) (by decide) at_100 rfl 103 rfl (fun v49 T49 h49 X49 q49 => ?_)
      obtain ⟨⟨o49, rfl, go49, Eo49⟩, K49⟩ := q49
      have z50 : n0 ≤ h49.size := Nat.le_trans z48 K49.1
      show Go k n0 (Q0 ga gb se xx h0) 32 128 T49 103 #[.val (.int ga), .val (.int gb), .val (.int se), .val (.int xx), .val (.int v1), .val (.int v2), .val (.int (2 : Int32)), .val (.int ix), .val (.ref b41), .val (.ref o47), .unset, .unset, .unset, .unset] [(.ref o49)]
      refine g_astore X49 at_103 rfl #[.val (.int ga), .val (.int gb), .val (.int se), .val (.int xx), .val (.int v1), .val (.int v2), .val (.int (2 : Int32)), .val (.int ix), .val (.ref b41), .val (.ref o47), .val (.ref o49), .unset, .unset, .unset] rfl 105 rfl ?_
      refine g_aload X49 at_105 rfl rfl 107 rfl ?_
      refine g_callS X49 [(.ref b41)] [] (rm7 hw n0 b41 h49 z50) (w15 hw) (w16 hw) (w17 hw) (w18 hw) (by decide) pd6 rfl rfl (by decide) (Nat.le_of_ble_eq_true rfl) (by decide) (by decide) at_107 rfl 110 rfl (fun v51 T51 h51 X51 q51 => ?_)
      obtain ⟨⟨o51, rfl, go51, Eo51⟩, K51⟩ := q51
      have z52 : n0 ≤ h51.size := Nat.le_trans z50 K51.1
      show Go k n0 (Q0 ga gb se xx h0) 32 128 T51 110 #[.val (.int ga), .val (.int gb), .val (.int se), .val (.int xx), .val (.int v1), .val (.int v2), .val (.int (2 : Int32)), .val (.int ix), .val (.ref b41), .val (.ref o47), .val (.ref o49), .unset, .unset, .unset] [(.ref o51)]
      refine g_astore X51 at_110 rfl #[.val (.int ga), .val (.int gb), .val (.int se), .val (.int xx), .val (.int v1), .val (.int v2), .val (.int (2 : Int32)), .val (.int ix), .val (.ref b41), .val (.ref o47), .val (.ref o49), .val (.ref o51), .unset, .unset] rfl 112 rfl ?_
      refine g_new X51 (w52 hw) (w53 hw) (w54 hw) at_112 (by decide) (by decide) 115 rfl (fun T53 h53 b53 X53 g53 E53 A53 D53 => ?_)
      have ft54 := ((((A41.keep K45).keep K47).keep K49).keep K51)
      have ne55 : b41 ≠ b53 := Nat.ne_of_lt (Nat.lt_of_lt_of_le ft54.lt (Nat.le_of_eq g53.symm))
      have ft56 := ((Eo47.keep K49).keep K51)
      have ne57 : o47 ≠ b53 := Nat.ne_of_lt (Nat.lt_of_lt_of_le ft56.lt (Nat.le_of_eq g53.symm))
      have ft58 := (Eo49.keep K51)
      have ne59 : o49 ≠ b53 := Nat.ne_of_lt (Nat.lt_of_lt_of_le ft58.lt (Nat.le_of_eq g53.symm))
      have ne60 : o51 ≠ b53 := Nat.ne_of_lt (Nat.lt_of_lt_of_le Eo51.lt (Nat.le_of_eq g53.symm))
      have g_b53 : n0 ≤ b53 := Nat.le_trans z52 (Nat.le_of_eq g53.symm)
      have z61 : n0 ≤ h53.size := Nat.le_trans z52 E53.1
      have F62 : Fld Z h53 b53 "com/example/libaxes/libaxes/tree/ScopeRuns" "starts" "[I" .null := D53 (Or.inl (w61 hw)) (ty := (.array .int)) (by decide)
      have F63 : Fld Z h53 b53 "com/example/libaxes/libaxes/tree/ScopeRuns" "scopes" "[Lcom/example/libaxes/libaxes/tree/NamespaceScope;" .null := D53 (Or.inl (w65 hw)) (ty := (.array (.object "com/example/libaxes/libaxes/tree/NamespaceScope"))) (by decide)
      have F64 : Fld Z h53 b53 "com/example/libaxes/libaxes/tree/ScopeRuns" "count" "I" (.int (0 : Int32)) := D53 (Or.inl (w72 hw)) (ty := .int) (by decide)
      refine g_dup X53 at_115 rfl 116 rfl ?_
      refine g_callI X53 b53 [] [(.ref b53)] (rm8 hw n0 b53 h53 z61 F62 F63 F64 A53 g_b53) rfl (w55 hw) (w56 hw) (w54 hw) (w57 hw) (by decide) pd7 rfl rfl (by decide) (Nat.le_of_ble_eq_true rfl) (by decide) (by decide) at_116 rfl 119 rfl (fun v65 T65 h65 X65 q65 => ?_)
      obtain ⟨rfl, K65, bs, cs, gbs, gcs, nbc, G1, G2, G3, AB, AC⟩ := q65
      have z66 : n0 ≤ h65.size := Nat.le_trans z61 K65.1
      have nab : b53 ≠ bs := Nat.ne_of_lt (Nat.lt_of_lt_of_le A53.lt gbs)
      have nac : b53 ≠ cs := Nat.ne_of_lt (Nat.lt_of_lt_of_le A53.lt gcs)
      have g_bs : n0 ≤ bs := Nat.le_trans z61 gbs
      have g_cs : n0 ≤ cs := Nat.le_trans z61 gcs
      show Go k n0 (Q0 ga gb se xx h0) 32 128 T65 119 #[.val (.int ga), .val (.int gb), .val (.int se), .val (.int xx), .val (.int v1), .val (.int v2), .val (.int (2 : Int32)), .val (.int ix), .val (.ref b41), .val (.ref o47), .val (.ref o49), .val (.ref o51), .unset, .unset] [(.ref b53)]
      refine g_astore X65 at_119 rfl #[.val (.int ga), .val (.int gb), .val (.int se), .val (.int xx), .val (.int v1), .val (.int v2), .val (.int (2 : Int32)), .val (.int ix), .val (.ref b41), .val (.ref o47), .val (.ref o49), .val (.ref o51), .val (.ref b53), .unset] rfl 121 rfl ?_
      refine g_aload X65 at_121 rfl rfl 123 rfl ?_
      refine g_iconst X65 (0 : Int32) at_123 rfl 124 rfl ?_
      refine g_aload X65 at_124 rfl rfl 126 rfl ?_
      have ft67 := (A53.keep K65)
      have ft68 := ((ft56.ext E53).keep K65)
      refine g_callV X65 b53 [(.int (0 : Int32)), (.ref o47)] [] (rm9 hw n0 b53 (0 : Int32) o47 bs cs (0 : Int32) 0 _ _ h65 G1 G2 G3 ft67 ft68 AB AC g_b53 g_bs g_cs nab nac nbc (by decide) (by decide) (by decide)) ft67 (w66 hw) (w67 hw) (w69 hw) (w68 hw) (w54 hw) (w70 hw) (by decide) pd8 rfl rfl (by decide) (Nat.le_of_ble_eq_true rfl) (by decide) (by decide) at_126 rfl 129 rfl (fun v69 T69 h69 X69 q69 => ?_)
      obtain ⟨rfl, K69, B69_0, B69_1, B69_2, B69_3, B69_4⟩ := q69
      have z70 : n0 ≤ h69.size := Nat.le_trans z66 K69.1
      rw [(by decide : (0 : Int32) + (1 : Int32) = (1 : Int32))] at B69_2
      show Go k n0 (Q0 ga gb se xx h0) 32 128 T69 129 #[.val (.int ga), .val (.int gb), .val (.int se), .val (.int xx), .val (.int v1), .val (.int v2), .val (.int (2 : Int32)), .val (.int ix), .val (.ref b41), .val (.ref o47), .val (.ref o49), .val (.ref o51), .val (.ref b53), .unset] []
      refine g_iload X69 at_129 rfl 131 rfl ?_
      refine g_iconst X69 (2 : Int32) at_131 rfl 132 rfl ?_
      refine g_icmp X69 i_lt at_132 144 (by decide) (by decide) 135 rfl (fun h71 => ?_) (fun h71 => ?_)
      · exact absurd h71 (by decide)
      · skip
        refine g_aload X69 at_135 rfl rfl 137 rfl ?_
        refine g_iload X69 at_137 rfl 139 rfl ?_
        refine g_aload X69 at_139 rfl rfl 141 rfl ?_
        have ft72 := (ft67.keep K69)
        have ft73 := (((ft58.ext E53).keep K65).keep K69)
        refine g_callV X69 b53 [(.int v1), (.ref o49)] [] (rm9 hw n0 b53 v1 o49 bs cs (1 : Int32) 1 _ _ h69 B69_0 B69_1 B69_2 ft72 ft73 B69_3 B69_4 g_b53 g_bs g_cs nab nac nbc (by decide) (by decide) (by decide)) ft72 (w66 hw) (w67 hw) (w69 hw) (w68 hw) (w54 hw) (w70 hw) (by decide) pd8 rfl rfl (by decide) (Nat.le_of_ble_eq_true rfl) (by decide) (by decide) at_141 rfl 144 rfl (fun v74 T74 h74 X74 q74 => ?_)
        obtain ⟨rfl, K74, B74_0, B74_1, B74_2, B74_3, B74_4⟩ := q74
        have z75 : n0 ≤ h74.size := Nat.le_trans z70 K74.1
        rw [(by decide : (1 : Int32) + (1 : Int32) = (2 : Int32))] at B74_2
        show Go k n0 (Q0 ga gb se xx h0) 32 128 T74 144 #[.val (.int ga), .val (.int gb), .val (.int se), .val (.int xx), .val (.int v1), .val (.int v2), .val (.int (2 : Int32)), .val (.int ix), .val (.ref b41), .val (.ref o47), .val (.ref o49), .val (.ref o51), .val (.ref b53), .unset] []
        refine g_iload X74 at_144 rfl 146 rfl ?_
        refine g_iconst X74 (3 : Int32) at_146 rfl 147 rfl ?_
        refine g_icmp X74 i_lt at_147 159 (by decide) (by decide) 150 rfl (fun h76 => ?_) (fun h76 => ?_)
        · skip
          refine g_iload X74 at_159 rfl 161 rfl ?_
          refine g_iconst X74 (3 : Int32) at_161 rfl 162 rfl ?_
          refine g_icmp X74 i_lt at_162 179 (by decide) (by decide) 165 rfl (fun h77 => ?_) (fun h77 => ?_)
          · skip
            refine g_iload X74 at_179 rfl 181 rfl ?_
            refine g_iconst X74 (2 : Int32) at_181 rfl 182 rfl ?_
            refine g_icmp X74 i_lt at_182 199 (by decide) (by decide) 185 rfl (fun h78 => ?_) (fun h78 => ?_)
            · exact absurd h78 (by decide)
            · skip
              refine g_iload X74 at_185 rfl 187 rfl ?_
              refine g_iload X74 at_187 rfl 189 rfl ?_
              refine g_icmp X74 i_gt at_189 199 (by decide) (by decide) 192 rfl (fun h79 => ?_) (fun h79 => ?_)
              · skip
                refine g_aload X74 at_199 rfl rfl 201 rfl ?_
                refine g_astore X74 at_201 rfl #[.val (.int ga), .val (.int gb), .val (.int se), .val (.int xx), .val (.int v1), .val (.int v2), .val (.int (2 : Int32)), .val (.int ix), .val (.ref b41), .val (.ref o47), .val (.ref o49), .val (.ref o51), .val (.ref b53), .val (.ref o47)] rfl 203 rfl ?_
                refine g_aload X74 at_203 rfl rfl 205 rfl ?_
                refine g_iload X74 at_205 rfl 207 rfl ?_
                have ft81 := (ft72.keep K74)
                refine g_callV X74 b53 [(.int ix)] [] (rm10 hw n0 b53 ix bs cs (2 : Int32) 2 (own_f3 v1 v2) _ _ h74 B74_0 B74_1 B74_2 B74_3 B74_4 (by decide) (by decide) (by decide) (fun j hj => by (have q : j = 0 ∨ j = 1 := by omega); rcases q with rfl | rfl <;> rfl) (fun j hj => by (have q : j = 0 ∨ j = 1 := by omega); rcases q with rfl | rfl <;> rfl) (own_srt hs1.1 hs2) (by show (0 : Int32).toInt ≤ _; rw [own_i0]; exact hix)) ft81 (w74 hw) (w75 hw) (w77 hw) (w76 hw) (w54 hw) (w78 hw) (by decide) pd9 rfl rfl (by decide) (Nat.le_of_ble_eq_true rfl) (by decide) (by decide) at_207 rfl 210 rfl (fun v80 T80 h80 X80 q80 => ?_)
                obtain ⟨⟨r, rfl, r1, r2, r3⟩, rfl⟩ := q80
                have y1 : 1 < r ↔ v1.toInt ≤ ix.toInt := r3 1 (by decide)
                have yh79 := own_gt h79
                obtain rfl : r = 1 := by omega
                show Go k n0 (Q0 ga gb se xx h0) 32 128 T80 210 #[.val (.int ga), .val (.int gb), .val (.int se), .val (.int xx), .val (.int v1), .val (.int v2), .val (.int (2 : Int32)), .val (.int ix), .val (.ref b41), .val (.ref o47), .val (.ref o49), .val (.ref o51), .val (.ref b53), .val (.ref o47)] [(.ref o47)]
                refine g_aload X80 at_210 rfl rfl 212 rfl ?_
                refine g_acmpNN X80 a_ne at_212 219 (by decide) (by decide) 215 rfl (fun h82 => ?_) (fun h82 => ?_)
                · skip
                  refine g_iconst X80 (1 : Int32) at_215 rfl 216 rfl ?_
                  refine g_goto X80 at_216 220 (by decide) (by decide) ?_
                  exact g_retZ X80 at_220 (by decide) (by decide) own_one
                · exact absurd rfl h82
              · skip
                refine g_aload X74 at_192 rfl rfl 194 rfl ?_
                refine g_astore X74 at_194 rfl #[.val (.int ga), .val (.int gb), .val (.int se), .val (.int xx), .val (.int v1), .val (.int v2), .val (.int (2 : Int32)), .val (.int ix), .val (.ref b41), .val (.ref o47), .val (.ref o49), .val (.ref o51), .val (.ref b53), .val (.ref o49)] rfl 196 rfl ?_
                refine g_goto X74 at_196 203 (by decide) (by decide) ?_
                refine g_aload X74 at_203 rfl rfl 205 rfl ?_
                refine g_iload X74 at_205 rfl 207 rfl ?_
                have ft84 := (ft72.keep K74)
                refine g_callV X74 b53 [(.int ix)] [] (rm10 hw n0 b53 ix bs cs (2 : Int32) 2 (own_f3 v1 v2) _ _ h74 B74_0 B74_1 B74_2 B74_3 B74_4 (by decide) (by decide) (by decide) (fun j hj => by (have q : j = 0 ∨ j = 1 := by omega); rcases q with rfl | rfl <;> rfl) (fun j hj => by (have q : j = 0 ∨ j = 1 := by omega); rcases q with rfl | rfl <;> rfl) (own_srt hs1.1 hs2) (by show (0 : Int32).toInt ≤ _; rw [own_i0]; exact hix)) ft84 (w74 hw) (w75 hw) (w77 hw) (w76 hw) (w54 hw) (w78 hw) (by decide) pd9 rfl rfl (by decide) (Nat.le_of_ble_eq_true rfl) (by decide) (by decide) at_207 rfl 210 rfl (fun v83 T83 h83 X83 q83 => ?_)
                obtain ⟨⟨r, rfl, r1, r2, r3⟩, rfl⟩ := q83
                have y1 : 1 < r ↔ v1.toInt ≤ ix.toInt := r3 1 (by decide)
                have yh79 := own_le h79
                obtain rfl : r = 2 := by omega
                show Go k n0 (Q0 ga gb se xx h0) 32 128 T83 210 #[.val (.int ga), .val (.int gb), .val (.int se), .val (.int xx), .val (.int v1), .val (.int v2), .val (.int (2 : Int32)), .val (.int ix), .val (.ref b41), .val (.ref o47), .val (.ref o49), .val (.ref o51), .val (.ref b53), .val (.ref o49)] [(.ref o49)]
                refine g_aload X83 at_210 rfl rfl 212 rfl ?_
                refine g_acmpNN X83 a_ne at_212 219 (by decide) (by decide) 215 rfl (fun h85 => ?_) (fun h85 => ?_)
                · skip
                  refine g_iconst X83 (1 : Int32) at_215 rfl 216 rfl ?_
                  refine g_goto X83 at_216 220 (by decide) (by decide) ?_
                  exact g_retZ X83 at_220 (by decide) (by decide) own_one
                · exact absurd rfl h85
          · exact absurd (by decide) h77
        · exact absurd (by decide) h76
    · skip
      refine g_new XL (w2 hw) (w3 hw) (w4 hw) at_80 (by decide) (by decide) 83 rfl (fun T86 h86 b86 X86 g86 E86 A86 D86 => ?_)
      have g_b86 : n0 ≤ b86 := Nat.le_trans Z0 (Nat.le_of_eq g86.symm)
      have z87 : n0 ≤ h86.size := Nat.le_trans Z0 E86.1
      have F88 : Fld Z h86 b86 "com/example/libaxes/libaxes/tree/NamespaceScope$Declaration" "label" "Lcom/example/libaxes/libaxes/tree/Label;" .null := D86 (Or.inr (w12 hw)) (ty := (.object "com/example/libaxes/libaxes/tree/Label")) (by decide)
      have F89 : Fld Z h86 b86 "com/example/libaxes/libaxes/tree/NamespaceScope$Declaration" "uri" "I" (.int (0 : Int32)) := D86 (Or.inr (w14 hw)) (ty := .int) (by decide)
      refine g_dup X86 at_83 rfl 84 rfl ?_
      refine g_null X86 at_84 85 rfl ?_
      refine g_iconst X86 (0 : Int32) at_85 rfl 86 rfl ?_
      refine g_callI X86 b86 [.null, (.int (0 : Int32))] [(.ref b86)] (rm1 hw n0 b86 (0 : Int32) h86 F88 F89 A86 g_b86) rfl (w5 hw) (w6 hw) (w4 hw) (w7 hw) (by decide) pd5 rfl rfl (by decide) (Nat.le_of_ble_eq_true rfl) (by decide) (by decide) at_86 rfl 89 rfl (fun v90 T90 h90 X90 q90 => ?_)
      obtain ⟨rfl, K90, F90_0, F90_1⟩ := q90
      have z91 : n0 ≤ h90.size := Nat.le_trans z87 K90.1
      show Go k n0 (Q0 ga gb se xx h0) 32 128 T90 89 #[.val (.int ga), .val (.int gb), .val (.int se), .val (.int xx), .val (.int v1), .val (.int v2), .val (.int (3 : Int32)), .val (.int ix), u8, u9, .unset, .unset, .unset, .unset] [(.ref b86)]
      refine g_astore X90 at_89 rfl #[.val (.int ga), .val (.int gb), .val (.int se), .val (.int xx), .val (.int v1), .val (.int v2), .val (.int (3 : Int32)), .val (.int ix), .val (.ref b86), u9, .unset, .unset, .unset, .unset] (XS.store1 rfl hu8 rfl) 91 rfl ?_
      refine g_aload X90 at_91 rfl rfl 93 rfl ?_
      refine g_callS X90 [(.ref b86)] [] (rm7 hw n0 b86 h90 z91) (w15 hw) (w16 hw) (w17 hw) (w18 hw) (by decide) pd6 rfl rfl (by decide) (Nat.le_of_ble_eq_true rfl) (by decide) (by decide) at_93 rfl 96 rfl (fun v92 T92 h92 X92 q92 => ?_)
      obtain ⟨⟨o92, rfl, go92, Eo92⟩, K92⟩ := q92
      have z93 : n0 ≤ h92.size := Nat.le_trans z91 K92.1
      show Go k n0 (Q0 ga gb se xx h0) 32 128 T92 96 #[.val (.int ga), .val (.int gb), .val (.int se), .val (.int xx), .val (.int v1), .val (.int v2), .val (.int (3 : Int32)), .val (.int ix), .val (.ref b86), u9, .unset, .unset, .unset, .unset] [(.ref o92)]
      refine g_astore X92 at_96 rfl #[.val (.int ga), .val (.int gb), .val (.int se), .val (.int xx), .val (.int v1), .val (.int v2), .val (.int (3 : Int32)), .val (.int ix), .val (.ref b86), .val (.ref o92), .unset, .unset, .unset, .unset] (XS.store1 rfl hu9 rfl) 98 rfl ?_
      refine g_aload X92 at_98 rfl rfl 100 rfl ?_
      refine g_callS X92 [(.ref b86)] [] (rm7 hw n0 b86 h92 z93) (w15 hw) (w16 hw) (w17 hw) (w18 hw) (by decide) pd6 rfl rfl (by decide) (Nat.le_of_ble_eq_true rfl) (by decide) (by decide) at_100 rfl 103 rfl (fun v94 T94 h94 X94 q94 => ?_)
      obtain ⟨⟨o94, rfl, go94, Eo94⟩, K94⟩ := q94
      have z95 : n0 ≤ h94.size := Nat.le_trans z93 K94.1
      show Go k n0 (Q0 ga gb se xx h0) 32 128 T94 103 #[.val (.int ga), .val (.int gb), .val (.int se), .val (.int xx), .val (.int v1), .val (.int v2), .val (.int (3 : Int32)), .val (.int ix), .val (.ref b86), .val (.ref o92), .unset, .unset, .unset, .unset] [(.ref o94)]
      refine g_astore X94 at_103 rfl #[.val (.int ga), .val (.int gb), .val (.int se), .val (.int xx), .val (.int v1), .val (.int v2), .val (.int (3 : Int32)), .val (.int ix), .val (.ref b86), .val (.ref o92), .val (.ref o94), .unset, .unset, .unset] rfl 105 rfl ?_
      refine g_aload X94 at_105 rfl rfl 107 rfl ?_
      refine g_callS X94 [(.ref b86)] [] (rm7 hw n0 b86 h94 z95) (w15 hw) (w16 hw) (w17 hw) (w18 hw) (by decide) pd6 rfl rfl (by decide) (Nat.le_of_ble_eq_true rfl) (by decide) (by decide) at_107 rfl 110 rfl (fun v96 T96 h96 X96 q96 => ?_)
      obtain ⟨⟨o96, rfl, go96, Eo96⟩, K96⟩ := q96
      have z97 : n0 ≤ h96.size := Nat.le_trans z95 K96.1
      show Go k n0 (Q0 ga gb se xx h0) 32 128 T96 110 #[.val (.int ga), .val (.int gb), .val (.int se), .val (.int xx), .val (.int v1), .val (.int v2), .val (.int (3 : Int32)), .val (.int ix), .val (.ref b86), .val (.ref o92), .val (.ref o94), .unset, .unset, .unset] [(.ref o96)]
      refine g_astore X96 at_110 rfl #[.val (.int ga), .val (.int gb), .val (.int se), .val (.int xx), .val (.int v1), .val (.int v2), .val (.int (3 : Int32)), .val (.int ix), .val (.ref b86), .val (.ref o92), .val (.ref o94), .val (.ref o96), .unset, .unset] rfl 112 rfl ?_
      refine g_new X96 (w52 hw) (w53 hw) (w54 hw) at_112 (by decide) (by decide) 115 rfl (fun T98 h98 b98 X98 g98 E98 A98 D98 => ?_)
      have ft99 := ((((A86.keep K90).keep K92).keep K94).keep K96)
      have ne100 : b86 ≠ b98 := Nat.ne_of_lt (Nat.lt_of_lt_of_le ft99.lt (Nat.le_of_eq g98.symm))
      have ft101 := ((Eo92.keep K94).keep K96)
      have ne102 : o92 ≠ b98 := Nat.ne_of_lt (Nat.lt_of_lt_of_le ft101.lt (Nat.le_of_eq g98.symm))
      have ft103 := (Eo94.keep K96)
      have ne104 : o94 ≠ b98 := Nat.ne_of_lt (Nat.lt_of_lt_of_le ft103.lt (Nat.le_of_eq g98.symm))
      have ne105 : o96 ≠ b98 := Nat.ne_of_lt (Nat.lt_of_lt_of_le Eo96.lt (Nat.le_of_eq g98.symm))
      have g_b98 : n0 ≤ b98 := Nat.le_trans z97 (Nat.le_of_eq g98.symm)
      have z106 : n0 ≤ h98.size := Nat.le_trans z97 E98.1
      have F107 : Fld Z h98 b98 "com/example/libaxes/libaxes/tree/ScopeRuns" "starts" "[I" .null := D98 (Or.inl (w61 hw)) (ty := (.array .int)) (by decide)
      have F108 : Fld Z h98 b98 "com/example/libaxes/libaxes/tree/ScopeRuns" "scopes" "[Lcom/example/libaxes/libaxes/tree/NamespaceScope;" .null := D98 (Or.inl (w65 hw)) (ty := (.array (.object "com/example/libaxes/libaxes/tree/NamespaceScope"))) (by decide)
      have F109 : Fld Z h98 b98 "com/example/libaxes/libaxes/tree/ScopeRuns" "count" "I" (.int (0 : Int32)) := D98 (Or.inl (w72 hw)) (ty := .int) (by decide)
      refine g_dup X98 at_115 rfl 116 rfl ?_
      refine g_callI X98 b98 [] [(.ref b98)] (rm8 hw n0 b98 h98 z106 F107 F108 F109 A98 g_b98) rfl (w55 hw) (w56 hw) (w54 hw) (w57 hw) (by decide) pd7 rfl rfl (by decide) (Nat.le_of_ble_eq_true rfl) (by decide) (by decide) at_116 rfl 119 rfl (fun v110 T110 h110 X110 q110 => ?_)
      obtain ⟨rfl, K110, bs, cs, gbs, gcs, nbc, G1, G2, G3, AB, AC⟩ := q110
      have z111 : n0 ≤ h110.size := Nat.le_trans z106 K110.1
      have nab : b98 ≠ bs := Nat.ne_of_lt (Nat.lt_of_lt_of_le A98.lt gbs)
      have nac : b98 ≠ cs := Nat.ne_of_lt (Nat.lt_of_lt_of_le A98.lt gcs)
      have g_bs : n0 ≤ bs := Nat.le_trans z106 gbs
      have g_cs : n0 ≤ cs := Nat.le_trans z106 gcs
      show Go k n0 (Q0 ga gb se xx h0) 32 128 T110 119 #[.val (.int ga), .val (.int gb), .val (.int se), .val (.int xx), .val (.int v1), .val (.int v2), .val (.int (3 : Int32)), .val (.int ix), .val (.ref b86), .val (.ref o92), .val (.ref o94), .val (.ref o96), .unset, .unset] [(.ref b98)]
      refine g_astore X110 at_119 rfl #[.val (.int ga), .val (.int gb), .val (.int se), .val (.int xx), .val (.int v1), .val (.int v2), .val (.int (3 : Int32)), .val (.int ix), .val (.ref b86), .val (.ref o92), .val (.ref o94), .val (.ref o96), .val (.ref b98), .unset] rfl 121 rfl ?_
      refine g_aload X110 at_121 rfl rfl 123 rfl ?_
      refine g_iconst X110 (0 : Int32) at_123 rfl 124 rfl ?_
      refine g_aload X110 at_124 rfl rfl 126 rfl ?_
      have ft112 := (A98.keep K110)
      have ft113 := ((ft101.ext E98).keep K110)
      refine g_callV X110 b98 [(.int (0 : Int32)), (.ref o92)] [] (rm9 hw n0 b98 (0 : Int32) o92 bs cs (0 : Int32) 0 _ _ h110 G1 G2 G3 ft112 ft113 AB AC g_b98 g_bs g_cs nab nac nbc (by decide) (by decide) (by decide)) ft112 (w66 hw) (w67 hw) (w69 hw) (w68 hw) (w54 hw) (w70 hw) (by decide) pd8 rfl rfl (by decide) (Nat.le_of_ble_eq_true rfl) (by decide) (by decide) at_126 rfl 129 rfl (fun v114 T114 h114 X114 q114 => ?_)
      obtain ⟨rfl, K114, B114_0, B114_1, B114_2, B114_3, B114_4⟩ := q114
      have z115 : n0 ≤ h114.size := Nat.le_trans z111 K114.1
      rw [(by decide : (0 : Int32) + (1 : Int32) = (1 : Int32))] at B114_2
      show Go k n0 (Q0 ga gb se xx h0) 32 128 T114 129 #[.val (.int ga), .val (.int gb), .val (.int se), .val (.int xx), .val (.int v1), .val (.int v2), .val (.int (3 : Int32)), .val (.int ix), .val (.ref b86), .val (.ref o92), .val (.ref o94), .val (.ref o96), .val (.ref b98), .unset] []
      refine g_iload X114 at_129 rfl 131 rfl ?_
      refine g_iconst X114 (2 : Int32) at_131 rfl 132 rfl ?_
      refine g_icmp X114 i_lt at_132 144 (by decide) (by decide) 135 rfl (fun h116 => ?_) (fun h116 => ?_)
      · exact absurd h116 (by decide)
      · skip
        refine g_aload X114 at_135 rfl rfl 137 rfl ?_
        refine g_iload X114 at_137 rfl 139 rfl ?_
        refine g_aload X114 at_139 rfl rfl 141 rfl ?_
        have ft117 := (ft112.keep K114)
        have ft118 := (((ft103.ext E98).keep K110).keep K114)
        refine g_callV X114 b98 [(.int v1), (.ref o94)] [] (rm9 hw n0 b98 v1 o94 bs cs (1 : Int32) 1 _ _ h114 B114_0 B114_1 B114_2 ft117 ft118 B114_3 B114_4 g_b98 g_bs g_cs nab nac nbc (by decide) (by decide) (by decide)) ft117 (w66 hw) (w67 hw) (w69 hw) (w68 hw) (w54 hw) (w70 hw) (by decide) pd8 rfl rfl (by decide) (Nat.le_of_ble_eq_true rfl) (by decide) (by decide) at_141 rfl 144 rfl (fun v119 T119 h119 X119 q119 => ?_)
        obtain ⟨rfl, K119, B119_0, B119_1, B119_2, B119_3, B119_4⟩ := q119
        have z120 : n0 ≤ h119.size := Nat.le_trans z115 K119.1
        rw [(by decide : (1 : Int32) + (1 : Int32) = (2 : Int32))] at B119_2
        show Go k n0 (Q0 ga gb se xx h0) 32 128 T119 144 #[.val (.int ga), .val (.int gb), .val (.int se), .val (.int xx), .val (.int v1), .val (.int v2), .val (.int (3 : Int32)), .val (.int ix), .val (.ref b86), .val (.ref o92), .val (.ref o94), .val (.ref o96), .val (.ref b98), .unset] []
        refine g_iload X119 at_144 rfl 146 rfl ?_
        refine g_iconst X119 (3 : Int32) at_146 rfl 147 rfl ?_
        refine g_icmp X119 i_lt at_147 159 (by decide) (by decide) 150 rfl (fun h121 => ?_) (fun h121 => ?_)
        · exact absurd h121 (by decide)
        · skip
          refine g_aload X119 at_150 rfl rfl 152 rfl ?_
          refine g_iload X119 at_152 rfl 154 rfl ?_
          refine g_aload X119 at_154 rfl rfl 156 rfl ?_
          have ft122 := (ft117.keep K119)
          have ft123 := ((((Eo96.ext E98).keep K110).keep K114).keep K119)
          refine g_callV X119 b98 [(.int v2), (.ref o96)] [] (rm9 hw n0 b98 v2 o96 bs cs (2 : Int32) 2 _ _ h119 B119_0 B119_1 B119_2 ft122 ft123 B119_3 B119_4 g_b98 g_bs g_cs nab nac nbc (by decide) (by decide) (by decide)) ft122 (w66 hw) (w67 hw) (w69 hw) (w68 hw) (w54 hw) (w70 hw) (by decide) pd8 rfl rfl (by decide) (Nat.le_of_ble_eq_true rfl) (by decide) (by decide) at_156 rfl 159 rfl (fun v124 T124 h124 X124 q124 => ?_)
          obtain ⟨rfl, K124, B124_0, B124_1, B124_2, B124_3, B124_4⟩ := q124
          have z125 : n0 ≤ h124.size := Nat.le_trans z120 K124.1
          rw [(by decide : (2 : Int32) + (1 : Int32) = (3 : Int32))] at B124_2
          show Go k n0 (Q0 ga gb se xx h0) 32 128 T124 159 #[.val (.int ga), .val (.int gb), .val (.int se), .val (.int xx), .val (.int v1), .val (.int v2), .val (.int (3 : Int32)), .val (.int ix), .val (.ref b86), .val (.ref o92), .val (.ref o94), .val (.ref o96), .val (.ref b98), .unset] []
          refine g_iload X124 at_159 rfl 161 rfl ?_
          refine g_iconst X124 (3 : Int32) at_161 rfl 162 rfl ?_
          refine g_icmp X124 i_lt at_162 179 (by decide) (by decide) 165 rfl (fun h126 => ?_) (fun h126 => ?_)
          · exact absurd h126 (by decide)
          · skip
            refine g_iload X124 at_165 rfl 167 rfl ?_
            refine g_iload X124 at_167 rfl 169 rfl ?_
            refine g_icmp X124 i_gt at_169 179 (by decide) (by decide) 172 rfl (fun h127 => ?_) (fun h127 => ?_)
            · skip
              refine g_iload X124 at_179 rfl 181 rfl ?_
              refine g_iconst X124 (2 : Int32) at_181 rfl 182 rfl ?_
              refine g_icmp X124 i_lt at_182 199 (by decide) (by decide) 185 rfl (fun h128 => ?_) (fun h128 => ?_)
              · exact absurd h128 (by decide)
              · skip
                refine g_iload X124 at_185 rfl 187 rfl ?_
                refine g_iload X124 at_187 rfl 189 rfl ?_
                refine g_icmp X124 i_gt at_189 199 (by decide) (by decide) 192 rfl (fun h129 => ?_) (fun h129 => ?_)
                · skip
                  refine g_aload X124 at_199 rfl rfl 201 rfl ?_
                  refine g_astore X124 at_201 rfl #[.val (.int ga), .val (.int gb), .val (.int se), .val (.int xx), .val (.int v1), .val (.int v2), .val (.int (3 : Int32)), .val (.int ix), .val (.ref b86), .val (.ref o92), .val (.ref o94), .val (.ref o96), .val (.ref b98), .val (.ref o92)] rfl 203 rfl ?_
                  refine g_aload X124 at_203 rfl rfl 205 rfl ?_
                  refine g_iload X124 at_205 rfl 207 rfl ?_
                  have ft131 := (ft122.keep K124)
                  refine g_callV X124 b98 [(.int ix)] [] (rm10 hw n0 b98 ix bs cs (3 : Int32) 3 (own_f3 v1 v2) _ _ h124 B124_0 B124_1 B124_2 B124_3 B124_4 (by decide) (by decide) (by decide) (fun j hj => by (have q : j = 0 ∨ j = 1 ∨ j = 2 := by omega); rcases q with rfl | rfl | rfl <;> rfl) (fun j hj => by (have q : j = 0 ∨ j = 1 ∨ j = 2 := by omega); rcases q with rfl | rfl | rfl <;> rfl) (own_srt hs1.1 hs2) (by show (0 : Int32).toInt ≤ _; rw [own_i0]; exact hix)) ft131 (w74 hw) (w75 hw) (w77 hw) (w76 hw) (w54 hw) (w78 hw) (by decide) pd9 rfl rfl (by decide) (Nat.le_of_ble_eq_true rfl) (by decide) (by decide) at_207 rfl 210 rfl (fun v130 T130 h130 X130 q130 => ?_)
                  obtain ⟨⟨r, rfl, r1, r2, r3⟩, rfl⟩ := q130
                  have y1 : 1 < r ↔ v1.toInt ≤ ix.toInt := r3 1 (by decide)
                  have y2 : 2 < r ↔ v2.toInt ≤ ix.toInt := r3 2 (by decide)
                  have yh127 := own_gt h127
                  have yh129 := own_gt h129
                  obtain rfl : r = 1 := by omega
                  show Go k n0 (Q0 ga gb se xx h0) 32 128 T130 210 #[.val (.int ga), .val (.int gb), .val (.int se), .val (.int xx), .val (.int v1), .val (.int v2), .val (.int (3 : Int32)), .val (.int ix), .val (.ref b86), .val (.ref o92), .val (.ref o94), .val (.ref o96), .val (.ref b98), .val (.ref o92)] [(.ref o92)]
                  refine g_aload X130 at_210 rfl rfl 212 rfl ?_
                  refine g_acmpNN X130 a_ne at_212 219 (by decide) (by decide) 215 rfl (fun h132 => ?_) (fun h132 => ?_)
                  · skip
                    refine g_iconst X130 (1 : Int32) at_215 rfl 216 rfl ?_
                    refine g_goto X130 at_216 220 (by decide) (by decide) ?_
                    exact g_retZ X130 at_220 (by decide) (by decide) own_one
                  · exact absurd rfl h132
                · skip
                  refine g_aload X124 at_192 rfl rfl 194 rfl ?_
                  refine g_astore X124 at_194 rfl #[.val (.int ga), .val (.int gb), .val (.int se), .val (.int xx), .val (.int v1), .val (.int v2), .val (.int (3 : Int32)), .val (.int ix), .val (.ref b86), .val (.ref o92), .val (.ref o94), .val (.ref o96), .val (.ref b98), .val (.ref o94)] rfl 196 rfl ?_
                  refine g_goto X124 at_196 203 (by decide) (by decide) ?_
                  refine g_aload X124 at_203 rfl rfl 205 rfl ?_
                  refine g_iload X124 at_205 rfl 207 rfl ?_
                  have ft134 := (ft122.keep K124)
                  refine g_callV X124 b98 [(.int ix)] [] (rm10 hw n0 b98 ix bs cs (3 : Int32) 3 (own_f3 v1 v2) _ _ h124 B124_0 B124_1 B124_2 B124_3 B124_4 (by decide) (by decide) (by decide) (fun j hj => by (have q : j = 0 ∨ j = 1 ∨ j = 2 := by omega); rcases q with rfl | rfl | rfl <;> rfl) (fun j hj => by (have q : j = 0 ∨ j = 1 ∨ j = 2 := by omega); rcases q with rfl | rfl | rfl <;> rfl) (own_srt hs1.1 hs2) (by show (0 : Int32).toInt ≤ _; rw [own_i0]; exact hix)) ft134 (w74 hw) (w75 hw) (w77 hw) (w76 hw) (w54 hw) (w78 hw) (by decide) pd9 rfl rfl (by decide) (Nat.le_of_ble_eq_true rfl) (by decide) (by decide) at_207 rfl 210 rfl (fun v133 T133 h133 X133 q133 => ?_)
                  obtain ⟨⟨r, rfl, r1, r2, r3⟩, rfl⟩ := q133
                  have y1 : 1 < r ↔ v1.toInt ≤ ix.toInt := r3 1 (by decide)
                  have y2 : 2 < r ↔ v2.toInt ≤ ix.toInt := r3 2 (by decide)
                  have yh127 := own_gt h127
                  have yh129 := own_le h129
                  obtain rfl : r = 2 := by omega
                  show Go k n0 (Q0 ga gb se xx h0) 32 128 T133 210 #[.val (.int ga), .val (.int gb), .val (.int se), .val (.int xx), .val (.int v1), .val (.int v2), .val (.int (3 : Int32)), .val (.int ix), .val (.ref b86), .val (.ref o92), .val (.ref o94), .val (.ref o96), .val (.ref b98), .val (.ref o94)] [(.ref o94)]
                  refine g_aload X133 at_210 rfl rfl 212 rfl ?_
                  refine g_acmpNN X133 a_ne at_212 219 (by decide) (by decide) 215 rfl (fun h135 => ?_) (fun h135 => ?_)
                  · skip
                    refine g_iconst X133 (1 : Int32) at_215 rfl 216 rfl ?_
                    refine g_goto X133 at_216 220 (by decide) (by decide) ?_
                    exact g_retZ X133 at_220 (by decide) (by decide) own_one
                  · exact absurd rfl h135
            · skip
              refine g_aload X124 at_172 rfl rfl 174 rfl ?_
              refine g_astore X124 at_174 rfl #[.val (.int ga), .val (.int gb), .val (.int se), .val (.int xx), .val (.int v1), .val (.int v2), .val (.int (3 : Int32)), .val (.int ix), .val (.ref b86), .val (.ref o92), .val (.ref o94), .val (.ref o96), .val (.ref b98), .val (.ref o96)] rfl 176 rfl ?_
              refine g_goto X124 at_176 203 (by decide) (by decide) ?_
              refine g_aload X124 at_203 rfl rfl 205 rfl ?_
              refine g_iload X124 at_205 rfl 207 rfl ?_
              have ft137 := (ft122.keep K124)
              refine g_callV X124 b98 [(.int ix)] [] (rm10 hw n0 b98 ix bs cs (3 : Int32) 3 (own_f3 v1 v2) _ _ h124 B124_0 B124_1 B124_2 B124_3 B124_4 (by decide) (by decide) (by decide) (fun j hj => by (have q : j = 0 ∨ j = 1 ∨ j = 2 := by omega); rcases q with rfl | rfl | rfl <;> rfl) (fun j hj => by (have q : j = 0 ∨ j = 1 ∨ j = 2 := by omega); rcases q with rfl | rfl | rfl <;> rfl) (own_srt hs1.1 hs2) (by show (0 : Int32).toInt ≤ _; rw [own_i0]; exact hix)) ft137 (w74 hw) (w75 hw) (w77 hw) (w76 hw) (w54 hw) (w78 hw) (by decide) pd9 rfl rfl (by decide) (Nat.le_of_ble_eq_true rfl) (by decide) (by decide) at_207 rfl 210 rfl (fun v136 T136 h136 X136 q136 => ?_)
              obtain ⟨⟨r, rfl, r1, r2, r3⟩, rfl⟩ := q136
              have y1 : 1 < r ↔ v1.toInt ≤ ix.toInt := r3 1 (by decide)
              have y2 : 2 < r ↔ v2.toInt ≤ ix.toInt := r3 2 (by decide)
              have yh127 := own_le h127
              obtain rfl : r = 3 := by omega
              show Go k n0 (Q0 ga gb se xx h0) 32 128 T136 210 #[.val (.int ga), .val (.int gb), .val (.int se), .val (.int xx), .val (.int v1), .val (.int v2), .val (.int (3 : Int32)), .val (.int ix), .val (.ref b86), .val (.ref o92), .val (.ref o94), .val (.ref o96), .val (.ref b98), .val (.ref o96)] [(.ref o96)]
              refine g_aload X136 at_210 rfl rfl 212 rfl ?_
              refine g_acmpNN X136 a_ne at_212 219 (by decide) (by decide) 215 rfl (fun h138 => ?_) (fun h138 => ?_)
              · skip
                refine g_iconst X136 (1 : Int32) at_215 rfl 216 rfl ?_
                refine g_goto X136 at_216 220 (by decide) (by decide) ?_
                exact g_retZ X136 at_220 (by decide) (by decide) own_one
              · exact absurd rfl h138
  refine g_iloadN X0 at_24 rfl 25 rfl ?_
  refine g_iconst X0 (1 : Int32) at_25 rfl 26 rfl ?_
  refine g_iand X0 at_26 27 rfl ?_
  refine g_ifN X0 z_ne at_27 39 (by decide) (by decide) 30 rfl (fun h139 => ?_) (fun h139 => ?_)
  · skip
    refine g_iloadN X0 at_30 rfl 31 rfl ?_
    refine g_ldcI X0 (w1 hw) at_31 33 rfl ?_
    refine g_iand X0 at_33 34 rfl ?_
    refine g_istore X0 at_34 #[.val (.int ga), .val (.int gb), .val (.int se), .val (.int xx), .val (.int v1), .val (.int v2), .val (.int v3), .val (.int (xx &&& (2147483647 : Int32))), .unset, .unset, .unset, .unset, .unset, .unset] rfl 36 rfl ?_
    generalize hv140 : (xx &&& (2147483647 : Int32)) = v140
    refine g_goto X0 at_36 80 (by decide) (by decide) ?_
    exact cut80 T0 X0 (v140) (.unset) (.unset) One.u One.u (by first | exact own_ix1 hv140 | exact own_ix2 hv140)
  · skip
    refine g_iloadN X0 at_39 rfl 40 rfl ?_
    refine g_iconst X0 (1 : Int32) at_40 rfl 41 rfl ?_
    refine g_iushr X0 at_41 42 rfl ?_
    refine g_iconst X0 (1 : Int32) at_42 rfl 43 rfl ?_
    refine g_iand X0 at_43 44 rfl ?_
    have k54_2 : ∀ (v141 : Int32), v141 = (if (((se.toUInt32 >>> ((1 : Int32) &&& 31).toUInt32).toInt32) &&& (1 : Int32)) = 0 then v1 else v2) → Go k n0 (Q0 ga gb se xx h0) 32 128 T0 54 #[.val (.int ga), .val (.int gb), .val (.int se), .val (.int xx), .val (.int v1), .val (.int v2), .val (.int v3), .unset, .unset, .unset, .unset, .unset, .unset, .unset] [(.int v141)] := by
      intro v141 hv141
      refine g_istore X0 at_54 #[.val (.int ga), .val (.int gb), .val (.int se), .val (.int xx), .val (.int v1), .val (.int v2), .val (.int v3), .unset, .val (.int v141), .unset, .unset, .unset, .unset, .unset] rfl 56 rfl ?_
      refine g_iloadN X0 at_56 rfl 57 rfl ?_
      refine g_iconst X0 (2 : Int32) at_57 rfl 58 rfl ?_
      refine g_iushr X0 at_58 59 rfl ?_
      refine g_iconst X0 (1 : Int32) at_59 rfl 60 rfl ?_
      refine g_iand X0 at_60 61 rfl ?_
      refine g_iloadN X0 at_61 rfl 62 rfl ?_
      refine g_iconst X0 (3 : Int32) at_62 rfl 63 rfl ?_
      refine g_iushr X0 at_63 64 rfl ?_
      refine g_iconst X0 (1 : Int32) at_64 rfl 65 rfl ?_
      refine g_iand X0 at_65 66 rfl ?_
      refine g_isub X0 at_66 67 rfl ?_
      refine g_istore X0 at_67 #[.val (.int ga), .val (.int gb), .val (.int se), .val (.int xx), .val (.int v1), .val (.int v2), .val (.int v3), .unset, .val (.int v141), .val (.int ((((se.toUInt32 >>> ((2 : Int32) &&& 31).toUInt32).toInt32) &&& (1 : Int32)) - (((se.toUInt32 >>> ((3 : Int32) &&& 31).toUInt32).toInt32) &&& (1 : Int32)))), .unset, .unset, .unset, .unset] rfl 69 rfl ?_
      generalize hv142 : ((((se.toUInt32 >>> ((2 : Int32) &&& 31).toUInt32).toInt32) &&& (1 : Int32)) - (((se.toUInt32 >>> ((3 : Int32) &&& 31).toUInt32).toInt32) &&& (1 : Int32))) = v142
      refine g_iconst X0 (0 : Int32) at_69 rfl 70 rfl ?_
      refine g_iload X0 at_70 rfl 72 rfl ?_
      refine g_iload X0 at_72 rfl 74 rfl ?_
      refine g_iadd X0 at_74 75 rfl ?_
      refine g_callS X0 [(.int (0 : Int32)), (.int (v141 + v142))] [] (rm2 hw n0 (0 : Int32) (v141 + v142) h0) (w79 hw) (w41 hw) (w42 hw) (w43 hw) (by decide) pd1 rfl rfl (by decide) (Nat.le_of_ble_eq_true rfl) (by decide) (by decide) at_75 rfl 78 rfl (fun v143 T143 h143 X143 q143 => ?_)
      obtain ⟨rfl, rfl⟩ := q143
      show Go k n0 (Q0 ga gb se xx h0) 32 128 T143 78 #[.val (.int ga), .val (.int gb), .val (.int se), .val (.int xx), .val (.int v1), .val (.int v2), .val (.int v3), .unset, .val (.int v141), .val (.int v142), .unset, .unset, .unset, .unset] [(.int (fMax (0 : Int32) (v141 + v142)))]
      refine g_istore X143 at_78 #[.val (.int ga), .val (.int gb), .val (.int se), .val (.int xx), .val (.int v1), .val (.int v2), .val (.int v3), .val (.int (fMax (0 : Int32) (v141 + v142))), .val (.int v141), .val (.int v142), .unset, .unset, .unset, .unset] rfl 80 rfl ?_
      generalize hv144 : (fMax (0 : Int32) (v141 + v142)) = v144
      exact cut80 T143 X143 (v144) (.val (.int v141)) (.val (.int v142)) (One.val rfl) (One.val rfl) (by first | exact own_ix1 hv144 | exact own_ix2 hv144)
    refine g_ifN X0 z_ne at_44 52 (by decide) (by decide) 47 rfl (fun h145 => ?_) (fun h145 => ?_)
    · skip
      refine g_iload X0 at_47 rfl 49 rfl ?_
      refine g_goto X0 at_49 54 (by decide) (by decide) ?_
      exact k54_2 (v1) (by first | (simp only [if_neg h139, if_pos h145]; done) | (simp only [if_neg h139, if_pos h145]; done) | (simp only [apply_ite Int32.toInt64, if_neg h139, if_pos h145]; done) | (simp only [h139, h145, if_true, if_false, true_or, or_true, true_and, and_true, not_true_eq_false, not_false_eq_true, false_or, or_false, false_and, and_false]; done) | (simp only [h139, h145, hv1, hv2, hv3, if_true, if_false, true_or, or_true, true_and, and_true, not_true_eq_false, not_false_eq_true, false_or, or_false, false_and, and_false]; done))
    · skip
      refine g_iload X0 at_52 rfl 54 rfl ?_
      exact k54_2 (v2) (by first | (simp only [if_neg h139, if_neg h145]; done) | (simp only [if_neg h139, if_neg h145]; done) | (simp only [apply_ite Int32.toInt64, if_neg h139, if_neg h145]; done) | (simp only [h139, h145, if_true, if_false, true_or, or_true, true_and, and_true, not_true_eq_false, not_false_eq_true, false_or, or_false, false_and, and_false]; done) | (simp only [h139, h145, hv1, hv2, hv3, if_true, if_false, true_or, or_true, true_and, and_true, not_true_eq_false, not_false_eq_true, false_or, or_false, false_and, and_false]; done))
set_option maxRecDepth 65536 in
set_option maxHeartbeats 40000000 in
theorem comes_1 {Post : Tables → Env → Array Value → State → Outcome → State → Prop} (hpost : ∀ tb e args s v u, (limb_1_1.after args s (.returned v) u = true ∧ limb_1_2.after args s (.returned v) u = true ∧ True) → FrameEnd s (.returned v) u (Jvm.fieldLocs frame_1_writes args s ++ Jvm.arrayLocs frame_1_arrays args s ++ Jvm.staticLocs frame_1_statics s) 32 128 → Post tb e args s (.returned v) u) :
    ArmFor flags0 classFile x code maxLocals ret World_1 tables_1 room_1 Calls_1 rest_1 Pre_1 Post := by
  intro l hfl _ _ p e ha hc hk s m args below hf hA hF happ hP
  obtain ⟨hcalls, hrest, hpre⟩ := hP
  obtain ⟨-, -, -, hnamed, -, -, -, hat⟩ := (Spec.applies_iff hf).mp happ
  obtain ⟨hg, hn⟩ := and_e (Cond.before_iff.mp (show (Jvm.Cond.and given_1 narrow_1).before args s = true from hpre))
  obtain ⟨hcount, g0⟩ := and_e hg
  obtain ⟨q0, g1⟩ := and_e g0
  obtain ⟨q1, g2⟩ := and_e g1
  obtain ⟨q2, g3⟩ := and_e g2
  have q3 := g3
  obtain ⟨w0, w1, w2, w3, rfl⟩ : ∃ w0 w1 w2 w3 : Value, args = #[w0, w1, w2, w3] := by
    have hs : args.size = 4 := by simpa [Cond.value, given_1] using hcount
    obtain ⟨L⟩ := args
    match L, hs with
    | [w0, w1, w2, w3], _ => exact ⟨w0, w1, w2, w3, rfl⟩
  have hw := fun d (hd : d ∈ tables_1) => atoms_spec (ws := Jvm.Cond.code x code maxLocals ret :: tables_1) hat d (List.mem_cons_of_mem _ hd)
  have hfit : Fit s := fun {y c} hc i hi => by
    obtain ⟨ha, rfl⟩ := Array.getElem?_eq_some_iff.mp hc
    have q := List.all_eq_true.mp ((Array.all_eq_true_iff_forall_mem.mp hF) _ (Array.getElem_mem ha)) i (List.mem_range.mpr hi)
    simpa [Array.getElem?_eq_getElem hi] using q
  obtain ⟨i0, e0⟩ := is_v q0
  obtain rfl : w0 = (.int i0) := Option.some.inj e0
  obtain ⟨i1, e1⟩ := is_v q1
  obtain rfl : w1 = (.int i1) := Option.some.inj e1
  obtain ⟨i2, e2⟩ := is_v q2
  obtain rfl : w2 = (.int i2) := Option.some.inj e2
  obtain ⟨i3, e3⟩ := is_v q3
  obtain rfl : w3 = (.int i3) := Option.some.inj e3
  obtain ⟨n, o, h1, h2, h3, v, L, rfl, ⟨N, hQ⟩, hq⟩ := rm0 (l := l) hw s.heap.size i0 i1 i2 i3 s.heap (Nat.le_refl _) p e ha hc hk s m _ below hf ((Spec.applies_iff_loose hf).mp happ).1 ⟨rfl, State.Warmed39.refl s, rfl⟩ trivial
  obtain rfl : v = some (.int 1) := hQ
  refine ⟨n, _, h1, h2, h3, hpost _ _ _ _ _ _ ⟨Cond.after_iff.mpr rfl, Cond.after_iff.mpr (eq_i res_at (Term.int_eval (1)) rfl), trivial⟩ ⟨hq.1, hq.2.1, (hq.2.2.sift fun y hy => Or.inr (N y hy)).mono (by decide) (by decide)⟩⟩
theorem main_1_1 : Claimed_1_1 := comes_1 fun _ _ _ _ _ _ h hF => ⟨h.1, hF⟩
theorem main_1_2 : Claimed_1_2 := comes_1 fun _ _ _ _ _ _ h hF => ⟨h.2.1, hF⟩
end Jvm.Pilot.@@N@@
namespace Jvm.Pilot.@@N@@
open Jvm Jvm.ClassFile Sem Op Lib Jvm.Free Jvm.Stand Jvm.Pilot.@@N@@.Jvm.D
/-! MADE BY PROGRAM (witnessworld.py) out of the Statement's table words and the real class files: 14 classes; the members and pool entries that the words name. The judged class is class 1, her method 1. -/
namespace start1
open Jvm.ClassFile
def u (s : String) : CpInfo := .utf8 (stringToUtf16 s)
/-- a pool by its gaps: so many unusable entries, then the entry; so many at the end -/
def gap : Nat → List CpInfo → List CpInfo
  | 0, r => r
  | n + 1, r => .unusable :: gap n r
def poolList (es : List (Nat × CpInfo)) (last : Nat) : List CpInfo := es.foldr (fun e r => gap e.1 (e.2 :: r)) (gap last [])
def pool (es : List (Nat × CpInfo)) (last : Nat) : Array CpInfo := ⟨poolList es last⟩
def fileOf (pool : Array CpInfo) (this : Nat) (attrs : Array Attribute := #[]) (ms : Array MethodInfo := #[]) (fl : Nat := 33) (sup : Nat := 0) (ifs : Array Nat := #[]) (fds : Array FieldInfo := #[]) : ClassFile where
  minorVersion := 0
  majorVersion := 65
  constantPool := pool
  accessFlags := fl
  thisClass := this
  superClass := sup
  interfaces := ifs
  fields := fds
  methods := ms
  attributes := attrs
def plain (name : String) (sup : Option ClassId) : Class where
  name := name
  kind := .ordinary
  loader := none
  accessFlags := 33
  super := sup
  interfaces := #[]
  cf := none
  fields := #[]
  methods := #[]
  instanceTypes := #[]
  staticTypes := #[]
  resolved := #[]
  callSites := []
  init := .initialized
  statics := none
  mirror := none

def pool0 : Array CpInfo := pool [(5, u "<init>"), (0, u "()V"), (1, .class_ 10), (1, u "java/lang/Object")] 113

def k0c0 : Code := { maxStack := 0, maxLocals := 1, code := object_method_1_code, exceptionTable := #[], attributes := #[] }
def k0m0 : Method := { name := "<init>", desc := "()V", sig := { parameters := [], returnType := none }, accessFlags := 1, code := some k0c0 }
/-- java/lang/Object -/
def k0 : Class := { plain "java/lang/Object" none with
  accessFlags := 33
  interfaces := #[]
  cf := some (fileOf pool0 8 #[] #[{ accessFlags := 1, nameIndex := 5, descriptorIndex := 6, attributes := #[] }] 33 0 #[] #[])
  fields := #[]
  methods := #[k0m0]
  instanceTypes := #[]
  staticTypes := #[]
  resolved := Array.replicate 124 none
  statics := none }

def pool1 : Array CpInfo := pool [(2, .class_ 4), (0, .nameAndType 5 6), (0, u "java/lang/Object"), (0, u "<init>"), (0, u "()V"), (0, .integer 1073741823), (0, .integer 2147483647), (0, .methodref 10 11), (0, .class_ 12), (0, .nameAndType 13 14), (0, u "java/lang/Math"), (0, u "max"), (0, u "(II)I"), (0, .class_ 16), (0, u "com/example/libaxes/libaxes/tree/NamespaceScope$Declaration"), (0, .methodref 15 18), (0, .nameAndType 5 19), (0, u "(Lcom/example/libaxes/libaxes/tree/Label;I)V"), (0, .methodref 21 22), (0, .class_ 23), (0, .nameAndType 24 25), (0, u "com/example/libaxes/libaxes/tree/NamespaceScope"), (0, u "ofRoot"), (0, u "(Lcom/example/libaxes/libaxes/tree/NamespaceScope$Declaration;)Lcom/example/libaxes/libaxes/tree/NamespaceScope;"), (0, .class_ 27), (0, u "com/example/libaxes/libaxes/tree/ScopeRuns"), (0, .methodref 26 3), (0, .methodref 26 30), (0, .nameAndType 31 32), (0, u "begin"), (0, u "(ILcom/example/libaxes/libaxes/tree/NamespaceScope;)V"), (0, .methodref 26 34), (0, .nameAndType 35 36), (0, u "at"), (0, u "(I)Lcom/example/libaxes/libaxes/tree/NamespaceScope;"), (0, .class_ 38), (0, u "com/example/libaxes/libaxes/tree/ScopeRunsAtPinLaw"), (2, u "law"), (0, u "(IIII)Z")] 5

def k1m0 : Method := { name := "<init>", desc := "()V", sig := { parameters := [], returnType := none }, accessFlags := 1, code := none }
def k1c1 : Code := { maxStack := 4, maxLocals := 14, code := code, exceptionTable := #[], attributes := #[] }
def k1m1 : Method := { name := "law", desc := "(IIII)Z", sig := { parameters := [.int, .int, .int, .int], returnType := some .boolean }, accessFlags := 9, code := some k1c1 }
/-- com/example/libaxes/libaxes/tree/ScopeRunsAtPinLaw -/
def k1 : Class := { plain "com/example/libaxes/libaxes/tree/ScopeRunsAtPinLaw" (some 0) with
  accessFlags := 49
  interfaces := #[]
  cf := some (fileOf pool1 37 #[] #[{ accessFlags := 1, nameIndex := 5, descriptorIndex := 6, attributes := #[] }, { accessFlags := 9, nameIndex := 41, descriptorIndex := 42, attributes := #[] }] 49 2 #[] #[])
  fields := #[]
  methods := #[k1m0, k1m1]
  instanceTypes := #[]
  staticTypes := #[]
  resolved := Array.replicate 48 none
  statics := none }

def pool2 : Array CpInfo := pool [(1, .methodref 2 3), (0, .class_ 4), (0, .nameAndType 5 6), (0, u "java/lang/Object"), (0, u "<init>"), (0, u "()V"), (0, .fieldref 8 9), (0, .class_ 10), (0, .nameAndType 11 12), (0, u "com/example/libaxes/libaxes/tree/NamespaceScope$Declaration"), (0, u "label"), (0, u "Lcom/example/libaxes/libaxes/tree/Label;"), (0, .fieldref 8 14), (0, .nameAndType 15 16), (0, u "uri"), (0, u "I"), (12, u "(Lcom/example/libaxes/libaxes/tree/Label;I)V"), (8, .class_ 39), (0, u "com/example/libaxes/libaxes/tree/NamespaceScope")] 2

def k2c0 : Code := { maxStack := 2, maxLocals := 3, code := prog_32_method_1_code, exceptionTable := #[], attributes := #[] }
def k2m0 : Method := { name := "<init>", desc := "(Lcom/example/libaxes/libaxes/tree/Label;I)V", sig := { parameters := [(.object "com/example/libaxes/libaxes/tree/Label"), .int], returnType := none }, accessFlags := 0, code := some k2c0 }
/-- com/example/libaxes/libaxes/tree/NamespaceScope$Declaration -/
def k2 : Class := { plain "com/example/libaxes/libaxes/tree/NamespaceScope$Declaration" (some 0) with
  accessFlags := 48
  interfaces := #[]
  cf := some (fileOf pool2 8 #[.nestHost 38] #[{ accessFlags := 0, nameIndex := 5, descriptorIndex := 29, attributes := #[] }] 48 2 #[] #[{ accessFlags := 18, nameIndex := 11, descriptorIndex := 12, attributes := #[] }, { accessFlags := 18, nameIndex := 15, descriptorIndex := 16, attributes := #[] }])
  fields := #[{ name := "label", type := (.object "com/example/libaxes/libaxes/tree/Label"), accessFlags := 18, slot := 0, constantValue := 0 }, { name := "uri", type := .int, accessFlags := 18, slot := 1, constantValue := 0 }]
  methods := #[k2m0]
  instanceTypes := #[(.object "com/example/libaxes/libaxes/tree/Label"), .int]
  staticTypes := #[]
  resolved := Array.replicate 42 none
  statics := none }

def pool3 : Array CpInfo := pool [(1, .methodref 2 3), (0, .class_ 4), (0, .nameAndType 5 6), (0, u "java/lang/Object"), (0, u "<init>"), (0, u "()V"), (0, .fieldref 8 9), (0, .class_ 10), (0, .nameAndType 11 12), (0, u "com/example/libaxes/libaxes/tree/NamespaceScope"), (0, u "bindings"), (0, u "Lcom/example/libaxes/libaxes/tree/NamespaceScope$Binding;"), (0, .methodref 14 15), (0, .class_ 16), (0, .nameAndType 17 18), (0, u "com/example/libaxes/libaxes/tree/NamespaceScope$Binding"), (0, u "bind"), (0, u "(Lcom/example/libaxes/libaxes/tree/NamespaceScope$Binding;Lcom/example/libaxes/libaxes/tree/NamespaceScope$Declaration;)Lcom/example/libaxes/libaxes/tree/NamespaceScope$Binding;"), (0, .methodref 8 20), (0, .nameAndType 5 21), (0, u "(Lcom/example/libaxes/libaxes/tree/NamespaceScope$Binding;)V"), (16, .class_ 39), (0, u "com/example/libaxes/libaxes/tree/NamespaceScope$Declaration"), (57, u "UNDECLARED"), (0, u "I"), (4, u "ofRoot"), (0, u "(Lcom/example/libaxes/libaxes/tree/NamespaceScope$Declaration;)Lcom/example/libaxes/libaxes/tree/NamespaceScope;")] 19

def k3c0 : Code := { maxStack := 2, maxLocals := 2, code := prog_30_method_1_code, exceptionTable := #[], attributes := #[] }
def k3m0 : Method := { name := "<init>", desc := "(Lcom/example/libaxes/libaxes/tree/NamespaceScope$Binding;)V", sig := { parameters := [(.object "com/example/libaxes/libaxes/tree/NamespaceScope$Binding")], returnType := none }, accessFlags := 2, code := some k3c0 }
def k3c1 : Code := { maxStack := 4, maxLocals := 1, code := prog_30_method_2_code, exceptionTable := #[], attributes := #[] }
def k3m1 : Method := { name := "ofRoot", desc := "(Lcom/example/libaxes/libaxes/tree/NamespaceScope$Declaration;)Lcom/example/libaxes/libaxes/tree/NamespaceScope;", sig := { parameters := [(.object "com/example/libaxes/libaxes/tree/NamespaceScope$Declaration")], returnType := some (.object "com/example/libaxes/libaxes/tree/NamespaceScope") }, accessFlags := 8, code := some k3c1 }
/-- com/example/libaxes/libaxes/tree/NamespaceScope -/
def k3 : Class := { plain "com/example/libaxes/libaxes/tree/NamespaceScope" (some 0) with
  accessFlags := 48
  interfaces := #[]
  cf := some (fileOf pool3 8 #[.nestMembers #[14, 38]] #[{ accessFlags := 2, nameIndex := 5, descriptorIndex := 21, attributes := #[] }, { accessFlags := 8, nameIndex := 103, descriptorIndex := 104, attributes := #[] }] 48 2 #[] #[{ accessFlags := 24, nameIndex := 97, descriptorIndex := 98, attributes := #[] }, { accessFlags := 18, nameIndex := 11, descriptorIndex := 12, attributes := #[] }])
  fields := #[{ name := "UNDECLARED", type := .int, accessFlags := 24, slot := 0, constantValue := 0 }, { name := "bindings", type := (.object "com/example/libaxes/libaxes/tree/NamespaceScope$Binding"), accessFlags := 18, slot := 0, constantValue := 0 }]
  methods := #[k3m0, k3m1]
  instanceTypes := #[(.object "com/example/libaxes/libaxes/tree/NamespaceScope$Binding")]
  staticTypes := #[.int]
  resolved := Array.replicate 124 none
  statics := none }

def pool4 : Array CpInfo := pool [(1, .methodref 2 3), (0, .class_ 4), (0, .nameAndType 5 6), (0, u "java/lang/Object"), (0, u "<init>"), (0, u "()V"), (0, .fieldref 8 9), (0, .class_ 10), (0, .nameAndType 11 12), (0, u "com/example/libaxes/libaxes/tree/NamespaceScope$Binding"), (0, u "left"), (0, u "Lcom/example/libaxes/libaxes/tree/NamespaceScope$Binding;"), (0, .fieldref 8 14), (0, .nameAndType 15 16), (0, u "declaration"), (0, u "Lcom/example/libaxes/libaxes/tree/NamespaceScope$Declaration;"), (0, .fieldref 8 18), (0, .nameAndType 19 12), (0, u "right"), (0, .methodref 8 21), (0, .nameAndType 22 23), (0, u "height"), (0, u "(Lcom/example/libaxes/libaxes/tree/NamespaceScope$Binding;)I"), (0, .methodref 25 26), (0, .class_ 27), (0, .nameAndType 28 29), (0, u "java/lang/Math"), (0, u "max"), (0, u "(II)I"), (0, .fieldref 8 31), (0, .nameAndType 22 32), (0, u "I"), (0, .methodref 8 34), (0, .nameAndType 5 35), (0, u "(Lcom/example/libaxes/libaxes/tree/NamespaceScope$Binding;Lcom/example/libaxes/libaxes/tree/NamespaceScope$Declaration;Lcom/example/libaxes/libaxes/tree/NamespaceScope$Binding;)V"), (12, .methodref 8 49), (0, .nameAndType 50 51), (0, u "bind"), (0, u "(Lcom/example/libaxes/libaxes/tree/NamespaceScope$Binding;Lcom/example/libaxes/libaxes/tree/NamespaceScope$Declaration;)Lcom/example/libaxes/libaxes/tree/NamespaceScope$Binding;"), (31, .class_ 84), (0, u "com/example/libaxes/libaxes/tree/NamespaceScope")] 3

def k4c0 : Code := { maxStack := 3, maxLocals := 4, code := prog_31_method_1_code, exceptionTable := #[], attributes := #[] }
def k4m0 : Method := { name := "<init>", desc := "(Lcom/example/libaxes/libaxes/tree/NamespaceScope$Binding;Lcom/example/libaxes/libaxes/tree/NamespaceScope$Declaration;Lcom/example/libaxes/libaxes/tree/NamespaceScope$Binding;)V", sig := { parameters := [(.object "com/example/libaxes/libaxes/tree/NamespaceScope$Binding"), (.object "com/example/libaxes/libaxes/tree/NamespaceScope$Declaration"), (.object "com/example/libaxes/libaxes/tree/NamespaceScope$Binding")], returnType := none }, accessFlags := 2, code := some k4c0 }
def k4c1 : Code := { maxStack := 1, maxLocals := 1, code := prog_31_method_2_code, exceptionTable := #[], attributes := #[] }
def k4m1 : Method := { name := "height", desc := "(Lcom/example/libaxes/libaxes/tree/NamespaceScope$Binding;)I", sig := { parameters := [(.object "com/example/libaxes/libaxes/tree/NamespaceScope$Binding")], returnType := some .int }, accessFlags := 10, code := some k4c1 }
def k4c2 : Code := { maxStack := 5, maxLocals := 4, code := prog_31_method_3_code, exceptionTable := #[], attributes := #[] }
def k4m2 : Method := { name := "bind", desc := "(Lcom/example/libaxes/libaxes/tree/NamespaceScope$Binding;Lcom/example/libaxes/libaxes/tree/NamespaceScope$Declaration;)Lcom/example/libaxes/libaxes/tree/NamespaceScope$Binding;", sig := { parameters := [(.object "com/example/libaxes/libaxes/tree/NamespaceScope$Binding"), (.object "com/example/libaxes/libaxes/tree/NamespaceScope$Declaration")], returnType := some (.object "com/example/libaxes/libaxes/tree/NamespaceScope$Binding") }, accessFlags := 8, code := some k4c2 }
/-- com/example/libaxes/libaxes/tree/NamespaceScope$Binding -/
def k4 : Class := { plain "com/example/libaxes/libaxes/tree/NamespaceScope$Binding" (some 0) with
  accessFlags := 48
  interfaces := #[]
  cf := some (fileOf pool4 8 #[.nestHost 83] #[{ accessFlags := 2, nameIndex := 5, descriptorIndex := 35, attributes := #[] }, { accessFlags := 10, nameIndex := 22, descriptorIndex := 23, attributes := #[] }, { accessFlags := 8, nameIndex := 50, descriptorIndex := 51, attributes := #[] }] 48 2 #[] #[{ accessFlags := 18, nameIndex := 11, descriptorIndex := 12, attributes := #[] }, { accessFlags := 18, nameIndex := 15, descriptorIndex := 16, attributes := #[] }, { accessFlags := 18, nameIndex := 19, descriptorIndex := 12, attributes := #[] }, { accessFlags := 18, nameIndex := 22, descriptorIndex := 32, attributes := #[] }])
  fields := #[{ name := "left", type := (.object "com/example/libaxes/libaxes/tree/NamespaceScope$Binding"), accessFlags := 18, slot := 0, constantValue := 0 }, { name := "declaration", type := (.object "com/example/libaxes/libaxes/tree/NamespaceScope$Declaration"), accessFlags := 18, slot := 1, constantValue := 0 }, { name := "right", type := (.object "com/example/libaxes/libaxes/tree/NamespaceScope$Binding"), accessFlags := 18, slot := 2, constantValue := 0 }, { name := "height", type := .int, accessFlags := 18, slot := 3, constantValue := 0 }]
  methods := #[k4m0, k4m1, k4m2]
  instanceTypes := #[(.object "com/example/libaxes/libaxes/tree/NamespaceScope$Binding"), (.object "com/example/libaxes/libaxes/tree/NamespaceScope$Declaration"), (.object "com/example/libaxes/libaxes/tree/NamespaceScope$Binding"), .int]
  staticTypes := #[]
  resolved := Array.replicate 88 none
  statics := none }

def pool5 : Array CpInfo := pool [(1, .class_ 2), (0, u "java/lang/Math"), (1, .class_ 6), (1, u "java/lang/Object"), (0, u "<init>"), (0, u "()V"), (89, .class_ 100), (1, u "java/lang/Math$RandomNumberGeneratorHolder"), (71, u "negativeZeroFloatBits"), (0, u "J"), (2, u "negativeZeroDoubleBits"), (21, u "max"), (46, u "$assertionsDisabled"), (0, u "Z"), (88, u "(II)I"), (2, u "twoToTheDoubleScaleDown"), (0, u "D"), (4, u "twoToTheDoubleScaleUp"), (9, u "E"), (3, u "PI"), (2, u "TAU"), (2, u "DEGREES_TO_RADIANS"), (0, u "RADIANS_TO_DEGREES")] 94

def k5m0 : Method := { name := "<init>", desc := "()V", sig := { parameters := [], returnType := none }, accessFlags := 2, code := none }
def k5c1 : Code := { maxStack := 2, maxLocals := 2, code := jdk_29_method_65_code, exceptionTable := #[], attributes := #[] }
def k5m1 : Method := { name := "max", desc := "(II)I", sig := { parameters := [.int, .int], returnType := some .int }, accessFlags := 9, code := some k5c1 }
/-- java/lang/Math -/
def k5 : Class := { plain "java/lang/Math" (some 0) with
  accessFlags := 49
  interfaces := #[]
  cf := some (fileOf pool5 1 #[.nestMembers #[98]] #[{ accessFlags := 2, nameIndex := 7, descriptorIndex := 8, attributes := #[] }, { accessFlags := 9, nameIndex := 198, descriptorIndex := 335, attributes := #[] }] 49 4 #[] #[{ accessFlags := 25, nameIndex := 354, descriptorIndex := 339, attributes := #[] }, { accessFlags := 25, nameIndex := 358, descriptorIndex := 339, attributes := #[] }, { accessFlags := 25, nameIndex := 361, descriptorIndex := 339, attributes := #[] }, { accessFlags := 26, nameIndex := 364, descriptorIndex := 339, attributes := #[] }, { accessFlags := 26, nameIndex := 365, descriptorIndex := 339, attributes := #[] }, { accessFlags := 26, nameIndex := 172, descriptorIndex := 173, attributes := #[] }, { accessFlags := 26, nameIndex := 176, descriptorIndex := 173, attributes := #[] }, { accessFlags := 8, nameIndex := 344, descriptorIndex := 339, attributes := #[] }, { accessFlags := 8, nameIndex := 338, descriptorIndex := 339, attributes := #[] }, { accessFlags := 4120, nameIndex := 245, descriptorIndex := 246, attributes := #[] }])
  fields := #[{ name := "E", type := .double, accessFlags := 25, slot := 0, constantValue := 0 }, { name := "PI", type := .double, accessFlags := 25, slot := 1, constantValue := 0 }, { name := "TAU", type := .double, accessFlags := 25, slot := 2, constantValue := 0 }, { name := "DEGREES_TO_RADIANS", type := .double, accessFlags := 26, slot := 3, constantValue := 0 }, { name := "RADIANS_TO_DEGREES", type := .double, accessFlags := 26, slot := 4, constantValue := 0 }, { name := "negativeZeroFloatBits", type := .long, accessFlags := 26, slot := 5, constantValue := 0 }, { name := "negativeZeroDoubleBits", type := .long, accessFlags := 26, slot := 6, constantValue := 0 }, { name := "twoToTheDoubleScaleUp", type := .double, accessFlags := 8, slot := 7, constantValue := 0 }, { name := "twoToTheDoubleScaleDown", type := .double, accessFlags := 8, slot := 8, constantValue := 0 }, { name := "$assertionsDisabled", type := .boolean, accessFlags := 4120, slot := 9, constantValue := 0 }]
  methods := #[k5m0, k5m1]
  instanceTypes := #[]
  staticTypes := #[.double, .double, .double, .double, .double, .long, .long, .double, .double, .boolean]
  resolved := Array.replicate 460 none
  statics := none }

def pool6 : Array CpInfo := pool [(1, .methodref 2 3), (0, .class_ 4), (0, .nameAndType 5 6), (0, u "java/lang/Object"), (0, u "<init>"), (0, u "()V"), (0, .fieldref 8 9), (0, .class_ 10), (0, .nameAndType 11 12), (0, u "com/example/libaxes/libaxes/tree/ScopeRuns"), (0, u "starts"), (0, u "[I"), (0, .class_ 14), (0, u "com/example/libaxes/libaxes/tree/NamespaceScope"), (0, .fieldref 8 16), (0, .nameAndType 17 18), (0, u "scopes"), (0, u "[Lcom/example/libaxes/libaxes/tree/NamespaceScope;"), (0, .fieldref 8 20), (0, .nameAndType 21 22), (0, u "count"), (0, u "I"), (12, u "begin"), (0, u "(ILcom/example/libaxes/libaxes/tree/NamespaceScope;)V"), (1, u "at"), (0, u "(I)Lcom/example/libaxes/libaxes/tree/NamespaceScope;")] 2

def k6c0 : Code := { maxStack := 2, maxLocals := 1, code := prog_38_method_1_code, exceptionTable := #[], attributes := #[] }
def k6m0 : Method := { name := "<init>", desc := "()V", sig := { parameters := [], returnType := none }, accessFlags := 0, code := some k6c0 }
def k6c1 : Code := { maxStack := 4, maxLocals := 3, code := prog_38_method_2_code, exceptionTable := #[], attributes := #[] }
def k6m1 : Method := { name := "begin", desc := "(ILcom/example/libaxes/libaxes/tree/NamespaceScope;)V", sig := { parameters := [.int, (.object "com/example/libaxes/libaxes/tree/NamespaceScope")], returnType := none }, accessFlags := 0, code := some k6c1 }
def k6c2 : Code := { maxStack := 3, maxLocals := 5, code := prog_38_method_3_code, exceptionTable := #[], attributes := #[] }
def k6m2 : Method := { name := "at", desc := "(I)Lcom/example/libaxes/libaxes/tree/NamespaceScope;", sig := { parameters := [.int], returnType := some (.object "com/example/libaxes/libaxes/tree/NamespaceScope") }, accessFlags := 0, code := some k6c2 }
/-- com/example/libaxes/libaxes/tree/ScopeRuns -/
def k6 : Class := { plain "com/example/libaxes/libaxes/tree/ScopeRuns" (some 0) with
  accessFlags := 48
  interfaces := #[]
  cf := some (fileOf pool6 8 #[] #[{ accessFlags := 0, nameIndex := 5, descriptorIndex := 6, attributes := #[] }, { accessFlags := 0, nameIndex := 35, descriptorIndex := 36, attributes := #[] }, { accessFlags := 0, nameIndex := 38, descriptorIndex := 39, attributes := #[] }] 48 2 #[] #[{ accessFlags := 2, nameIndex := 11, descriptorIndex := 12, attributes := #[] }, { accessFlags := 2, nameIndex := 17, descriptorIndex := 18, attributes := #[] }, { accessFlags := 2, nameIndex := 21, descriptorIndex := 22, attributes := #[] }])
  fields := #[{ name := "starts", type := (.array .int), accessFlags := 2, slot := 0, constantValue := 0 }, { name := "scopes", type := (.array (.object "com/example/libaxes/libaxes/tree/NamespaceScope")), accessFlags := 2, slot := 1, constantValue := 0 }, { name := "count", type := .int, accessFlags := 2, slot := 2, constantValue := 0 }]
  methods := #[k6m0, k6m1, k6m2]
  instanceTypes := #[(.array .int), (.array (.object "com/example/libaxes/libaxes/tree/NamespaceScope")), .int]
  staticTypes := #[]
  resolved := Array.replicate 42 none
  statics := none }

def pool7 : Array CpInfo := pool [(1, u "java/lang/Cloneable"), (0, .class_ 1), (0, u "java/lang/Object"), (0, .class_ 3)] 3

/-- java/lang/Cloneable -/
def k7 : Class := { plain "java/lang/Cloneable" (some 0) with
  accessFlags := 1537
  interfaces := #[]
  cf := some (fileOf pool7 2 #[] #[] 1537 4 #[] #[])
  fields := #[]
  methods := #[]
  instanceTypes := #[]
  staticTypes := #[]
  resolved := Array.replicate 8 none
  statics := none }

def pool8 : Array CpInfo := pool [(1, u "java/io/Serializable"), (0, .class_ 1), (0, u "java/lang/Object"), (0, .class_ 3)] 3

/-- java/io/Serializable -/
def k8 : Class := { plain "java/io/Serializable" (some 0) with
  accessFlags := 1537
  interfaces := #[]
  cf := some (fileOf pool8 2 #[] #[] 1537 4 #[] #[])
  fields := #[]
  methods := #[]
  instanceTypes := #[]
  staticTypes := #[]
  resolved := Array.replicate 8 none
  statics := none }

/-- the primitive byte -/
def k9 : Class := { plain "byte" none with kind := .primitive 'B', accessFlags := 0x411 }
/-- [B -/
def k10 : Class := { plain "[B" (some 0) with kind := .array 9 .byte, interfaces := #[7, 8], accessFlags := 1041 }

/-- the primitive int -/
def k11 : Class := { plain "int" none with kind := .primitive 'I', accessFlags := 0x411 }
/-- [I -/
def k12 : Class := { plain "[I" (some 0) with kind := .array 11 .int, interfaces := #[7, 8], accessFlags := 1041 }

/-- [Lcom/example/libaxes/libaxes/tree/NamespaceScope; -/
def k13 : Class := { plain "[Lcom/example/libaxes/libaxes/tree/NamespaceScope;" (some 0) with kind := .array 3 (.object "com/example/libaxes/libaxes/tree/NamespaceScope"), interfaces := #[7, 8], accessFlags := 1041 }

def heap : Heap := #[]
def classes : Array Class := #[k0, k1, k2, k3, k4, k5, k6, k7, k8, k9, k10, k11, k12, k13]
def interned : List (Array UInt16 × Addr) := []
def slotsUsed : Nat := 0
def theMethod : MethodId := ⟨1, 1⟩
def args0 : Array Value := #[.int 5, .int 6, .int 1, .int 3]
def aboutOver (below : List Frame) : State where
  vm := { classes := classes, interned := interned.toArray }
  heap := heap
  slotsUsed := slotsUsed
  threads := #[{ frames := .invoking theMethod args0 :: below }]
def below0 : List Frame := [.native { method := ⟨0, 0⟩, args := #[] }]
def about1 : State := aboutOver below0
def p0 : Program := .bare "" "" ""
def e0 : Env := launch0.env 0 0 0
theorem w_frames : about1.frames = Frame.invoking theMethod args0 :: below0 := rfl
set_option maxRecDepth 65536 in
theorem w_args : argsFit about1.vm theMethod args0 = true := by decide +kernel
set_option maxRecDepth 65536 in
theorem w_heap : heapFits about1 = true := by decide +kernel
set_option maxRecDepth 65536 in
theorem w_runnable : about1.curStatus? = some .runnable := by decide +kernel
set_option maxRecDepth 65536 in
theorem w_alone : about1.alone = true := by decide +kernel
set_option maxRecDepth 65536 in
theorem w_named : about1.methodNamed? x = some theMethod := by decide +kernel
set_option maxRecDepth 65536 in
theorem w_hears : about1.hears theMethod below0 = true := by decide +kernel
set_option maxRecDepth 65536 in
theorem w_ripe : about1.ripe theMethod args0 below0 = true := by decide +kernel
theorem w_running : about1.status = .running := rfl
set_option maxRecDepth 65536 in
theorem w_room : about1.hasRoom e0.platform room_1 = true :=
  launch0.hasRoom_least _ room_1 (by decide +kernel) (by decide +kernel) (by decide +kernel) (by decide +kernel) (by decide +kernel) (by decide +kernel)
theorem allAtoms_all (ts : List Jvm.Cond) (a : Array Jvm.Value) (st : Jvm.State) : (allAtoms ts).before a st = ts.all (fun c => c.before a st) := by
  induction ts with
  | nil => rfl
  | cons c t ih =>
    show (Jvm.Cond.and c (allAtoms t)).before a st = _
    rw [Jvm.Cond.before_and, ih, List.all_cons]
def words1 : List Jvm.Cond := Jvm.Cond.code x code maxLocals ret :: tables_1
/-- a 'code' word, met by the world's own term for the bytes: nothing is compared byte by byte -/
theorem code_word {y : MethodName} {bytes : ByteArray} {mx : Nat} {rt : Option FieldType} {a : Array Value} {s : State} {m : MethodId} {meth : Method} {c : Code} (h1 : s.methodNamed? y = some m) (h2 : s.vm.method? m = some meth) (h3 : meth.code = some c) (h4 : c.code = bytes)
    (h5 : (c.maxLocals == mx && c.exceptionTable.isEmpty && decide (c.maxStack ≤ mostOperands) && decide (meth.sig.returnType = rt) && !meth.locks && decide (parseMethodDescriptor y.desc = some meth.sig)) = true) : (Jvm.Cond.code y bytes mx rt).before a s = true := by
  simp only [Bool.and_eq_true, beq_iff_eq, Bool.not_eq_true', decide_eq_true_eq] at h5
  obtain ⟨⟨⟨⟨⟨g1, g2⟩, g3⟩, g4⟩, g5⟩, g6⟩ := h5
  simp [Cond.before, Cond.holds, Cond.value, h1, h2, h3, h4, g1, g2, g3, g4, g5, g6]
def isCode : Jvm.Cond → Bool
  | .code _ _ _ _ => true
  | _ => false
theorem all_split {L : List Jvm.Cond} {P : Jvm.Cond → Bool} (h1 : L.all (fun c => isCode c || P c) = true) (h2 : ∀ c ∈ L.filter isCode, P c = true) : L.all P = true := by
  refine List.all_eq_true.mpr fun c hc => ?_
  have h := List.all_eq_true.mp h1 c hc
  rcases Bool.eq_false_or_eq_true (isCode c) with hi | hi
  · exact h2 c (List.mem_filter.mpr ⟨hc, hi⟩)
  · simpa [hi] using h
set_option maxRecDepth 65536 in
theorem w_c0 : (Jvm.Cond.code x code maxLocals ret).before args0 about1 = true := code_word (m := ⟨1, 1⟩) (meth := k1m1) (c := k1c1) (by decide +kernel) rfl rfl rfl (by decide +kernel)
set_option maxRecDepth 65536 in
theorem w_c1 : (Jvm.Cond.code ({ cls := "com/example/libaxes/libaxes/tree/NamespaceScope$Declaration", name := "<init>", desc := "(Lcom/example/libaxes/libaxes/tree/Label;I)V" } : Jvm.MethodName) prog_32_method_1_code (3 : Nat) (Option.none : Option Jvm.ClassFile.FieldType)).before args0 about1 = true := code_word (m := ⟨2, 0⟩) (meth := k2m0) (c := k2c0) (by decide +kernel) rfl rfl rfl (by decide +kernel)
set_option maxRecDepth 65536 in
theorem w_c2 : (Jvm.Cond.code ({ cls := "java/lang/Object", name := "<init>", desc := "()V" } : Jvm.MethodName) object_method_1_code (1 : Nat) (Option.none : Option Jvm.ClassFile.FieldType)).before args0 about1 = true := code_word (m := ⟨0, 0⟩) (meth := k0m0) (c := k0c0) (by decide +kernel) rfl rfl rfl (by decide +kernel)
set_option maxRecDepth 65536 in
theorem w_c3 : (Jvm.Cond.code ({ cls := "com/example/libaxes/libaxes/tree/NamespaceScope", name := "ofRoot", desc := "(Lcom/example/libaxes/libaxes/tree/NamespaceScope$Declaration;)Lcom/example/libaxes/libaxes/tree/NamespaceScope;" } : Jvm.MethodName) prog_30_method_2_code (1 : Nat) (Option.some (Jvm.ClassFile.FieldType.object "com/example/libaxes/libaxes/tree/NamespaceScope"))).before args0 about1 = true := code_word (m := ⟨3, 1⟩) (meth := k3m1) (c := k3c1) (by decide +kernel) rfl rfl rfl (by decide +kernel)
set_option maxRecDepth 65536 in
theorem w_c4 : (Jvm.Cond.code ({ cls := "com/example/libaxes/libaxes/tree/NamespaceScope$Binding", name := "bind", desc := "(Lcom/example/libaxes/libaxes/tree/NamespaceScope$Binding;Lcom/example/libaxes/libaxes/tree/NamespaceScope$Declaration;)Lcom/example/libaxes/libaxes/tree/NamespaceScope$Binding;" } : Jvm.MethodName) prog_31_method_3_code (4 : Nat) (Option.some (Jvm.ClassFile.FieldType.object "com/example/libaxes/libaxes/tree/NamespaceScope$Binding"))).before args0 about1 = true := code_word (m := ⟨4, 2⟩) (meth := k4m2) (c := k4c2) (by decide +kernel) rfl rfl rfl (by decide +kernel)
set_option maxRecDepth 65536 in
theorem w_c5 : (Jvm.Cond.code ({ cls := "com/example/libaxes/libaxes/tree/NamespaceScope$Binding", name := "<init>", desc := "(Lcom/example/libaxes/libaxes/tree/NamespaceScope$Binding;Lcom/example/libaxes/libaxes/tree/NamespaceScope$Declaration;Lcom/example/libaxes/libaxes/tree/NamespaceScope$Binding;)V" } : Jvm.MethodName) prog_31_method_1_code (4 : Nat) (Option.none : Option Jvm.ClassFile.FieldType)).before args0 about1 = true := code_word (m := ⟨4, 0⟩) (meth := k4m0) (c := k4c0) (by decide +kernel) rfl rfl rfl (by decide +kernel)
set_option maxRecDepth 65536 in
theorem w_c6 : (Jvm.Cond.code ({ cls := "com/example/libaxes/libaxes/tree/NamespaceScope$Binding", name := "height", desc := "(Lcom/example/libaxes/libaxes/tree/NamespaceScope$Binding;)I" } : Jvm.MethodName) prog_31_method_2_code (1 : Nat) (Option.some Jvm.ClassFile.FieldType.int)).before args0 about1 = true := code_word (m := ⟨4, 1⟩) (meth := k4m1) (c := k4c1) (by decide +kernel) rfl rfl rfl (by decide +kernel)
set_option maxRecDepth 65536 in
theorem w_c7 : (Jvm.Cond.code ({ cls := "java/lang/Math", name := "max", desc := "(II)I" } : Jvm.MethodName) jdk_29_method_65_code (2 : Nat) (Option.some Jvm.ClassFile.FieldType.int)).before args0 about1 = true := code_word (m := ⟨5, 1⟩) (meth := k5m1) (c := k5c1) (by decide +kernel) rfl rfl rfl (by decide +kernel)
set_option maxRecDepth 65536 in
theorem w_c8 : (Jvm.Cond.code ({ cls := "com/example/libaxes/libaxes/tree/NamespaceScope", name := "<init>", desc := "(Lcom/example/libaxes/libaxes/tree/NamespaceScope$Binding;)V" } : Jvm.MethodName) prog_30_method_1_code (2 : Nat) (Option.none : Option Jvm.ClassFile.FieldType)).before args0 about1 = true := code_word (m := ⟨3, 0⟩) (meth := k3m0) (c := k3c0) (by decide +kernel) rfl rfl rfl (by decide +kernel)
set_option maxRecDepth 65536 in
theorem w_c9 : (Jvm.Cond.code ({ cls := "com/example/libaxes/libaxes/tree/ScopeRuns", name := "<init>", desc := "()V" } : Jvm.MethodName) prog_38_method_1_code (1 : Nat) (Option.none : Option Jvm.ClassFile.FieldType)).before args0 about1 = true := code_word (m := ⟨6, 0⟩) (meth := k6m0) (c := k6c0) (by decide +kernel) rfl rfl rfl (by decide +kernel)
set_option maxRecDepth 65536 in
theorem w_c10 : (Jvm.Cond.code ({ cls := "com/example/libaxes/libaxes/tree/ScopeRuns", name := "begin", desc := "(ILcom/example/libaxes/libaxes/tree/NamespaceScope;)V" } : Jvm.MethodName) prog_38_method_2_code (3 : Nat) (Option.none : Option Jvm.ClassFile.FieldType)).before args0 about1 = true := code_word (m := ⟨6, 1⟩) (meth := k6m1) (c := k6c1) (by decide +kernel) rfl rfl rfl (by decide +kernel)
set_option maxRecDepth 65536 in
theorem w_c11 : (Jvm.Cond.code ({ cls := "com/example/libaxes/libaxes/tree/ScopeRuns", name := "at", desc := "(I)Lcom/example/libaxes/libaxes/tree/NamespaceScope;" } : Jvm.MethodName) prog_38_method_3_code (5 : Nat) (Option.some (Jvm.ClassFile.FieldType.object "com/example/libaxes/libaxes/tree/NamespaceScope"))).before args0 about1 = true := code_word (m := ⟨6, 2⟩) (meth := k6m2) (c := k6c2) (by decide +kernel) rfl rfl rfl (by decide +kernel)
def codes1 : List Jvm.Cond := [Jvm.Cond.code x code maxLocals ret, Jvm.Cond.code ({ cls := "com/example/libaxes/libaxes/tree/NamespaceScope$Declaration", name := "<init>", desc := "(Lcom/example/libaxes/libaxes/tree/Label;I)V" } : Jvm.MethodName) prog_32_method_1_code (3 : Nat) (Option.none : Option Jvm.ClassFile.FieldType), Jvm.Cond.code ({ cls := "java/lang/Object", name := "<init>", desc := "()V" } : Jvm.MethodName) object_method_1_code (1 : Nat) (Option.none : Option Jvm.ClassFile.FieldType), Jvm.Cond.code ({ cls := "com/example/libaxes/libaxes/tree/NamespaceScope", name := "ofRoot", desc := "(Lcom/example/libaxes/libaxes/tree/NamespaceScope$Declaration;)Lcom/example/libaxes/libaxes/tree/NamespaceScope;" } : Jvm.MethodName) prog_30_method_2_code (1 : Nat) (Option.some (Jvm.ClassFile.FieldType.object "com/example/libaxes/libaxes/tree/NamespaceScope")), Jvm.Cond.code ({ cls := "com/example/libaxes/libaxes/tree/NamespaceScope$Binding", name := "bind", desc := "(Lcom/example/libaxes/libaxes/tree/NamespaceScope$Binding;Lcom/example/libaxes/libaxes/tree/NamespaceScope$Declaration;)Lcom/example/libaxes/libaxes/tree/NamespaceScope$Binding;" } : Jvm.MethodName) prog_31_method_3_code (4 : Nat) (Option.some (Jvm.ClassFile.FieldType.object "com/example/libaxes/libaxes/tree/NamespaceScope$Binding")), Jvm.Cond.code ({ cls := "com/example/libaxes/libaxes/tree/NamespaceScope$Binding", name := "<init>", desc := "(Lcom/example/libaxes/libaxes/tree/NamespaceScope$Binding;Lcom/example/libaxes/libaxes/tree/NamespaceScope$Declaration;Lcom/example/libaxes/libaxes/tree/NamespaceScope$Binding;)V" } : Jvm.MethodName) prog_31_method_1_code (4 : Nat) (Option.none : Option Jvm.ClassFile.FieldType), Jvm.Cond.code ({ cls := "com/example/libaxes/libaxes/tree/NamespaceScope$Binding", name := "height", desc := "(Lcom/example/libaxes/libaxes/tree/NamespaceScope$Binding;)I" } : Jvm.MethodName) prog_31_method_2_code (1 : Nat) (Option.some Jvm.ClassFile.FieldType.int), Jvm.Cond.code ({ cls := "java/lang/Math", name := "max", desc := "(II)I" } : Jvm.MethodName) jdk_29_method_65_code (2 : Nat) (Option.some Jvm.ClassFile.FieldType.int), Jvm.Cond.code ({ cls := "com/example/libaxes/libaxes/tree/NamespaceScope", name := "<init>", desc := "(Lcom/example/libaxes/libaxes/tree/NamespaceScope$Binding;)V" } : Jvm.MethodName) prog_30_method_1_code (2 : Nat) (Option.none : Option Jvm.ClassFile.FieldType), Jvm.Cond.code ({ cls := "com/example/libaxes/libaxes/tree/ScopeRuns", name := "<init>", desc := "()V" } : Jvm.MethodName) prog_38_method_1_code (1 : Nat) (Option.none : Option Jvm.ClassFile.FieldType), Jvm.Cond.code ({ cls := "com/example/libaxes/libaxes/tree/ScopeRuns", name := "begin", desc := "(ILcom/example/libaxes/libaxes/tree/NamespaceScope;)V" } : Jvm.MethodName) prog_38_method_2_code (3 : Nat) (Option.none : Option Jvm.ClassFile.FieldType), Jvm.Cond.code ({ cls := "com/example/libaxes/libaxes/tree/ScopeRuns", name := "at", desc := "(I)Lcom/example/libaxes/libaxes/tree/NamespaceScope;" } : Jvm.MethodName) prog_38_method_3_code (5 : Nat) (Option.some (Jvm.ClassFile.FieldType.object "com/example/libaxes/libaxes/tree/NamespaceScope"))]
set_option maxRecDepth 65536 in
theorem codes_eq : words1.filter isCode = codes1 := rfl
theorem w_codes : ∀ c ∈ words1.filter isCode, c.before args0 about1 = true := by
  rw [codes_eq]
  intro c hc
  simp only [codes1, List.mem_cons, List.not_mem_nil, or_false] at hc
  rcases hc with rfl | rfl | rfl | rfl | rfl | rfl | rfl | rfl | rfl | rfl | rfl | rfl
  · exact w_c0
  · exact w_c1
  · exact w_c2
  · exact w_c3
  · exact w_c4
  · exact w_c5
  · exact w_c6
  · exact w_c7
  · exact w_c8
  · exact w_c9
  · exact w_c10
  · exact w_c11
set_option maxRecDepth 65536 in
theorem w_t1 : (words1.take 24).all (fun c => isCode c || c.before args0 about1) = true := by decide +kernel
set_option maxRecDepth 65536 in
theorem w_t2 : ((words1.drop 24).take 24).all (fun c => isCode c || c.before args0 about1) = true := by decide +kernel
set_option maxRecDepth 65536 in
theorem w_t3 : (((words1.drop 24).drop 24).take 24).all (fun c => isCode c || c.before args0 about1) = true := by decide +kernel
set_option maxRecDepth 65536 in
theorem w_t4 : (((words1.drop 24).drop 24).drop 24).all (fun c => isCode c || c.before args0 about1) = true := by decide +kernel
theorem w_tables : (allAtoms (Jvm.Cond.code x code maxLocals ret :: tables_1)).before args0 about1 = true := by
  rw [allAtoms_all]
  show words1.all (fun c => c.before args0 about1) = true
  refine all_split ?_ w_codes
  rw [← List.take_append_drop 24 words1, List.all_append, w_t1, ← List.take_append_drop 24 (words1.drop 24), List.all_append, w_t2, ← List.take_append_drop 24 ((words1.drop 24).drop 24), List.all_append, w_t3, w_t4]
  rfl
set_option maxRecDepth 65536 in
theorem w_case : (Jvm.Cond.and given_1 narrow_1).before args0 about1 = true := by decide +kernel
theorem w_applies : (headSpec (Jvm.Cond.code x code maxLocals ret :: tables_1) room_1).applies x e0.platform about1 = true :=
  (Spec.applies_iff w_frames).mpr ⟨w_running, w_runnable, w_alone, w_named, w_hears, w_ripe, w_room, w_tables⟩
theorem atStart : AtStart classFile x code maxLocals ret World_1 tables_1 room_1 Calls_1 rest_1 Pre_1 launch0 p0 e0 about1 theMethod args0 below0 :=
  ⟨lists_1, trivial, launch0.admits_env _ _ _, launch0.least_env, fairChoices_fair.cas, fairChoices_fair.clock, w_frames, w_args, w_heap, w_applies, trivial, trivial, w_case⟩
end start1
theorem witness_1 : WitnessClaimed_1 := ⟨start1.p0, start1.e0, start1.about1, start1.theMethod, start1.args0, start1.below0, start1.atStart⟩
end Jvm.Pilot.@@N@@
