import JvmDerived
import JvmDerived.Pilot.@@N@@Statement
import JvmDerived.Pilot.@@N@@Code
set_option linter.unusedVariables false
set_option linter.unusedSimpArgs false

namespace Jvm.Pilot.@@N@@
open Jvm Jvm.ClassFile Sem Op Lib Jvm.Free Jvm.Stand Jvm.LawKit Jvm.RoadKit Bundle Jvm.Pilot.@@N@@.Jvm.D
/-! ## own kit: a walk forwards, in small words -/
abbrev owK : Type := Program × Env × State × MethodId × Array Value × List Frame × Method × Code
abbrev owp (k : owK) : Program := k.1
abbrev owe (k : owK) : Env := k.2.1
abbrev ows (k : owK) : State := k.2.2.1
abbrev owm (k : owK) : MethodId := k.2.2.2.1
abbrev owa (k : owK) : Array Value := k.2.2.2.2.1
abbrev owb (k : owK) : List Frame := k.2.2.2.2.2.1
abbrev owM (k : owK) : Method := k.2.2.2.2.2.2.1
abbrev owc (k : owK) : Code := k.2.2.2.2.2.2.2
/-- what stands fast through a body -/
def owC (Z : State) (y : MethodName) (B : ByteArray) (ml : Nat) (rt : Option FieldType) (k : owK) : Prop :=
  (owp k).tables.exec = Jvm.exec ∧ Z.Warmed39 (ows k).vm ∧ (ows k).vm.findClass y.cls = some (owm k).cls ∧ (owc k).code = B ∧ (owc k).maxLocals = ml ∧ (owM k).name = y.name ∧ (owM k).sig.returnType = rt ∧ (owM k).locks = false
/-- where the walk stands: the state T with the heap h; cc cells and ss slots made so far; all writes at or above n0 -/
def Sd (l : Launch) (Z : State) (n0 : Nat) (y : MethodName) (B : ByteArray) (ml : Nat) (rt : Option FieldType) (R : Room) (k : owK) (T : State) (h : Heap) (cc ss : Nat) : Prop :=
  (∃ locs, Stand (owp k) l (owe k) R (ows k) (owm k) (owa k) (owb k) (owM k) (owc k) T locs cc ss ∧ Fr n0 locs) ∧ T.heap = h ∧ owC Z y B ml rt k
/-- from here the walk ends, as Q says -/
def Go (k : owK) (n0 : Nat) (Q : Option Value → Heap → Prop) (kc ks : Nat) (T : State) (pc : Nat) (Ls : Array Slot) (st : List Value) : Prop :=
  ∃ s₂ o, Steps (owp k).tables (owe k) (owb k) (T.setTop (mkF (owm k) pc Ls st)) s₂ ∧ s₂.status = .running ∧ Ended s₂ (owb k) o ∧ ∃ v L, o = .returned v ∧ (Fr n0 L ∧ Q v s₂.heap) ∧ FrameEnd (ows k) o s₂ L kc ks
/-- the contract of a body -/
def Met (l : Launch) (Z : State) (n0 : Nat) (y : MethodName) (B : ByteArray) (ml : Nat) (rt : Option FieldType) (ws : List Jvm.Cond) (R : Room) (as : Array Value) (h0 : Heap) (Q : Option Value → Heap → Prop) (kc ks : Nat) : Prop :=
  MetFree l y (head1 (Jvm.Cond.code y B ml rt :: ws) R) (fun a U => a = as ∧ Z.Warmed39 U.vm ∧ U.heap = h0) (fun _ _ _ _ _ => True) (fun _ U o U' => ∃ v L, o = .returned v ∧ (Fr n0 L ∧ Q v U'.heap) ∧ FrameEnd U o U' L kc ks)
section Ow
variable {l : Launch} {Z : State} {n0 : Nat} {y : MethodName} {B : ByteArray} {ml : Nat} {rt : Option FieldType} {R : Room} {k : owK} {T : State} {h : Heap} {cc ss : Nat} {Q : Option Value → Heap → Prop} {kc ks : Nat} {pc : Nat} {Ls : Array Slot} {st : List Value} {a0 : Array Value}
theorem Met.of {ws : List Jvm.Cond} {as : Array Value} {h0 : Heap} {Ls : Array Slot} (hp : Jvm.plainFor y = true) (hef : Jvm.Sym.laidSlots as.toList ++ List.replicate (ml - (Jvm.Sym.laidSlots as.toList).length) .unset = Ls.toList) (body : ∀ k T, Sd l Z n0 y B ml rt R k T h0 0 0 → Go k n0 Q kc ks T 0 Ls []) : Met l Z n0 y B ml rt ws R as h0 Q kc ks := by
  refine MetFree.of_bodySF hp hisR ?_
  intro p e s m args below meth c s₁ Bd hml hP hK
  obtain ⟨rfl, hZ, hh⟩ := hP
  have hown : s.vm.findClass y.cls = some m.cls := findClass_of_methodNamed Bd.named
  have hnm := (name_of_methodNamed Bd.named Bd.method).1
  have X0 : Stand p l e R s m args below meth c s₁ [] 0 0 := Stand.of_body Bd
  have e0 : s₁.heap = h0 := by rw [← hh, Bd.state]; rfl
  obtain ⟨s2, o, h1, h2, h3, h4⟩ := body (p, e, s, m, args, below, meth, c) s₁ ⟨⟨[], X0, Fr.nil n0⟩, e0, Bd.exec, hZ, hown, Bd.bytes, hml, hnm, Bd.returns, Bd.notSynchronized⟩
  exact ⟨s2, o, (XT.entry hef).trans h1, h2, h3, h4⟩
theorem Go.of {T T' : State} {pc' : Nat} {Ls' : Array Slot} {st' : List Value} (K : Go k n0 Q kc ks T' pc' Ls' st') (f : ∀ t, Steps (owp k).tables (owe k) (owb k) (T'.setTop (mkF (owm k) pc' Ls' st')) t → Steps (owp k).tables (owe k) (owb k) (T.setTop (mkF (owm k) pc Ls st)) t) : Go k n0 Q kc ks T pc Ls st := by
  obtain ⟨s2, o, h1, h2⟩ := K; exact ⟨s2, o, f _ h1, h2⟩
theorem Go.end {v : Option Value} (X : Sd l Z n0 y B ml rt R k T h cc ss) (hk : cc ≤ kc) (hs : ss ≤ ks) (hv : rt = none → v = none) (f : ∀ fs, (∀ (f : JFrame) (acts : List Action), f.method = owm k → f.locked = none → f.entered = [] → (doReturn (owe k) (T.setTop f) acts v).1 = T.setFrames fs) → Steps (owp k).tables (owe k) (owb k) (T.setTop (mkF (owm k) pc Ls st)) (T.setFrames fs)) (hQ : Q v h) : Go k n0 Q kc ks T pc Ls st := by
  obtain ⟨⟨locs, X, N⟩, rfl, hx, hZ, hown, hby, hml, hnm, hrt, hlk⟩ := X
  obtain ⟨fs, hr, hrun, hended, hW, hsame⟩ := X.leave (v := v) (fun q => hv (by rw [← hrt]; exact q)) hlk
  exact ⟨_, _, f fs hr, hrun, hended, _, _, rfl, ⟨N, hQ⟩, ⟨_, rfl⟩, hW, hsame.mono hk hs⟩
theorem Sd.hh (X : Sd l Z n0 y B ml rt R k T h cc ss) : At T (owm k) (owc k) (owb k) := by obtain ⟨⟨_, X, _⟩, _⟩ := X; exact X.here
theorem Sd.x (X : Sd l Z n0 y B ml rt R k T h cc ss) : (owp k).tables.exec = Jvm.exec := X.2.2.1
theorem Sd.d (X : Sd l Z n0 y B ml rt R k T h cc ss) {pc : Nat} {r : Except ClassFile.DecodeError (ClassFile.Instr × Nat)} (hd : decode B pc = r) : decode (owc k).code pc = r := hb X.2.2.2.2.2.1 hd
theorem Sd.heap (X : Sd l Z n0 y B ml rt R k T h cc ss) : T.heap = h := X.2.1
/-! loads, stores, constants -/
theorem g_aloadN (X : Sd l Z n0 y B ml rt R k T h cc ss) {i : Fin 4} {v : Value} (hd : decode B pc = .ok (.aload_n i, 1)) (hl : Ls[i.val]? = some (.val v)) (hv : v.isRef = true) (pc' : Nat) (hp : pc + 1 = pc') (K : Go k n0 Q kc ks T pc' Ls (v :: st)) : Go k n0 Q kc ks T pc Ls st := by subst hp; exact K.of fun _ q => XS.aloadN X.hh X.x rfl (X.d hd) hl hv q
theorem g_aload (X : Sd l Z n0 y B ml rt R k T h cc ss) {i : Nat} {v : Value} (hd : decode B pc = .ok (.aload i, 2)) (hl : Ls[i]? = some (.val v)) (hv : v.isRef = true) (pc' : Nat) (hp : pc + 2 = pc') (K : Go k n0 Q kc ks T pc' Ls (v :: st)) : Go k n0 Q kc ks T pc Ls st := by subst hp; exact K.of fun _ q => XS.aload X.hh X.x rfl (X.d hd) hl hv q
theorem g_iloadN (X : Sd l Z n0 y B ml rt R k T h cc ss) {i : Fin 4} {v : Int32} (hd : decode B pc = .ok (.iload_n i, 1)) (hl : Ls[i.val]? = some (.val (.int v))) (pc' : Nat) (hp : pc + 1 = pc') (K : Go k n0 Q kc ks T pc' Ls (.int v :: st)) : Go k n0 Q kc ks T pc Ls st := by subst hp; exact K.of fun _ q => XS.iloadN X.hh X.x rfl (X.d hd) hl q
theorem g_iload (X : Sd l Z n0 y B ml rt R k T h cc ss) {i : Nat} {v : Int32} (hd : decode B pc = .ok (.iload i, 2)) (hl : Ls[i]? = some (.val (.int v))) (pc' : Nat) (hp : pc + 2 = pc') (K : Go k n0 Q kc ks T pc' Ls (.int v :: st)) : Go k n0 Q kc ks T pc Ls st := by subst hp; exact K.of fun _ q => XS.iload X.hh X.x rfl (X.d hd) hl q
theorem g_lloadN (X : Sd l Z n0 y B ml rt R k T h cc ss) {i : Fin 4} {v : Int64} (hd : decode B pc = .ok (.lload_n i, 1)) (hl : Ls[i.val]? = some (.val (.long v))) (pc' : Nat) (hp : pc + 1 = pc') (K : Go k n0 Q kc ks T pc' Ls (.long v :: st)) : Go k n0 Q kc ks T pc Ls st := by subst hp; exact K.of fun _ q => XT.lloadN X.hh X.x rfl (X.d hd) hl q
theorem g_lload (X : Sd l Z n0 y B ml rt R k T h cc ss) {i : Nat} {v : Int64} (hd : decode B pc = .ok (.lload i, 2)) (hl : Ls[i]? = some (.val (.long v))) (pc' : Nat) (hp : pc + 2 = pc') (K : Go k n0 Q kc ks T pc' Ls (.long v :: st)) : Go k n0 Q kc ks T pc Ls st := by subst hp; exact K.of fun _ q => XT.lload X.hh X.x rfl (X.d hd) hl q
theorem g_istoreN (X : Sd l Z n0 y B ml rt R k T h cc ss) {i : Fin 4} {v : Int32} (hd : decode B pc = .ok (.istore_n i, 1)) (L' : Array Slot) (hl : storeLocals Ls i.val (.int v) = some L') (pc' : Nat) (hp : pc + 1 = pc') (K : Go k n0 Q kc ks T pc' L' st) : Go k n0 Q kc ks T pc Ls (.int v :: st) := by subst hp; exact K.of fun _ q => XS.istoreN X.hh X.x rfl (X.d hd) rfl hl q
theorem g_istore (X : Sd l Z n0 y B ml rt R k T h cc ss) {i : Nat} {v : Int32} (hd : decode B pc = .ok (.istore i, 2)) (L' : Array Slot) (hl : storeLocals Ls i (.int v) = some L') (pc' : Nat) (hp : pc + 2 = pc') (K : Go k n0 Q kc ks T pc' L' st) : Go k n0 Q kc ks T pc Ls (.int v :: st) := by subst hp; exact K.of fun _ q => XS.istore X.hh X.x rfl (X.d hd) rfl hl q
theorem g_lstoreN (X : Sd l Z n0 y B ml rt R k T h cc ss) {i : Fin 4} {v : Int64} (hd : decode B pc = .ok (.lstore_n i, 1)) (L' : Array Slot) (hl : storeLocals Ls i.val (.long v) = some L') (pc' : Nat) (hp : pc + 1 = pc') (K : Go k n0 Q kc ks T pc' L' st) : Go k n0 Q kc ks T pc Ls (.long v :: st) := by subst hp; exact K.of fun _ q => XT.lstoreN X.hh X.x rfl (X.d hd) rfl hl q
theorem g_lstore (X : Sd l Z n0 y B ml rt R k T h cc ss) {i : Nat} {v : Int64} (hd : decode B pc = .ok (.lstore i, 2)) (L' : Array Slot) (hl : storeLocals Ls i (.long v) = some L') (pc' : Nat) (hp : pc + 2 = pc') (K : Go k n0 Q kc ks T pc' L' st) : Go k n0 Q kc ks T pc Ls (.long v :: st) := by subst hp; exact K.of fun _ q => XT.lstore X.hh X.x rfl (X.d hd) rfl hl q
theorem g_astoreN (X : Sd l Z n0 y B ml rt R k T h cc ss) {i : Fin 4} {v : Value} (hd : decode B pc = .ok (.astore_n i, 1)) (hv : v.isRef = true) (L' : Array Slot) (hl : storeLocals Ls i.val v = some L') (pc' : Nat) (hp : pc + 1 = pc') (K : Go k n0 Q kc ks T pc' L' st) : Go k n0 Q kc ks T pc Ls (v :: st) := by subst hp; exact K.of fun _ q => XS.astoreN X.hh X.x rfl (X.d hd) rfl hv hl q
theorem g_astore (X : Sd l Z n0 y B ml rt R k T h cc ss) {i : Nat} {v : Value} (hd : decode B pc = .ok (.astore i, 2)) (hv : v.isRef = true) (L' : Array Slot) (hl : storeLocals Ls i v = some L') (pc' : Nat) (hp : pc + 2 = pc') (K : Go k n0 Q kc ks T pc' L' st) : Go k n0 Q kc ks T pc Ls (v :: st) := by subst hp; exact K.of fun _ q => XS.astore X.hh X.x rfl (X.d hd) rfl hv hl q
theorem g_iconst (X : Sd l Z n0 y B ml rt R k T h cc ss) {i : Int} (v : Int32) (hd : decode B pc = .ok (.iconst i, 1)) (hv : Int32.ofInt i = v) (pc' : Nat) (hp : pc + 1 = pc') (K : Go k n0 Q kc ks T pc' Ls (.int v :: st)) : Go k n0 Q kc ks T pc Ls st := by subst hp; exact K.of fun _ q => XT.iconstV X.hh X.x rfl v (X.d hd) hv q
theorem g_bipush (X : Sd l Z n0 y B ml rt R k T h cc ss) {i : Int} (v : Int32) (hd : decode B pc = .ok (.bipush i, 2)) (hv : (Int8.ofInt i).toInt32 = v) (pc' : Nat) (hp : pc + 2 = pc') (K : Go k n0 Q kc ks T pc' Ls (.int v :: st)) : Go k n0 Q kc ks T pc Ls st := by subst hp; exact K.of fun _ q => XT.bipushV X.hh X.x rfl v (X.d hd) hv q
theorem g_sipush (X : Sd l Z n0 y B ml rt R k T h cc ss) {i : Int} (v : Int32) (hd : decode B pc = .ok (.sipush i, 3)) (hv : (Int16.ofInt i).toInt32 = v) (pc' : Nat) (hp : pc + 3 = pc') (K : Go k n0 Q kc ks T pc' Ls (.int v :: st)) : Go k n0 Q kc ks T pc Ls st := by subst hp; exact K.of fun _ q => XT.sipushV X.hh X.x rfl v (X.d hd) hv q
theorem g_lconst (X : Sd l Z n0 y B ml rt R k T h cc ss) {i : Fin 2} (v : Int64) (hd : decode B pc = .ok (.lconst i, 1)) (hv : Int64.ofNat i = v) (pc' : Nat) (hp : pc + 1 = pc') (K : Go k n0 Q kc ks T pc' Ls (.long v :: st)) : Go k n0 Q kc ks T pc Ls st := by subst hp; exact K.of fun _ q => XT.lconstV X.hh X.x rfl v (X.d hd) hv q
theorem g_null (X : Sd l Z n0 y B ml rt R k T h cc ss) (hd : decode B pc = .ok (.aconst_null, 1)) (pc' : Nat) (hp : pc + 1 = pc') (K : Go k n0 Q kc ks T pc' Ls (.null :: st)) : Go k n0 Q kc ks T pc Ls st := by subst hp; exact K.of fun _ q => XS.aconstNull X.hh X.x rfl (X.d hd) q
theorem g_iinc (X : Sd l Z n0 y B ml rt R k T h cc ss) {i : Nat} {cst : Int} {x : Int32} (v : Int32) (hd : decode B pc = .ok (.iinc i cst, 3)) (hv : Int32.ofInt cst = v) (hl : Ls[i]? = some (.val (.int x))) (L' : Array Slot) (hl' : storeLocals Ls i (.int (x + v)) = some L') (pc' : Nat) (hp : pc + 3 = pc') (K : Go k n0 Q kc ks T pc' L' st) : Go k n0 Q kc ks T pc Ls st := by subst hp; exact K.of fun _ q => XT.iincV X.hh X.x rfl v (X.d hd) hv hl hl' q
/-! arithmetic -/
theorem g_iadd (X : Sd l Z n0 y B ml rt R k T h cc ss) {a b : Int32} (hd : decode B pc = .ok (.iadd, 1)) (pc' : Nat) (hp : pc + 1 = pc') (K : Go k n0 Q kc ks T pc' Ls (.int (a + b) :: st)) : Go k n0 Q kc ks T pc Ls (.int b :: .int a :: st) := by subst hp; exact K.of fun _ q => XS.iadd X.hh X.x rfl (X.d hd) rfl q
theorem g_isub (X : Sd l Z n0 y B ml rt R k T h cc ss) {a b : Int32} (hd : decode B pc = .ok (.isub, 1)) (pc' : Nat) (hp : pc + 1 = pc') (K : Go k n0 Q kc ks T pc' Ls (.int (a - b) :: st)) : Go k n0 Q kc ks T pc Ls (.int b :: .int a :: st) := by subst hp; exact K.of fun _ q => XS.isub X.hh X.x rfl (X.d hd) rfl q
theorem g_imul (X : Sd l Z n0 y B ml rt R k T h cc ss) {a b : Int32} (hd : decode B pc = .ok (.imul, 1)) (pc' : Nat) (hp : pc + 1 = pc') (K : Go k n0 Q kc ks T pc' Ls (.int (a * b) :: st)) : Go k n0 Q kc ks T pc Ls (.int b :: .int a :: st) := by subst hp; exact K.of fun _ q => XS.imul X.hh X.x rfl (X.d hd) rfl q
theorem g_idiv (X : Sd l Z n0 y B ml rt R k T h cc ss) {a b : Int32} (hd : decode B pc = .ok (.idiv, 1)) (hb : b ≠ 0) (pc' : Nat) (hp : pc + 1 = pc') (K : Go k n0 Q kc ks T pc' Ls (.int (a / b) :: st)) : Go k n0 Q kc ks T pc Ls (.int b :: .int a :: st) := by subst hp; exact K.of fun _ q => XS.idiv X.hh X.x rfl (X.d hd) rfl hb q
theorem g_irem (X : Sd l Z n0 y B ml rt R k T h cc ss) {a b : Int32} (hd : decode B pc = .ok (.irem, 1)) (hb : b ≠ 0) (pc' : Nat) (hp : pc + 1 = pc') (K : Go k n0 Q kc ks T pc' Ls (.int (a % b) :: st)) : Go k n0 Q kc ks T pc Ls (.int b :: .int a :: st) := by
  subst hp; obtain ⟨⟨locs, Y, N⟩, eh, hc⟩ := X
  exact K.of fun _ q => iremM Y hc.1 (g := mkF (owm k) pc Ls (.int b :: .int a :: st)) rfl (Jvm.hb hc.2.2.2.1 hd) rfl hb q
theorem g_iand (X : Sd l Z n0 y B ml rt R k T h cc ss) {a b : Int32} (hd : decode B pc = .ok (.iand, 1)) (pc' : Nat) (hp : pc + 1 = pc') (K : Go k n0 Q kc ks T pc' Ls (.int (a &&& b) :: st)) : Go k n0 Q kc ks T pc Ls (.int b :: .int a :: st) := by subst hp; exact K.of fun _ q => XS.iand X.hh X.x rfl (X.d hd) rfl q
theorem g_ior (X : Sd l Z n0 y B ml rt R k T h cc ss) {a b : Int32} (hd : decode B pc = .ok (.ior, 1)) (pc' : Nat) (hp : pc + 1 = pc') (K : Go k n0 Q kc ks T pc' Ls (.int (a ||| b) :: st)) : Go k n0 Q kc ks T pc Ls (.int b :: .int a :: st) := by subst hp; exact K.of fun _ q => XS.ior X.hh X.x rfl (X.d hd) rfl q
theorem g_ixor (X : Sd l Z n0 y B ml rt R k T h cc ss) {a b : Int32} (hd : decode B pc = .ok (.ixor, 1)) (pc' : Nat) (hp : pc + 1 = pc') (K : Go k n0 Q kc ks T pc' Ls (.int (a ^^^ b) :: st)) : Go k n0 Q kc ks T pc Ls (.int b :: .int a :: st) := by subst hp; exact K.of fun _ q => XS.ixor X.hh X.x rfl (X.d hd) rfl q
theorem g_ishl (X : Sd l Z n0 y B ml rt R k T h cc ss) {a b : Int32} (hd : decode B pc = .ok (.ishl, 1)) (pc' : Nat) (hp : pc + 1 = pc') (K : Go k n0 Q kc ks T pc' Ls (.int (a <<< (b &&& 31)) :: st)) : Go k n0 Q kc ks T pc Ls (.int b :: .int a :: st) := by subst hp; exact K.of fun _ q => XS.ishl X.hh X.x rfl (X.d hd) rfl q
theorem g_ishr (X : Sd l Z n0 y B ml rt R k T h cc ss) {a b : Int32} (hd : decode B pc = .ok (.ishr, 1)) (pc' : Nat) (hp : pc + 1 = pc') (K : Go k n0 Q kc ks T pc' Ls (.int (a >>> (b &&& 31)) :: st)) : Go k n0 Q kc ks T pc Ls (.int b :: .int a :: st) := by subst hp; exact K.of fun _ q => XS.ishr X.hh X.x rfl (X.d hd) rfl q
theorem g_iushr (X : Sd l Z n0 y B ml rt R k T h cc ss) {a b : Int32} (hd : decode B pc = .ok (.iushr, 1)) (pc' : Nat) (hp : pc + 1 = pc') (K : Go k n0 Q kc ks T pc' Ls (.int ((a.toUInt32 >>> (b &&& 31).toUInt32).toInt32) :: st)) : Go k n0 Q kc ks T pc Ls (.int b :: .int a :: st) := by subst hp; exact K.of fun _ q => XS.iushr X.hh X.x rfl (X.d hd) rfl q
theorem g_ineg (X : Sd l Z n0 y B ml rt R k T h cc ss) {a : Int32} (hd : decode B pc = .ok (.ineg, 1)) (pc' : Nat) (hp : pc + 1 = pc') (K : Go k n0 Q kc ks T pc' Ls (.int (-a) :: st)) : Go k n0 Q kc ks T pc Ls (.int a :: st) := by subst hp; exact K.of fun _ q => XS.ineg X.hh X.x rfl (X.d hd) rfl q
theorem g_ladd (X : Sd l Z n0 y B ml rt R k T h cc ss) {a b : Int64} (hd : decode B pc = .ok (.ladd, 1)) (pc' : Nat) (hp : pc + 1 = pc') (K : Go k n0 Q kc ks T pc' Ls (.long (a + b) :: st)) : Go k n0 Q kc ks T pc Ls (.long b :: .long a :: st) := by subst hp; exact K.of fun _ q => XS.ladd X.hh X.x rfl (X.d hd) rfl q
theorem g_lsub (X : Sd l Z n0 y B ml rt R k T h cc ss) {a b : Int64} (hd : decode B pc = .ok (.lsub, 1)) (pc' : Nat) (hp : pc + 1 = pc') (K : Go k n0 Q kc ks T pc' Ls (.long (a - b) :: st)) : Go k n0 Q kc ks T pc Ls (.long b :: .long a :: st) := by subst hp; exact K.of fun _ q => XS.lsub X.hh X.x rfl (X.d hd) rfl q
theorem g_land (X : Sd l Z n0 y B ml rt R k T h cc ss) {a b : Int64} (hd : decode B pc = .ok (.land, 1)) (pc' : Nat) (hp : pc + 1 = pc') (K : Go k n0 Q kc ks T pc' Ls (.long (a &&& b) :: st)) : Go k n0 Q kc ks T pc Ls (.long b :: .long a :: st) := by subst hp; exact K.of fun _ q => XS.land X.hh X.x rfl (X.d hd) rfl q
theorem g_lushr (X : Sd l Z n0 y B ml rt R k T h cc ss) {a : Int64} {b : Int32} (hd : decode B pc = .ok (.lushr, 1)) (pc' : Nat) (hp : pc + 1 = pc') (K : Go k n0 Q kc ks T pc' Ls (.long ((a.toUInt64 >>> (b &&& 0x3f).toInt64.toUInt64).toInt64) :: st)) : Go k n0 Q kc ks T pc Ls (.int b :: .long a :: st) := by subst hp; exact K.of fun _ q => XS.lushr X.hh X.x rfl (X.d hd) rfl q
theorem g_i2l (X : Sd l Z n0 y B ml rt R k T h cc ss) {a : Int32} (hd : decode B pc = .ok (.i2l, 1)) (pc' : Nat) (hp : pc + 1 = pc') (K : Go k n0 Q kc ks T pc' Ls (.long a.toInt64 :: st)) : Go k n0 Q kc ks T pc Ls (.int a :: st) := by subst hp; exact K.of fun _ q => XS.i2l X.hh X.x rfl (X.d hd) rfl q
theorem g_l2i (X : Sd l Z n0 y B ml rt R k T h cc ss) {a : Int64} (hd : decode B pc = .ok (.l2i, 1)) (pc' : Nat) (hp : pc + 1 = pc') (K : Go k n0 Q kc ks T pc' Ls (.int a.toInt32 :: st)) : Go k n0 Q kc ks T pc Ls (.long a :: st) := by subst hp; exact K.of fun _ q => XS.l2i X.hh X.x rfl (X.d hd) rfl q
theorem g_i2b (X : Sd l Z n0 y B ml rt R k T h cc ss) {a : Int32} (hd : decode B pc = .ok (.i2b, 1)) (pc' : Nat) (hp : pc + 1 = pc') (K : Go k n0 Q kc ks T pc' Ls (.int a.toInt8.toInt32 :: st)) : Go k n0 Q kc ks T pc Ls (.int a :: st) := by subst hp; exact K.of fun _ q => XS.i2b X.hh X.x rfl (X.d hd) rfl q
theorem g_i2c (X : Sd l Z n0 y B ml rt R k T h cc ss) {a : Int32} (hd : decode B pc = .ok (.i2c, 1)) (pc' : Nat) (hp : pc + 1 = pc') (K : Go k n0 Q kc ks T pc' Ls (.int a.toUInt32.toUInt16.toUInt32.toInt32 :: st)) : Go k n0 Q kc ks T pc Ls (.int a :: st) := by subst hp; exact K.of fun _ q => XS.i2c X.hh X.x rfl (X.d hd) rfl q
theorem g_lcmp (X : Sd l Z n0 y B ml rt R k T h cc ss) {a b : Int64} (hd : decode B pc = .ok (.lcmp, 1)) (pc' : Nat) (hp : pc + 1 = pc') (K : Go k n0 Q kc ks T pc' Ls (.int (XT.cmpL a b) :: st)) : Go k n0 Q kc ks T pc Ls (.long b :: .long a :: st) := by subst hp; exact K.of fun _ q => XT.lcmp X.hh X.x rfl (X.d hd) rfl q
/-! the stack -/
theorem g_dup (X : Sd l Z n0 y B ml rt R k T h cc ss) {v : Value} (hd : decode B pc = .ok (.dup, 1)) (hc : v.category = 1) (pc' : Nat) (hp : pc + 1 = pc') (K : Go k n0 Q kc ks T pc' Ls (v :: v :: st)) : Go k n0 Q kc ks T pc Ls (v :: st) := by subst hp; exact K.of fun _ q => XS.dup X.hh X.x rfl (X.d hd) rfl hc q
theorem g_pop (X : Sd l Z n0 y B ml rt R k T h cc ss) {v : Value} (hd : decode B pc = .ok (.pop, 1)) (hc : v.category = 1) (pc' : Nat) (hp : pc + 1 = pc') (K : Go k n0 Q kc ks T pc' Ls st) : Go k n0 Q kc ks T pc Ls (v :: st) := by subst hp; exact K.of fun _ q => XS.pop X.hh X.x rfl (X.d hd) rfl hc q
theorem g_dupX1 (X : Sd l Z n0 y B ml rt R k T h cc ss) {v w : Value} (hd : decode B pc = .ok (.dup_x1, 1)) (hc : v.category = 1) (hc2 : w.category = 1) (pc' : Nat) (hp : pc + 1 = pc') (K : Go k n0 Q kc ks T pc' Ls (v :: w :: v :: st)) : Go k n0 Q kc ks T pc Ls (v :: w :: st) := by subst hp; exact K.of fun _ q => XS.dupX1 X.hh X.x rfl (X.d hd) rfl hc hc2 q
theorem g_dup2 (X : Sd l Z n0 y B ml rt R k T h cc ss) {v w : Value} (hd : decode B pc = .ok (.dup2, 1)) (hc : v.category = 1) (hc2 : w.category = 1) (pc' : Nat) (hp : pc + 1 = pc') (K : Go k n0 Q kc ks T pc' Ls (v :: w :: v :: w :: st)) : Go k n0 Q kc ks T pc Ls (v :: w :: st) := by subst hp; exact K.of fun _ q => XT.dup2 X.hh X.x rfl (X.d hd) rfl hc hc2 q
/-! jumps -/
theorem g_goto (X : Sd l Z n0 y B ml rt R k T h cc ss) {o : Int} (hd : decode B pc = .ok (.goto o, 3)) (pc' : Nat) (ho : 0 ≤ (pc : Int) + o) (hp : ((pc : Int) + o).toNat = pc') (K : Go k n0 Q kc ks T pc' Ls st) : Go k n0 Q kc ks T pc Ls st := K.of fun _ q => XS.goto X.hh X.x rfl rfl (X.d hd) ho hp q
theorem g_if (X : Sd l Z n0 y B ml rt R k T h cc ss) {cd : ClassFile.Cond} {a : Int32} {o : Int} {C : Prop} (hc : ifCond.holds cd a = true ↔ C) (hd : decode B pc = .ok (.ifCond cd o, 3)) (pT : Nat) (ho : 0 ≤ (pc : Int) + o) (hT : ((pc : Int) + o).toNat = pT) (pF : Nat) (hF : pc + 3 = pF) (K1 : C → Go k n0 Q kc ks T pT Ls st) (K2 : ¬ C → Go k n0 Q kc ks T pF Ls st) : Go k n0 Q kc ks T pc Ls (.int a :: st) := by
  subst hF
  cases q : ifCond.holds cd a with
  | true => exact (K1 (hc.mp q)).of fun _ z => XS.ifYes X.hh X.x rfl rfl (X.d hd) rfl q ho hT z
  | false => exact (K2 (fun z => by rw [hc.mpr z] at q; cases q)).of fun _ z => XS.ifNo X.hh X.x rfl (X.d hd) rfl q z
theorem g_icmp (X : Sd l Z n0 y B ml rt R k T h cc ss) {cd : ClassFile.Cond} {a b : Int32} {o : Int} {C : Prop} (hc : if_icmp.holds cd a b = true ↔ C) (hd : decode B pc = .ok (.if_icmp cd o, 3)) (pT : Nat) (ho : 0 ≤ (pc : Int) + o) (hT : ((pc : Int) + o).toNat = pT) (pF : Nat) (hF : pc + 3 = pF) (K1 : C → Go k n0 Q kc ks T pT Ls st) (K2 : ¬ C → Go k n0 Q kc ks T pF Ls st) : Go k n0 Q kc ks T pc Ls (.int b :: .int a :: st) := by
  subst hF
  cases q : if_icmp.holds cd a b with
  | true => exact (K1 (hc.mp q)).of fun _ z => XS.icmpYes X.hh X.x rfl rfl (X.d hd) rfl q ho hT z
  | false => exact (K2 (fun z => by rw [hc.mpr z] at q; cases q)).of fun _ z => XS.icmpNo X.hh X.x rfl (X.d hd) rfl q z
/-- the same, told the other way round: the jump is taken where C fails -/
theorem g_ifN (X : Sd l Z n0 y B ml rt R k T h cc ss) {cd : ClassFile.Cond} {a : Int32} {o : Int} {C : Prop} (hc : ifCond.holds cd a = true ↔ ¬ C) (hd : decode B pc = .ok (.ifCond cd o, 3)) (pT : Nat) (ho : 0 ≤ (pc : Int) + o) (hT : ((pc : Int) + o).toNat = pT) (pF : Nat) (hF : pc + 3 = pF) (K1 : C → Go k n0 Q kc ks T pF Ls st) (K2 : ¬ C → Go k n0 Q kc ks T pT Ls st) : Go k n0 Q kc ks T pc Ls (.int a :: st) :=
  g_if X hc hd pT ho hT pF hF K2 fun q => K1 (Classical.not_not.mp q)
theorem g_icmpN (X : Sd l Z n0 y B ml rt R k T h cc ss) {cd : ClassFile.Cond} {a b : Int32} {o : Int} {C : Prop} (hc : if_icmp.holds cd a b = true ↔ ¬ C) (hd : decode B pc = .ok (.if_icmp cd o, 3)) (pT : Nat) (ho : 0 ≤ (pc : Int) + o) (hT : ((pc : Int) + o).toNat = pT) (pF : Nat) (hF : pc + 3 = pF) (K1 : C → Go k n0 Q kc ks T pF Ls st) (K2 : ¬ C → Go k n0 Q kc ks T pT Ls st) : Go k n0 Q kc ks T pc Ls (.int b :: .int a :: st) :=
  g_icmp X hc hd pT ho hT pF hF K2 fun q => K1 (Classical.not_not.mp q)
theorem z_eq {a : Int32} : ifCond.holds .eq a = true ↔ a = 0 := by simp [ifCond.holds]
theorem z_ne {a : Int32} : ifCond.holds .ne a = true ↔ ¬ a = 0 := by simp [ifCond.holds]
theorem z_lt {a : Int32} : ifCond.holds .lt a = true ↔ a < 0 := by simp [ifCond.holds]
theorem z_ge {a : Int32} : ifCond.holds .ge a = true ↔ ¬ a < 0 := by simp [ifCond.holds, Int32.not_lt]
theorem z_gt {a : Int32} : ifCond.holds .gt a = true ↔ 0 < a := by simp [ifCond.holds]
theorem z_le {a : Int32} : ifCond.holds .le a = true ↔ ¬ 0 < a := by simp [ifCond.holds, Int32.not_lt]
theorem i_eq {a b : Int32} : if_icmp.holds .eq a b = true ↔ a = b := by simp [if_icmp.holds]
theorem i_ne {a b : Int32} : if_icmp.holds .ne a b = true ↔ ¬ a = b := by simp [if_icmp.holds]
theorem i_lt {a b : Int32} : if_icmp.holds .lt a b = true ↔ a < b := by simp [if_icmp.holds]
theorem i_ge {a b : Int32} : if_icmp.holds .ge a b = true ↔ ¬ a < b := by simp [if_icmp.holds, Int32.not_lt]
theorem i_gt {a b : Int32} : if_icmp.holds .gt a b = true ↔ b < a := by simp [if_icmp.holds]
theorem i_le {a b : Int32} : if_icmp.holds .le a b = true ↔ ¬ b < a := by simp [if_icmp.holds, Int32.not_lt]
theorem l_of {b : Bool} {C : Prop} (h1 : C → b = true) (h2 : ¬ C → b = false) : b = true ↔ C := ⟨fun q => Classical.byContradiction fun z => Bool.noConfusion ((h2 z).symm.trans q), h1⟩
theorem l_eq {a b : Int64} : ifCond.holds .eq (XT.cmpL a b) = true ↔ a = b := l_of XT.ll_eq_t XT.ll_eq_f
theorem l_ne {a b : Int64} : ifCond.holds .ne (XT.cmpL a b) = true ↔ ¬ a = b := l_of XT.ll_ne_t (fun q => XT.ll_ne_f (Classical.not_not.mp q))
theorem l_lt {a b : Int64} : ifCond.holds .lt (XT.cmpL a b) = true ↔ a < b := l_of XT.ll_lt_t XT.ll_lt_f
theorem l_ge {a b : Int64} : ifCond.holds .ge (XT.cmpL a b) = true ↔ ¬ a < b := l_of XT.ll_ge_t (fun q => XT.ll_ge_f (Classical.not_not.mp q))
theorem l_gt {a b : Int64} : ifCond.holds .gt (XT.cmpL a b) = true ↔ b < a := l_of XT.ll_gt_t XT.ll_gt_f
theorem l_le {a b : Int64} : ifCond.holds .le (XT.cmpL a b) = true ↔ ¬ b < a := l_of XT.ll_le_t (fun q => XT.ll_le_f (Classical.not_not.mp q))
theorem g_nullY (X : Sd l Z n0 y B ml rt R k T h cc ss) {o : Int} (hd : decode B pc = .ok (.ifnull o, 3)) (pc' : Nat) (ho : 0 ≤ (pc : Int) + o) (hp : ((pc : Int) + o).toNat = pc') (K : Go k n0 Q kc ks T pc' Ls st) : Go k n0 Q kc ks T pc Ls (.null :: st) := K.of fun _ q => XS.ifnullYes X.hh X.x rfl rfl (X.d hd) rfl ho hp q
theorem g_nullN (X : Sd l Z n0 y B ml rt R k T h cc ss) {o : Int} {a : Addr} (hd : decode B pc = .ok (.ifnull o, 3)) (pc' : Nat) (hp : pc + 3 = pc') (K : Go k n0 Q kc ks T pc' Ls st) : Go k n0 Q kc ks T pc Ls (.ref a :: st) := by subst hp; exact K.of fun _ q => XS.ifnullNo X.hh X.x rfl (X.d hd) rfl q
theorem g_nonnullY (X : Sd l Z n0 y B ml rt R k T h cc ss) {o : Int} {a : Addr} (hd : decode B pc = .ok (.ifnonnull o, 3)) (pc' : Nat) (ho : 0 ≤ (pc : Int) + o) (hp : ((pc : Int) + o).toNat = pc') (K : Go k n0 Q kc ks T pc' Ls st) : Go k n0 Q kc ks T pc Ls (.ref a :: st) := K.of fun _ q => XS.ifnonnullYes X.hh X.x rfl rfl (X.d hd) rfl ho hp q
theorem g_nonnullN (X : Sd l Z n0 y B ml rt R k T h cc ss) {o : Int} (hd : decode B pc = .ok (.ifnonnull o, 3)) (pc' : Nat) (hp : pc + 3 = pc') (K : Go k n0 Q kc ks T pc' Ls st) : Go k n0 Q kc ks T pc Ls (.null :: st) := by subst hp; exact K.of fun _ q => XS.ifnonnullNo X.hh X.x rfl (X.d hd) rfl q
theorem g_acmpY (X : Sd l Z n0 y B ml rt R k T h cc ss) {cd : ClassFile.ACond} {v w : Value} {o : Int} (hd : decode B pc = .ok (.if_acmp cd o, 3)) (hv : v.isRef = true) (hw : w.isRef = true) (hc : XT.acmp cd v w = true) (pc' : Nat) (ho : 0 ≤ (pc : Int) + o) (hp : ((pc : Int) + o).toNat = pc') (K : Go k n0 Q kc ks T pc' Ls st) : Go k n0 Q kc ks T pc Ls (w :: v :: st) := K.of fun _ q => XT.acmpYes X.hh X.x rfl rfl (X.d hd) rfl hv hw hc ho hp q
theorem g_acmpN (X : Sd l Z n0 y B ml rt R k T h cc ss) {cd : ClassFile.ACond} {v w : Value} {o : Int} (hd : decode B pc = .ok (.if_acmp cd o, 3)) (hv : v.isRef = true) (hw : w.isRef = true) (hc : XT.acmp cd v w = false) (pc' : Nat) (hp : pc + 3 = pc') (K : Go k n0 Q kc ks T pc' Ls st) : Go k n0 Q kc ks T pc Ls (w :: v :: st) := by subst hp; exact K.of fun _ q => XT.acmpNo X.hh X.x rfl (X.d hd) rfl hv hw hc q
theorem a_eq {a b : Addr} : XT.acmp .eq (.ref a) (.ref b) = true ↔ a = b := by simp [XT.acmp]
theorem a_ne {a b : Addr} : XT.acmp .ne (.ref a) (.ref b) = true ↔ ¬ a = b := by simp [XT.acmp]
theorem g_acmp (X : Sd l Z n0 y B ml rt R k T h cc ss) {cd : ClassFile.ACond} {a b : Addr} {o : Int} {C : Prop} (hc : XT.acmp cd (.ref a) (.ref b) = true ↔ C) (hd : decode B pc = .ok (.if_acmp cd o, 3)) (pT : Nat) (ho : 0 ≤ (pc : Int) + o) (hT : ((pc : Int) + o).toNat = pT) (pF : Nat) (hF : pc + 3 = pF) (K1 : C → Go k n0 Q kc ks T pT Ls st) (K2 : ¬ C → Go k n0 Q kc ks T pF Ls st) : Go k n0 Q kc ks T pc Ls (.ref b :: .ref a :: st) := by
  cases q : XT.acmp cd (.ref a) (.ref b) with
  | true => exact g_acmpY X hd rfl rfl q pT ho hT (K1 (hc.mp q))
  | false => exact g_acmpN X hd rfl rfl q pF hF (K2 (fun z => by rw [hc.mpr z] at q; cases q))
theorem g_acmpNN (X : Sd l Z n0 y B ml rt R k T h cc ss) {cd : ClassFile.ACond} {a b : Addr} {o : Int} {C : Prop} (hc : XT.acmp cd (.ref a) (.ref b) = true ↔ ¬ C) (hd : decode B pc = .ok (.if_acmp cd o, 3)) (pT : Nat) (ho : 0 ≤ (pc : Int) + o) (hT : ((pc : Int) + o).toNat = pT) (pF : Nat) (hF : pc + 3 = pF) (K1 : C → Go k n0 Q kc ks T pF Ls st) (K2 : ¬ C → Go k n0 Q kc ks T pT Ls st) : Go k n0 Q kc ks T pc Ls (.ref b :: .ref a :: st) :=
  g_acmp X hc hd pT ho hT pF hF K2 fun q => K1 (Classical.not_not.mp q)
/-! constants of the pool -/
theorem g_ldcI (X : Sd l Z n0 y B ml rt R k T h cc ss) {i : Nat} {v : Int32} (w : (Jvm.Cond.constant y.cls i v).before a0 Z = true) (hd : decode B pc = .ok (.ldc i, 2)) (pc' : Nat) (hp : pc + 2 = pc') (K : Go k n0 Q kc ks T pc' Ls (.int v :: st)) : Go k n0 Q kc ks T pc Ls st := by
  subst hp; obtain ⟨⟨locs, Y, N⟩, eh, hx, hZ, hown, hby, -⟩ := X
  exact K.of fun _ q => Y.ldcI hx hown (mv hZ w) rfl (Jvm.hb hby hd) q
theorem g_ldc2J (X : Sd l Z n0 y B ml rt R k T h cc ss) {i : Nat} {v : Int64} (w : (Jvm.Cond.constantLong y.cls i v).before a0 Z = true) (hd : decode B pc = .ok (.ldc2_w i, 3)) (pc' : Nat) (hp : pc + 3 = pc') (K : Go k n0 Q kc ks T pc' Ls (.long v :: st)) : Go k n0 Q kc ks T pc Ls st := by
  subst hp; obtain ⟨⟨locs, Y, N⟩, eh, hx, hZ, hown, hby, -⟩ := X
  exact K.of fun _ q => Y.ldc2J hx hown (mv hZ w) rfl (Jvm.hb hby hd) q
/-! returns -/
theorem g_retI (X : Sd l Z n0 y B ml (some .int) R k T h cc ss) {z : Int32} (hd : decode B pc = .ok (.ireturn, 1)) (hk : cc ≤ kc) (hs : ss ≤ ks) (hQ : Q (some (.int z)) h) : Go k n0 Q kc ks T pc Ls [.int z] :=
  Go.end X hk hs (fun q => nomatch q) (fun fs hr => by obtain ⟨⟨locs, Y, N⟩, eh, hx, hZ, hown, hby, hml, hnm, hrt, hlk⟩ := X; exact Y.ireturnOut hx hrt rfl (Or.inl rfl) (Jvm.hb hby hd) hr) hQ
theorem g_retN (X : Sd l Z n0 y B ml rt R k T h cc ss) {z : Int32} {t : FieldType} (hrt : rt = some t) (ht : t = .boolean ∨ t = .byte ∨ t = .char ∨ t = .short) (hd : decode B pc = .ok (.ireturn, 1)) (hk : cc ≤ kc) (hs : ss ≤ ks) (hQ : Q (some (.int (nar t z))) h) : Go k n0 Q kc ks T pc Ls [.int z] :=
  Go.end X hk hs (fun q => by rw [hrt] at q; cases q) (fun fs hr => by obtain ⟨⟨locs, Y, N⟩, eh, hx, hZ, hown, hby, hml, hnm, hrt', hlk⟩ := X; exact retN Y hx (hrt'.trans hrt) ht (Jvm.hb hby hd) hr) hQ
theorem g_retZ (X : Sd l Z n0 y B ml (some .boolean) R k T h cc ss) {z : Int32} (hd : decode B pc = .ok (.ireturn, 1)) (hk : cc ≤ kc) (hs : ss ≤ ks) (hQ : Q (some (.int (z &&& 1))) h) : Go k n0 Q kc ks T pc Ls [.int z] := g_retN X rfl (Or.inl rfl) hd hk hs hQ
theorem g_retL (X : Sd l Z n0 y B ml (some .long) R k T h cc ss) {z : Int64} (hd : decode B pc = .ok (.lreturn, 1)) (hk : cc ≤ kc) (hs : ss ≤ ks) (hQ : Q (some (.long z)) h) : Go k n0 Q kc ks T pc Ls [.long z] :=
  Go.end X hk hs (fun q => nomatch q) (fun fs hr => by obtain ⟨⟨locs, Y, N⟩, eh, hx, hZ, hown, hby, hml, hnm, hrt, hlk⟩ := X; exact Y.lreturnOut hx hrt (Jvm.hb hby hd) hr) hQ
theorem g_retA (X : Sd l Z n0 y B ml rt R k T h cc ss) {v : Value} {t : FieldType} (hrt : rt = some t) (ht : t.isReference = true) (hv : v.isRef = true) (hd : decode B pc = .ok (.areturn, 1)) (hk : cc ≤ kc) (hs : ss ≤ ks) (hQ : Q (some v) h) : Go k n0 Q kc ks T pc Ls [v] :=
  Go.end X hk hs (fun q => by rw [hrt] at q; cases q) (fun fs hr => by obtain ⟨⟨locs, Y, N⟩, eh, hx, hZ, hown, hby, hml, hnm, hrt', hlk⟩ := X; exact Y.areturnOut hx hv (hrt'.trans hrt) ht (Jvm.hb hby hd) hr) hQ
theorem g_ret (X : Sd l Z n0 y B ml none R k T h cc ss) (hd : decode B pc = .ok (.return_, 1)) (hk : cc ≤ kc) (hs : ss ≤ ks) (hQ : Q none h) : Go k n0 Q kc ks T pc Ls [] :=
  Go.end X hk hs (fun _ => rfl) (fun fs hr => by obtain ⟨⟨locs, Y, N⟩, eh, hx, hZ, hown, hby, hml, hnm, hrt, hlk⟩ := X; exact Y.returnOut hx hrt (Jvm.hb hby hd) hr) hQ
/-! objects -/
theorem g_new (X : Sd l Z n0 y B ml rt R k T h cc ss) {i n : Nat} {C : String} (w : (Jvm.Cond.classLink y.cls i C).before a0 Z = true) (wi : (Jvm.Cond.instantiable C n).before a0 Z = true) (wz : (Jvm.Cond.initialized C).before a0 Z = true) (hd : decode B pc = .ok (.new i, 3)) (hc : cc + 1 ≤ R.cells) (hl : ss + n ≤ R.slots) (pc' : Nat) (hp : pc + 3 = pc')
    (K : ∀ T' h' a, Sd l Z n0 y B ml rt R k T' h' (cc + 1) (ss + n) → a = h.size → Ext h h' → Exa Z h' a C → (∀ {O nm d : String} {ty : FieldType}, Laid Z a0 C O nm d → parseFieldDescriptor d = some ty → Fld Z h' a O nm d (defaultValue ty)) → Go k n0 Q kc ks T' pc' Ls (.ref a :: st)) : Go k n0 Q kc ks T pc Ls st := by
  subst hp; obtain ⟨⟨locs, Y, N⟩, eh, hx, hZ, hown, hby, hr⟩ := X
  obtain ⟨T2, h2, X2, e2, E2, A2, D2, -, st2⟩ := newO Y hx hZ hown w wi wz eh (g := mkF (owm k) pc Ls st) rfl (Jvm.hb hby hd) hc hl
  exact (K T2 h2 h.size ⟨⟨locs, X2, N⟩, e2, hx, hZ, hown, hby, hr⟩ rfl E2 A2 D2).of st2
theorem g_getF (X : Sd l Z n0 y B ml rt R k T h cc ss) {i : Nat} {R0 O n d : String} (w : (Jvm.Cond.fieldLink y.cls i R0 n d).before a0 Z = true) (via : Via Z R0 O n d) {a : Addr} {v : Value} (F : Fld Z h a O n d v) (hd : decode B pc = .ok (.getfield i, 3)) (pc' : Nat) (hp : pc + 3 = pc')
    (K : ∀ T', Sd l Z n0 y B ml rt R k T' h cc ss → Go k n0 Q kc ks T' pc' Ls (v :: st)) : Go k n0 Q kc ks T pc Ls (.ref a :: st) := by
  subst hp; obtain ⟨⟨locs, Y, N⟩, eh, hx, hZ, hown, hby, hr⟩ := X
  obtain ⟨T2, X2, e2, st2⟩ := getF Y hx hZ hown (host := "") (Or.inl w) via eh F (g := mkF (owm k) pc Ls (.ref a :: st)) rfl rfl (Jvm.hb hby hd)
  exact (K T2 ⟨⟨locs, X2, N⟩, e2, hx, hZ, hown, hby, hr⟩).of st2
theorem g_getFH (X : Sd l Z n0 y B ml rt R k T h cc ss) {i : Nat} {R0 O n d host : String} (w : (Jvm.Cond.fieldLinkNest y.cls i R0 n d host).before a0 Z = true) (via : Via Z R0 O n d) {a : Addr} {v : Value} (F : Fld Z h a O n d v) (hd : decode B pc = .ok (.getfield i, 3)) (pc' : Nat) (hp : pc + 3 = pc')
    (K : ∀ T', Sd l Z n0 y B ml rt R k T' h cc ss → Go k n0 Q kc ks T' pc' Ls (v :: st)) : Go k n0 Q kc ks T pc Ls (.ref a :: st) := by
  subst hp; obtain ⟨⟨locs, Y, N⟩, eh, hx, hZ, hown, hby, hr⟩ := X
  obtain ⟨T2, X2, e2, st2⟩ := getF Y hx hZ hown (Or.inr w) via eh F (g := mkF (owm k) pc Ls (.ref a :: st)) rfl rfl (Jvm.hb hby hd)
  exact (K T2 ⟨⟨locs, X2, N⟩, e2, hx, hZ, hown, hby, hr⟩).of st2
theorem g_getS (X : Sd l Z n0 y B ml rt R k T h cc ss) {i : Nat} {R0 O n d : String} (w : (Jvm.Cond.fieldLink y.cls i R0 n d).before a0 Z = true) (via : Via Z R0 O n d) {v : Value} (F : Sta Z h O n d v) (hd : decode B pc = .ok (.getstatic i, 3)) (pc' : Nat) (hp : pc + 3 = pc')
    (K : ∀ T', Sd l Z n0 y B ml rt R k T' h cc ss → Go k n0 Q kc ks T' pc' Ls (v :: st)) : Go k n0 Q kc ks T pc Ls st := by
  subst hp; obtain ⟨⟨locs, Y, N⟩, eh, hx, hZ, hown, hby, hr⟩ := X
  obtain ⟨T2, X2, e2, st2⟩ := getS2 Y hx hZ hown (host := "") (Or.inl w) via eh F (g := mkF (owm k) pc Ls st) rfl (Jvm.hb hby hd)
  exact (K T2 ⟨⟨locs, X2, N⟩, e2, hx, hZ, hown, hby, hr⟩).of st2
/-- a final field in a constructor of its class -/
theorem g_putFin (X : Sd l Z n0 y B ml rt R k T h cc ss) {i kk : Nat} {O n d C : String} (w : (Jvm.Cond.fieldLink y.cls i O n d).before a0 Z = true) {a : Addr} {v old : Value} (F : Fld Z h a O n d old) (E : Exa Z h a C) (L : (Jvm.Cond.laysFinal C O n d).before a0 Z = true) (ho : y.cls = O) (hi : y.name = "<init>") (wi : (Jvm.Cond.instantiable C kk).before a0 Z = true)
    (g0 : n0 ≤ a) (ty : FieldType) (hty : parseFieldDescriptor d = some ty) (hn : narrow ty v = v) (hf : fits ty v = true) (hd : decode B pc = .ok (.putfield i, 3)) (pc' : Nat) (hp : pc + 3 = pc')
    (K : ∀ T' h', Sd l Z n0 y B ml rt R k T' h' cc ss → Wr h h' a (Jvm.RoadKit.slotOf Z O n d) v → Go k n0 Q kc ks T' pc' Ls st) : Go k n0 Q kc ks T pc Ls (v :: .ref a :: st) := by
  subst hp; obtain ⟨⟨locs, Y, N⟩, eh, hx, hZ, hown, hby, hml, hnm, hr⟩ := X
  obtain ⟨T2, h2, X2, e2, W2, st2⟩ := putF Y hx hZ hown (host := "") (Or.inl w) Via.refl eh F E (Or.inr ⟨L, ho, hnm.trans hi⟩) wi hty hn hf (g := mkF (owm k) pc Ls (v :: .ref a :: st)) rfl rfl (Jvm.hb hby hd)
  exact (K T2 h2 ⟨⟨_, X2, Fr.snoc X2 N g0⟩, e2, hx, hZ, hown, hby, hml, hnm, hr⟩ W2).of st2
theorem g_putF (X : Sd l Z n0 y B ml rt R k T h cc ss) {i kk : Nat} {R0 O n d C : String} (w : (Jvm.Cond.fieldLink y.cls i R0 n d).before a0 Z = true) (via : Via Z R0 O n d) {a : Addr} {v old : Value} (F : Fld Z h a O n d old) (E : Exa Z h a C) (L : (Jvm.Cond.lays C O n d).before a0 Z = true) (wi : (Jvm.Cond.instantiable C kk).before a0 Z = true)
    (g0 : n0 ≤ a) (ty : FieldType) (hty : parseFieldDescriptor d = some ty) (hn : narrow ty v = v) (hf : fits ty v = true) (hd : decode B pc = .ok (.putfield i, 3)) (pc' : Nat) (hp : pc + 3 = pc')
    (K : ∀ T' h', Sd l Z n0 y B ml rt R k T' h' cc ss → Wr h h' a (Jvm.RoadKit.slotOf Z O n d) v → Go k n0 Q kc ks T' pc' Ls st) : Go k n0 Q kc ks T pc Ls (v :: .ref a :: st) := by
  subst hp; obtain ⟨⟨locs, Y, N⟩, eh, hx, hZ, hown, hby, hr⟩ := X
  obtain ⟨T2, h2, X2, e2, W2, st2⟩ := putF Y hx hZ hown (host := "") (Or.inl w) via eh F E (Or.inl L) wi hty hn hf (g := mkF (owm k) pc Ls (v :: .ref a :: st)) rfl rfl (Jvm.hb hby hd)
  exact (K T2 h2 ⟨⟨_, X2, Fr.snoc X2 N g0⟩, e2, hx, hZ, hown, hby, hr⟩ W2).of st2
theorem g_putFinN (X : Sd l Z n0 y B ml rt R k T h cc ss) {i kk : Nat} {O n d C : String} (w : (Jvm.Cond.fieldLink y.cls i O n d).before a0 Z = true) {a : Addr} {v old : Value} (v' : Value) (F : Fld Z h a O n d old) (E : Exa Z h a C) (L : (Jvm.Cond.laysFinal C O n d).before a0 Z = true) (ho : y.cls = O) (hi : y.name = "<init>") (wi : (Jvm.Cond.instantiable C kk).before a0 Z = true)
    (g0 : n0 ≤ a) (ty : FieldType) (hty : parseFieldDescriptor d = some ty) (hn : narrow ty v = v') (hf : fits ty v' = true) (hd : decode B pc = .ok (.putfield i, 3)) (pc' : Nat) (hp : pc + 3 = pc')
    (K : ∀ T' h', Sd l Z n0 y B ml rt R k T' h' cc ss → Wr h h' a (Jvm.RoadKit.slotOf Z O n d) v' → Go k n0 Q kc ks T' pc' Ls st) : Go k n0 Q kc ks T pc Ls (v :: .ref a :: st) := by
  subst hp; obtain ⟨⟨locs, Y, N⟩, eh, hx, hZ, hown, hby, hml, hnm, hr⟩ := X
  obtain ⟨T2, h2, X2, e2, W2, st2⟩ := putFN Y hx hZ hown w Via.refl eh F E (Or.inr ⟨L, ho, hnm.trans hi⟩) wi hty hn hf (g := mkF (owm k) pc Ls (v :: .ref a :: st)) rfl rfl (Jvm.hb hby hd)
  exact (K T2 h2 ⟨⟨_, X2, Fr.snoc X2 N g0⟩, e2, hx, hZ, hown, hby, hml, hnm, hr⟩ W2).of st2
theorem g_initO (X : Sd l Z n0 y B ml rt R k T h cc ss) {i : Nat} {a : Addr} (w1 : (Jvm.Cond.methodLink y.cls i Lib.objectInit).before a0 Z = true) (w2 : (Jvm.Cond.instanceMethod Lib.objectInit).before a0 Z = true) (w3 : (Jvm.Cond.code Lib.objectInit ⟨#[0xb1]⟩ 1 none).before a0 Z = true) (hsz : Ls.size = ml) (hf : 1 ≤ R.frames) (hl : (st.map fun v => v.category).sum + 12 ≤ R.locals) (hd : decode B pc = .ok (.invokespecial i, 3)) (pc' : Nat) (hp : pc + 3 = pc')
    (K : ∀ T', Sd l Z n0 y B ml rt R k T' h cc ss → Go k n0 Q kc ks T' pc' Ls st) : Go k n0 Q kc ks T pc Ls (.ref a :: st) := by
  subst hp; obtain ⟨⟨locs, Y, N⟩, eh, hx, hZ, hown, hby, hml, hr⟩ := X
  obtain ⟨T2, X2, e2, st2⟩ := initO Y hx hZ hown w1 w2 w3 eh (g := mkF (owm k) pc Ls (.ref a :: st)) rfl (hsz.trans hml.symm) rfl (Jvm.hb hby hd) hf (W := (st.map fun v => v.category).sum) (by show 2 * 0 + _ ≤ _; omega) hl
  exact (K T2 ⟨⟨locs, X2, N⟩, e2, hx, hZ, hown, hby, hml, hr⟩).of st2
/-! calls -/
theorem g_callS (X : Sd l Z n0 y B ml rt R k T h cc ss) {i : Nat} {z : MethodName} {Bz : ByteArray} {mz : Nat} {rz : Option FieldType} {rm : Room} {Qz : Option Value → Heap → Prop} (argsL rest : List Value) {ps : List FieldType} {pr : Option FieldType} (M : Met l Z n0 z Bz mz rz [] rm argsL.toArray h Qz rm.cells rm.slots)
    (w1 : (Jvm.Cond.methodLink y.cls i z).before a0 Z = true) (w2 : (Jvm.Cond.static z).before a0 Z = true) (w3 : (Jvm.Cond.initialized z.cls).before a0 Z = true) (w4 : (Jvm.Cond.code z Bz mz rz).before a0 Z = true) (hy : z.cls ≠ "java/lang/invoke/MethodHandle" ∧ z.cls ≠ "java/lang/invoke/VarHandle") (pd : parseMethodDescriptor z.desc = some ⟨ps, pr⟩) (hlen : argsL.length = ps.length)
    (hsz : Ls.size = ml) (hf : rm.frames + 1 ≤ R.frames) (hlo : (rest.map fun v => v.category).sum + (mz + 11) + rm.locals ≤ R.locals) (hc : cc + rm.cells ≤ R.cells) (hs : ss + rm.slots ≤ R.slots) (hd : decode B pc = .ok (.invokestatic i, 3)) (hst : st = argsL.reverse ++ rest) (pc' : Nat) (hp : pc + 3 = pc')
    (K : ∀ v T' h', Sd l Z n0 y B ml rt R k T' h' (cc + rm.cells) (ss + rm.slots) → Qz v h' → Go k n0 Q kc ks T' pc' Ls (v.toList ++ rest)) : Go k n0 Q kc ks T pc Ls st := by
  subst hp; obtain ⟨⟨locs, Y, N⟩, eh, hx, hZ, hown, hby, hml, hr⟩ := X
  obtain ⟨v, _, ⟨T', L', c', n'⟩, -, X', ⟨Lc, hQ, l1, y1, z1⟩, stp⟩ := Jvm.LawKit.callS Y hx (y := z) hown (mvT hZ w1) (mvT hZ w2) (mvT hZ w3) (mvT hZ w4) hy (backOf (W := (rest.map fun v => v.category).sum) (Q := fun v h L => Fr n0 L ∧ Qz v h) M hZ w4 w3 hf hlo) (g := mkF (owm k) pc Ls st) rfl (hsz.trans hml.symm) (argsL := argsL) (rest := rest) (lenOf pd hlen) hst (by show 2 * 0 + _ ≤ _; omega) (Jvm.hb hby hd) (fun _ _ => ⟨rfl, eh, hc, hs⟩)
  dsimp only [Pt.U, Pt.locs, Pt.cells, Pt.slots] at X' l1 y1 z1 stp hQ
  subst l1 y1 z1
  exact (K v T' _ ⟨⟨_, X', N.app hQ.1⟩, rfl, hx, hZ, hown, hby, hml, hr⟩ hQ.2).of stp
theorem g_callI (X : Sd l Z n0 y B ml rt R k T h cc ss) {i : Nat} {z : MethodName} {Bz : ByteArray} {mz : Nat} {rm : Room} {Qz : Option Value → Heap → Prop} (a : Addr) (argsL rest : List Value) {ps : List FieldType} {pr : Option FieldType} (M : Met l Z n0 z Bz mz none [] rm (Value.ref a :: argsL).toArray h Qz rm.cells rm.slots) (hi : z.name = "<init>")
    (w1 : (Jvm.Cond.methodLink y.cls i z).before a0 Z = true) (w2 : (Jvm.Cond.instanceMethod z).before a0 Z = true) (w3 : (Jvm.Cond.initialized z.cls).before a0 Z = true) (w4 : (Jvm.Cond.code z Bz mz none).before a0 Z = true) (hy : z.cls ≠ "java/lang/invoke/MethodHandle" ∧ z.cls ≠ "java/lang/invoke/VarHandle") (pd : parseMethodDescriptor z.desc = some ⟨ps, pr⟩) (hlen : argsL.length = ps.length)
    (hsz : Ls.size = ml) (hf : rm.frames + 1 ≤ R.frames) (hlo : (rest.map fun v => v.category).sum + (mz + 11) + rm.locals ≤ R.locals) (hc : cc + rm.cells ≤ R.cells) (hs : ss + rm.slots ≤ R.slots) (hd : decode B pc = .ok (.invokespecial i, 3)) (hst : st = argsL.reverse ++ .ref a :: rest) (pc' : Nat) (hp : pc + 3 = pc')
    (K : ∀ v T' h', Sd l Z n0 y B ml rt R k T' h' (cc + rm.cells) (ss + rm.slots) → Qz v h' → Go k n0 Q kc ks T' pc' Ls (v.toList ++ rest)) : Go k n0 Q kc ks T pc Ls st := by
  subst hp; obtain ⟨⟨locs, Y, N⟩, eh, hx, hZ, hown, hby, hml, hr⟩ := X
  obtain ⟨v, _, ⟨T', L', c', n'⟩, -, X', ⟨Lc, hQ, l1, y1, z1⟩, stp⟩ := Y.specialBack hx (y := z) hi hown (mvT hZ w1) (mvT hZ w2) (mvT hZ w4) hy (backOf (W := (rest.map fun v => v.category).sum) (Q := fun v h L => Fr n0 L ∧ Qz v h) M hZ w4 w3 hf hlo) (g := mkF (owm k) pc Ls st) rfl (hsz.trans hml.symm) (Steps.refl _) (a := a) (argsL := argsL) (rest := rest) (lenOf pd hlen) hst (by show 2 * 0 + _ ≤ _; omega) (Jvm.hb hby hd) (fun _ _ => ⟨rfl, eh, hc, hs⟩)
  dsimp only [Pt.U, Pt.locs, Pt.cells, Pt.slots] at X' l1 y1 z1 stp hQ
  subst l1 y1 z1
  exact (K v T' _ ⟨⟨_, X', N.app hQ.1⟩, rfl, hx, hZ, hown, hby, hml, hr⟩ hQ.2).of fun _ q => stp.trans q
/-- an instance method, found where it is named -/
theorem g_callV (X : Sd l Z n0 y B ml rt R k T h cc ss) {i : Nat} {z : MethodName} {C : String} {Bz : ByteArray} {mz : Nat} {rz : Option FieldType} {rm : Room} {Qz : Option Value → Heap → Prop} (a : Addr) (argsL rest : List Value) {ps : List FieldType} {pr : Option FieldType} (M : Met l Z n0 z Bz mz rz [] rm (Value.ref a :: argsL).toArray h Qz rm.cells rm.slots) (E : Exa Z h a C)
    (w1 : (Jvm.Cond.methodLink y.cls i z).before a0 Z = true) (w2 : (Jvm.Cond.declares z).before a0 Z = true) (w5 : (Jvm.Cond.selects C z z).before a0 Z = true) (w6 : (Jvm.Cond.instanceMethod z).before a0 Z = true) (w3 : (Jvm.Cond.initialized z.cls).before a0 Z = true) (w4 : (Jvm.Cond.code z Bz mz rz).before a0 Z = true) (hy : z.cls ≠ "java/lang/invoke/MethodHandle" ∧ z.cls ≠ "java/lang/invoke/VarHandle") (pd : parseMethodDescriptor z.desc = some ⟨ps, pr⟩) (hlen : argsL.length = ps.length)
    (hsz : Ls.size = ml) (hf : rm.frames + 1 ≤ R.frames) (hlo : (rest.map fun v => v.category).sum + (mz + 11) + rm.locals ≤ R.locals) (hc : cc + rm.cells ≤ R.cells) (hs : ss + rm.slots ≤ R.slots) (hd : decode B pc = .ok (.invokevirtual i, 3)) (hst : st = argsL.reverse ++ .ref a :: rest) (pc' : Nat) (hp : pc + 3 = pc')
    (K : ∀ v T' h', Sd l Z n0 y B ml rt R k T' h' (cc + rm.cells) (ss + rm.slots) → Qz v h' → Go k n0 Q kc ks T' pc' Ls (v.toList ++ rest)) : Go k n0 Q kc ks T pc Ls st := by
  subst hp; obtain ⟨⟨locs, Y, N⟩, eh, hx, hZ, hown, hby, hml, hr⟩ := X
  obtain ⟨cq, kq, qa, qb, qc⟩ := isOf hZ eh E
  obtain ⟨v, _, ⟨T', L', c', n'⟩, -, X', ⟨Lc, hQ, l1, y1, z1⟩, stp⟩ := Y.virtualBack hx (y := z) (z := z) hown (mvT hZ w1) (mvT hZ w2) (notFace_of_selects (args := #[]) (mvT hZ w5)) (mvT hZ w5) (mvT hZ w6) hy (backOf (W := (rest.map fun v => v.category).sum) (Q := fun v h L => Fr n0 L ∧ Qz v h) M hZ w4 w3 hf hlo) qa qc (g := mkF (owm k) pc Ls st) rfl (hsz.trans hml.symm) (Steps.refl _) (argsL := argsL) (rest := rest) (lenOf pd hlen) hst (by show 2 * 0 + _ ≤ _; omega) (Jvm.hb hby hd) (fun _ _ => ⟨rfl, eh, hc, hs⟩)
  dsimp only [Pt.U, Pt.locs, Pt.cells, Pt.slots] at X' l1 y1 z1 stp hQ
  subst l1 y1 z1
  exact (K v T' _ ⟨⟨_, X', N.app hQ.1⟩, rfl, hx, hZ, hown, hby, hml, hr⟩ hQ.2).of fun _ q => stp.trans q
/-- a private instance method by invokevirtual -/
theorem g_callP (X : Sd l Z n0 y B ml rt R k T h cc ss) {i : Nat} {z : MethodName} {C : String} {Bz : ByteArray} {mz : Nat} {rz : Option FieldType} {rm : Room} {Qz : Option Value → Heap → Prop} (a : Addr) (argsL rest : List Value) {ps : List FieldType} {pr : Option FieldType} (M : Met l Z n0 z Bz mz rz [] rm (Value.ref a :: argsL).toArray h Qz rm.cells rm.slots) (E : Exa Z h a C)
    (w1 : (Jvm.Cond.methodLink y.cls i z).before a0 Z = true) (w2 : (Jvm.Cond.privateMethod z).before a0 Z = true) (w5 : (Jvm.Cond.selects z.cls z z).before a0 Z = true) (w6 : (Jvm.Cond.instanceMethod z).before a0 Z = true) (w3 : (Jvm.Cond.initialized z.cls).before a0 Z = true) (w4 : (Jvm.Cond.code z Bz mz rz).before a0 Z = true) (hy : z.cls ≠ "java/lang/invoke/MethodHandle" ∧ z.cls ≠ "java/lang/invoke/VarHandle") (pd : parseMethodDescriptor z.desc = some ⟨ps, pr⟩) (hlen : argsL.length = ps.length)
    (hsz : Ls.size = ml) (hf : rm.frames + 1 ≤ R.frames) (hlo : (rest.map fun v => v.category).sum + (mz + 11) + rm.locals ≤ R.locals) (hc : cc + rm.cells ≤ R.cells) (hs : ss + rm.slots ≤ R.slots) (hd : decode B pc = .ok (.invokevirtual i, 3)) (hst : st = argsL.reverse ++ .ref a :: rest) (pc' : Nat) (hp : pc + 3 = pc')
    (K : ∀ v T' h', Sd l Z n0 y B ml rt R k T' h' (cc + rm.cells) (ss + rm.slots) → Qz v h' → Go k n0 Q kc ks T' pc' Ls (v.toList ++ rest)) : Go k n0 Q kc ks T pc Ls st := by
  subst hp; obtain ⟨⟨locs, Y, N⟩, eh, hx, hZ, hown, hby, hml, hr⟩ := X
  obtain ⟨cl, qa, qb⟩ := E.cell
  obtain ⟨v, _, ⟨T', L', c', n'⟩, -, X', ⟨Lc, hQ, l1, y1, z1⟩, stp⟩ := Y.privateBack hx (y := z) hown (mvT hZ w1) (mvT hZ w6) (mvT hZ w5) (Cond.privateMethod_at (mvP (args := #[]) hZ w2)) (mvT hZ w4) hy (backOf (W := (rest.map fun v => v.category).sum) (Q := fun v h L => Fr n0 L ∧ Qz v h) M hZ w4 w3 hf hlo) (g := mkF (owm k) pc Ls st) rfl (hsz.trans hml.symm) (Steps.refl _) (by rw [eh]; exact qa) qb (argsL := argsL) (rest := rest) (lenOf pd hlen) hst (by show 2 * 0 + _ ≤ _; omega) (Jvm.hb hby hd) (fun _ _ => ⟨rfl, eh, hc, hs⟩)
  dsimp only [Pt.U, Pt.locs, Pt.cells, Pt.slots] at X' l1 y1 z1 stp hQ
  subst l1 y1 z1
  exact (K v T' _ ⟨⟨_, X', N.app hQ.1⟩, rfl, hx, hZ, hown, hby, hml, hr⟩ hQ.2).of fun _ q => stp.trans q
/-! arrays: n places, f says what each holds -/
def AI (Z : State) (h : Heap) (a : Addr) (ty : FieldType) (n : Nat) (f : Nat → Value) : Prop := ∃ c : Cell, Arr Z h a c ty ∧ c.slots.size = n ∧ n < 2147483648 ∧ ∀ i, i < n → c.slots[i]? = some (f i)
theorem AI.lt {a : Addr} {ty : FieldType} {n : Nat} {f : Nat → Value} (A : AI Z h a ty n f) : a < h.size := by obtain ⟨c, A, -⟩ := A; exact A.lt
theorem AI.ext {h' : Heap} {a : Addr} {ty : FieldType} {n : Nat} {f : Nat → Value} (A : AI Z h a ty n f) (E : Ext h h') : AI Z h' a ty n f := by obtain ⟨c, A, r⟩ := A; exact ⟨c, A.ext E, r⟩
theorem AI.other {h' : Heap} {a b : Addr} {sl : Nat} {v : Value} {ty : FieldType} {n : Nat} {f : Nat → Value} (A : AI Z h a ty n f) (W : Wr h h' b sl v) (q : a ≠ b) : AI Z h' a ty n f := by obtain ⟨c, A, r⟩ := A; exact ⟨c, A.other W q, r⟩
theorem AI.keep {h' : Heap} {ws : List Addr} {a : Addr} {ty : FieldType} {n : Nat} {f : Nat → Value} (A : AI Z h a ty n f) (K : Keep h h' ws) (q : a ∉ ws) : AI Z h' a ty n f := by obtain ⟨c, A, r⟩ := A; exact ⟨c, ⟨K.2.1 a c A.1 q, A.2⟩, r⟩
theorem AI.to {a : Addr} {ty : FieldType} {n : Nat} {f g : Nat → Value} (A : AI Z h a ty n f) (e : ∀ i, i < n → f i = g i) : AI Z h a ty n g := by obtain ⟨c, A, r1, r2, r3⟩ := A; exact ⟨c, A, r1, r2, fun i hi => by rw [r3 i hi, e i hi]⟩
theorem AI.set {h' : Heap} {a : Addr} {ty : FieldType} {n i : Nat} {v : Value} {f : Nat → Value} (A : AI Z h a ty n f) (W : Wr h h' a i v) : AI Z h' a ty n (fun j => if j = i then v else f j) := by
  obtain ⟨c, A, r1, r2, r3⟩ := A
  refine ⟨_, A.same W, by rw [sz_set]; exact r1, r2, fun j hj => ?_⟩
  obtain ⟨c', q1, -, q3, -⟩ := W
  cases A.1.symm.trans q1
  by_cases e : j = i
  · subst e; simp [Cell.setSlot, r1, hj]
  · have e' : ¬ i = j := fun z => e z.symm
    simp [Cell.setSlot, Array.getElem?_setIfInBounds, e', e, r3 j hj]
theorem AI.new {a : Addr} {ty : FieldType} {cA : ClassId} {m : Int32} (A : Arr Z h a (newA cA ty m) ty) (q : ¬ m < 0) {n : Nat} (e : m.toInt = n) : AI Z h a ty n (fun _ => defaultValue ty) := by
  have e1 : m.toNatClampNeg = n := by simp [Int32.toNatClampNeg, e]
  have e2 : n < 2147483648 := by have := m.toInt_lt; omega
  refine ⟨_, A, by rw [sz_new]; exact e1, e2, fun i hi => ?_⟩
  simp [newA, e1, hi]
theorem ix_of {j : Int32} {i n : Nat} (hj : j.toInt = i) (hi : i < n) : ¬ (j < 0 ∨ n ≤ j.toNatClampNeg) ∧ j.toNatClampNeg = i := by
  have e1 : j.toNatClampNeg = i := by simp [Int32.toNatClampNeg, hj]
  refine ⟨fun q => ?_, e1⟩
  rcases q with q | q
  · rw [Int32.lt_iff_toInt_lt, hj] at q; simp at q; omega
  · omega
theorem g_iaload (X : Sd l Z n0 y B ml rt R k T h cc ss) {a : Addr} {n : Nat} {f : Nat → Value} (A : AI Z h a .int n f) {j : Int32} (i : Nat) (hj : j.toInt = i) (hi : i < n) (v : Value) (hv : f i = v) (hd : decode B pc = .ok (.iaload, 1)) (pc' : Nat) (hp : pc + 1 = pc') (K : Go k n0 Q kc ks T pc' Ls (v :: st)) : Go k n0 Q kc ks T pc Ls (.int j :: .ref a :: st) := by
  subst hp hv; obtain ⟨⟨locs, Y, N⟩, eh, hx, hZ, hown, hby, hr⟩ := X
  obtain ⟨c, A, r1, r2, r3⟩ := A; obtain ⟨q1, q2⟩ := ix_of hj hi
  exact K.of fun t q => Y.iaload hx (by rw [eh]; exact A.1) (State.isArrayOf_alike hZ.alike A.2.1) A.2.2 (by rw [r1]; exact q1) (by rw [q2]; exact r3 i hi) (g := mkF (owm k) pc Ls (.int j :: .ref a :: st)) rfl rfl (Jvm.hb hby hd) t q
theorem g_baload (X : Sd l Z n0 y B ml rt R k T h cc ss) {a : Addr} {n : Nat} {f : Nat → Value} (A : AI Z h a .byte n f) {j : Int32} (i : Nat) (hj : j.toInt = i) (hi : i < n) (v : Value) (hv : f i = v) (hd : decode B pc = .ok (.baload, 1)) (pc' : Nat) (hp : pc + 1 = pc') (K : Go k n0 Q kc ks T pc' Ls (v :: st)) : Go k n0 Q kc ks T pc Ls (.int j :: .ref a :: st) := by
  subst hp hv; obtain ⟨⟨locs, Y, N⟩, eh, hx, hZ, hown, hby, hr⟩ := X
  obtain ⟨c, A, r1, r2, r3⟩ := A; obtain ⟨q1, q2⟩ := ix_of hj hi
  exact K.of fun t q => Y.baloadBytes hx (by rw [eh]; exact A.1) (State.isArrayOf_alike hZ.alike A.2.1) A.2.2 (by rw [r1]; exact q1) (by rw [q2]; exact r3 i hi) (g := mkF (owm k) pc Ls (.int j :: .ref a :: st)) rfl rfl (Jvm.hb hby hd) t q
theorem g_laload (X : Sd l Z n0 y B ml rt R k T h cc ss) {a : Addr} {n : Nat} {f : Nat → Value} (A : AI Z h a .long n f) {j : Int32} (i : Nat) (hj : j.toInt = i) (hi : i < n) (v : Value) (hv : f i = v) (hd : decode B pc = .ok (.laload, 1)) (pc' : Nat) (hp : pc + 1 = pc') (K : Go k n0 Q kc ks T pc' Ls (v :: st)) : Go k n0 Q kc ks T pc Ls (.int j :: .ref a :: st) := by
  subst hp hv; obtain ⟨⟨locs, Y, N⟩, eh, hx, hZ, hown, hby, hr⟩ := X
  obtain ⟨c, A, r1, r2, r3⟩ := A; obtain ⟨q1, q2⟩ := ix_of hj hi
  exact K.of fun t q => Y.laload hx (by rw [eh]; exact A.1) (State.isArrayOf_alike hZ.alike A.2.1) A.2.2 (by rw [r1]; exact q1) (by rw [q2]; exact r3 i hi) (g := mkF (owm k) pc Ls (.int j :: .ref a :: st)) rfl rfl (Jvm.hb hby hd) t q
theorem g_aaload (X : Sd l Z n0 y B ml rt R k T h cc ss) {a : Addr} {ty : FieldType} {n : Nat} {f : Nat → Value} (A : AI Z h a ty n f) (hty : ty.isReference = true) {j : Int32} (i : Nat) (hj : j.toInt = i) (hi : i < n) (v : Value) (hv : f i = v) (hd : decode B pc = .ok (.aaload, 1)) (pc' : Nat) (hp : pc + 1 = pc') (K : Go k n0 Q kc ks T pc' Ls (v :: st)) : Go k n0 Q kc ks T pc Ls (.int j :: .ref a :: st) := by
  subst hp hv; obtain ⟨⟨locs, Y, N⟩, eh, hx, hZ, hown, hby, hr⟩ := X
  obtain ⟨c, A, r1, r2, r3⟩ := A; obtain ⟨q1, q2⟩ := ix_of hj hi
  exact K.of fun t q => Y.aaload hx (by rw [eh]; exact A.1) (State.isArrayOf_alike hZ.alike A.2.1) hty A.2.2 (by rw [r1]; exact q1) (by rw [q2]; exact r3 i hi) (g := mkF (owm k) pc Ls (.int j :: .ref a :: st)) rfl rfl (Jvm.hb hby hd) t q
theorem g_alen (X : Sd l Z n0 y B ml rt R k T h cc ss) {a : Addr} {ty : FieldType} {n : Nat} {f : Nat → Value} (A : AI Z h a ty n f) (v : Int32) (hv : v.toInt = n) (hd : decode B pc = .ok (.arraylength, 1)) (pc' : Nat) (hp : pc + 1 = pc') (K : Go k n0 Q kc ks T pc' Ls (.int v :: st)) : Go k n0 Q kc ks T pc Ls (.ref a :: st) := by
  subst hp; obtain ⟨⟨locs, Y, N⟩, eh, hx, hZ, hown, hby, hr⟩ := X
  obtain ⟨c, A, r1, r2, r3⟩ := A
  have ev : c.slots.size.toInt32 = v := by
    rw [r1]; apply Int32.toInt_inj.mp; rw [hv]
    show (Int32.ofNat n).toInt = _
    rw [Int32.toInt_ofNat_of_lt (by omega)]
  exact K.of fun t q => Y.arraylength hx (by rw [eh]; exact A.1) (State.isArrayOf_alike hZ.alike A.2.1) (g := mkF (owm k) pc Ls (.ref a :: st)) rfl rfl (Jvm.hb hby hd) t (by rw [ev]; exact q)
theorem g_newP (X : Sd l Z n0 y B ml rt R k T h cc ss) {aty : ArrayType} (w : (Jvm.Cond.arrayClass (newarray.typeOf aty)).before a0 Z = true) {m : Int32} (n cap : Nat) (hm : m.toInt = n) (hn : n ≤ cap) (hb : cap * 8 ≤ 536870912) (hd : decode B pc = .ok (.newarray aty, 2)) (hc : cc + 1 ≤ R.cells) (hl : ss + cap ≤ R.slots) (pc' : Nat) (hp : pc + 2 = pc')
    (K : ∀ T' h' a, Sd l Z n0 y B ml rt R k T' h' (cc + 1) (ss + cap) → a = h.size → Ext h h' → AI Z h' a (newarray.typeOf aty) n (fun _ => defaultValue (newarray.typeOf aty)) → Go k n0 Q kc ks T' pc' Ls (.ref a :: st)) : Go k n0 Q kc ks T pc Ls (.int m :: st) := by
  subst hp; obtain ⟨⟨locs, Y, N⟩, eh, hx, hZ, hown, hby, hr⟩ := X
  have q : ¬ m < 0 := by
    have e : (0 : Int32).toInt = 0 := by decide
    rw [Int32.lt_iff_toInt_lt, hm]; omega
  have e1 : m.toNatClampNeg = n := by simp [Int32.toNatClampNeg, hm]
  obtain ⟨T2, h2, cA, X2, e2, E2, A2, st2⟩ := newP Y hx hZ w eh (g := mkF (owm k) pc Ls (.int m :: st)) rfl (Jvm.hb hby hd) rfl q (cap := cap) (by omega) hb hc hl
  exact (K T2 h2 h.size ⟨⟨locs, X2, N⟩, e2, hx, hZ, hown, hby, hr⟩ rfl E2 (AI.new A2 q hm)).of st2
theorem g_iastore (X : Sd l Z n0 y B ml rt R k T h cc ss) {a : Addr} {n : Nat} {f : Nat → Value} (A : AI Z h a .int n f) {j x : Int32} (i : Nat) (hj : j.toInt = i) (hi : i < n) (g0 : n0 ≤ a) (hd : decode B pc = .ok (.iastore, 1)) (pc' : Nat) (hp : pc + 1 = pc')
    (K : ∀ T' h', Sd l Z n0 y B ml rt R k T' h' cc ss → Wr h h' a i (.int x) → Go k n0 Q kc ks T' pc' Ls st) : Go k n0 Q kc ks T pc Ls (.int x :: .int j :: .ref a :: st) := by
  subst hp; obtain ⟨⟨locs, Y, N⟩, eh, hx, hZ, hown, hby, hr⟩ := X
  obtain ⟨c, A, r1, r2, r3⟩ := A; obtain ⟨q1, q2⟩ := ix_of hj hi
  obtain ⟨T2, h2, X2, e2, W2, st2⟩ := stI Y hx hZ eh A (j := j) (x := x) (by rw [r1]; exact q1) (g := mkF (owm k) pc Ls (.int x :: .int j :: .ref a :: st)) rfl rfl (Jvm.hb hby hd)
  rw [q2] at X2 W2
  exact (K T2 h2 ⟨⟨_, X2, Fr.snoc X2 N g0⟩, e2, hx, hZ, hown, hby, hr⟩ W2).of st2
theorem g_lastore (X : Sd l Z n0 y B ml rt R k T h cc ss) {a : Addr} {n : Nat} {f : Nat → Value} (A : AI Z h a .long n f) {j : Int32} {x : Int64} (i : Nat) (hj : j.toInt = i) (hi : i < n) (g0 : n0 ≤ a) (hd : decode B pc = .ok (.lastore, 1)) (pc' : Nat) (hp : pc + 1 = pc')
    (K : ∀ T' h', Sd l Z n0 y B ml rt R k T' h' cc ss → Wr h h' a i (.long x) → Go k n0 Q kc ks T' pc' Ls st) : Go k n0 Q kc ks T pc Ls (.long x :: .int j :: .ref a :: st) := by
  subst hp; obtain ⟨⟨locs, Y, N⟩, eh, hx, hZ, hown, hby, hr⟩ := X
  obtain ⟨c, A, r1, r2, r3⟩ := A; obtain ⟨q1, q2⟩ := ix_of hj hi
  obtain ⟨T2, h2, X2, e2, W2, st2⟩ := stJ Y hx hZ eh A (j := j) (x := x) (by rw [r1]; exact q1) (g := mkF (owm k) pc Ls (.long x :: .int j :: .ref a :: st)) rfl rfl (Jvm.hb hby hd)
  rw [q2] at X2 W2
  exact (K T2 h2 ⟨⟨_, X2, Fr.snoc X2 N g0⟩, e2, hx, hZ, hown, hby, hr⟩ W2).of st2
theorem g_bastore (X : Sd l Z n0 y B ml rt R k T h cc ss) {a : Addr} {n : Nat} {f : Nat → Value} (A : AI Z h a .byte n f) {j x : Int32} (i : Nat) (hj : j.toInt = i) (hi : i < n) (g0 : n0 ≤ a) (hd : decode B pc = .ok (.bastore, 1)) (pc' : Nat) (hp : pc + 1 = pc')
    (K : ∀ T' h', Sd l Z n0 y B ml rt R k T' h' cc ss → Wr h h' a i (.int x.toInt8.toInt32) → Go k n0 Q kc ks T' pc' Ls st) : Go k n0 Q kc ks T pc Ls (.int x :: .int j :: .ref a :: st) := by
  subst hp; obtain ⟨⟨locs, Y, N⟩, eh, hx, hZ, hown, hby, hr⟩ := X
  obtain ⟨c, A, r1, r2, r3⟩ := A; obtain ⟨q1, q2⟩ := ix_of hj hi
  obtain ⟨T2, h2, X2, e2, W2, st2⟩ := stB Y hx hZ eh A (j := j) (x := x) (by rw [r1]; exact q1) (g := mkF (owm k) pc Ls (.int x :: .int j :: .ref a :: st)) rfl rfl (Jvm.hb hby hd)
  rw [q2] at X2 W2
  exact (K T2 h2 ⟨⟨_, X2, Fr.snoc X2 N g0⟩, e2, hx, hZ, hown, hby, hr⟩ W2).of st2
/-! arrays of references of the class C -/
def AR (Z : State) (h : Heap) (a : Addr) (C : String) (n : Nat) (f : Nat → Value) : Prop := ∃ c : Cell, Arr Z h a c (.object C) ∧ Ovr Z c.cls C ∧ c.slots.size = n ∧ n < 2147483648 ∧ ∀ i, i < n → c.slots[i]? = some (f i)
theorem AR.ai {a : Addr} {C : String} {n : Nat} {f : Nat → Value} (A : AR Z h a C n f) : AI Z h a (.object C) n f := by obtain ⟨c, A, -, r⟩ := A; exact ⟨c, A, r⟩
theorem AR.lt {a : Addr} {C : String} {n : Nat} {f : Nat → Value} (A : AR Z h a C n f) : a < h.size := A.ai.lt
theorem AR.ext {h' : Heap} {a : Addr} {C : String} {n : Nat} {f : Nat → Value} (A : AR Z h a C n f) (E : Ext h h') : AR Z h' a C n f := by obtain ⟨c, A, r⟩ := A; exact ⟨c, A.ext E, r⟩
theorem AR.other {h' : Heap} {a b : Addr} {sl : Nat} {v : Value} {C : String} {n : Nat} {f : Nat → Value} (A : AR Z h a C n f) (W : Wr h h' b sl v) (q : a ≠ b) : AR Z h' a C n f := by obtain ⟨c, A, r⟩ := A; exact ⟨c, A.other W q, r⟩
theorem AR.keep {h' : Heap} {ws : List Addr} {a : Addr} {C : String} {n : Nat} {f : Nat → Value} (A : AR Z h a C n f) (K : Keep h h' ws) (q : a ∉ ws) : AR Z h' a C n f := by obtain ⟨c, A, r⟩ := A; exact ⟨c, ⟨K.2.1 a c A.1 q, A.2⟩, r⟩
theorem AR.to {a : Addr} {C : String} {n : Nat} {f g : Nat → Value} (A : AR Z h a C n f) (e : ∀ i, i < n → f i = g i) : AR Z h a C n g := by obtain ⟨c, A, r0, r1, r2, r3⟩ := A; exact ⟨c, A, r0, r1, r2, fun i hi => by rw [r3 i hi, e i hi]⟩
theorem AR.set {h' : Heap} {a : Addr} {C : String} {n i : Nat} {v : Value} {f : Nat → Value} (A : AR Z h a C n f) (W : Wr h h' a i v) : AR Z h' a C n (fun j => if j = i then v else f j) := by
  obtain ⟨c, A, r0, r1, r2, r3⟩ := A
  refine ⟨_, A.same W, r0, by rw [sz_set]; exact r1, r2, fun j hj => ?_⟩
  obtain ⟨c', q1, -, q3, -⟩ := W
  cases A.1.symm.trans q1
  by_cases e : j = i
  · subst e; simp [Cell.setSlot, r1, hj]
  · have e' : ¬ i = j := fun z => e z.symm
    simp [Cell.setSlot, Array.getElem?_setIfInBounds, e', e, r3 j hj]
theorem g_newR (X : Sd l Z n0 y B ml rt R k T h cc ss) {i : Nat} {C : String} (w1 : (Jvm.Cond.classLink y.cls i C).before a0 Z = true) (w2 : (Jvm.Cond.arrayOver (.object C)).before a0 Z = true) {m : Int32} (n cap : Nat) (hm : m.toInt = n) (hn : n ≤ cap) (hb : cap * 8 ≤ 536870912) (hd : decode B pc = .ok (.anewarray i, 3)) (hc : cc + 1 ≤ R.cells) (hl : ss + cap ≤ R.slots) (pc' : Nat) (hp : pc + 3 = pc')
    (K : ∀ T' h' a, Sd l Z n0 y B ml rt R k T' h' (cc + 1) (ss + cap) → a = h.size → Ext h h' → AR Z h' a C n (fun _ => .null) → Go k n0 Q kc ks T' pc' Ls (.ref a :: st)) : Go k n0 Q kc ks T pc Ls (.int m :: st) := by
  subst hp; obtain ⟨⟨locs, Y, N⟩, eh, hx, hZ, hown, hby, hr⟩ := X
  have q : ¬ m < 0 := by
    have e : (0 : Int32).toInt = 0 := by decide
    rw [Int32.lt_iff_toInt_lt, hm]; omega
  have e1 : m.toNatClampNeg = n := by simp [Int32.toNatClampNeg, hm]
  obtain ⟨T2, h2, cA, X2, e2, E2, A2, O2, st2⟩ := newR Y hx hZ hown w1 w2 eh (g := mkF (owm k) pc Ls (.int m :: st)) rfl (Jvm.hb hby hd) rfl q (cap := cap) (by omega) hb hc hl
  obtain ⟨c, A3, r1, r2, r3⟩ := AI.new A2 q hm
  cases A2.1.symm.trans A3.1
  exact (K T2 h2 h.size ⟨⟨locs, X2, N⟩, e2, hx, hZ, hown, hby, hr⟩ rfl E2 ⟨_, A2, O2, r1, r2, r3⟩).of st2
theorem g_aastore (X : Sd l Z n0 y B ml rt R k T h cc ss) {a b : Addr} {C : String} {n : Nat} {f : Nat → Value} (A : AR Z h a C n f) {j : Int32} (i : Nat) (hj : j.toInt = i) (hi : i < n) (I : Ins Z h b C true) (g0 : n0 ≤ a) (hd : decode B pc = .ok (.aastore, 1)) (pc' : Nat) (hp : pc + 1 = pc')
    (K : ∀ T' h', Sd l Z n0 y B ml rt R k T' h' cc ss → Wr h h' a i (.ref b) → Go k n0 Q kc ks T' pc' Ls st) : Go k n0 Q kc ks T pc Ls (.ref b :: .int j :: .ref a :: st) := by
  subst hp; obtain ⟨⟨locs, Y, N⟩, eh, hx, hZ, hown, hby, hr⟩ := X
  obtain ⟨c, A, r0, r1, r2, r3⟩ := A; obtain ⟨q1, q2⟩ := ix_of hj hi
  obtain ⟨T2, h2, X2, e2, W2, st2⟩ := stR Y hx hZ eh A (j := j) (v := .ref b) (by rw [r1]; exact q1) rfl (Sto.of A r0 I) (g := mkF (owm k) pc Ls (.ref b :: .int j :: .ref a :: st)) rfl rfl (Jvm.hb hby hd)
  rw [q2] at X2 W2
  exact (K T2 h2 ⟨⟨_, X2, Fr.snoc X2 N g0⟩, e2, hx, hZ, hown, hby, hr⟩ W2).of st2
theorem g_inst1 (X : Sd l Z n0 y B ml rt R k T h cc ss) {i : Nat} {C : String} {a : Addr} (w : (Jvm.Cond.classLink y.cls i C).before a0 Z = true) (I : Ins Z h a C true) (hd : decode B pc = .ok (.instanceof i, 3)) (pc' : Nat) (hp : pc + 3 = pc')
    (K : ∀ T', Sd l Z n0 y B ml rt R k T' h cc ss → Go k n0 Q kc ks T' pc' Ls (.int 1 :: st)) : Go k n0 Q kc ks T pc Ls (.ref a :: st) := by
  subst hp; obtain ⟨⟨locs, Y, N⟩, eh, hx, hZ, hown, hby, hr⟩ := X
  obtain ⟨T2, X2, e2, st2⟩ := instY Y hx hZ hown w eh I (g := mkF (owm k) pc Ls (.ref a :: st)) rfl rfl (Jvm.hb hby hd)
  exact (K T2 ⟨⟨locs, X2, N⟩, e2, hx, hZ, hown, hby, hr⟩).of st2
theorem g_inst0 (X : Sd l Z n0 y B ml rt R k T h cc ss) {i : Nat} {C D : String} {a : Addr} (w : (Jvm.Cond.classLink y.cls i C).before a0 Z = true) (E : Exa Z h a D) (F : ∃ c t, Z.vm.findClass D = some c ∧ Z.vm.findClass C = some t ∧ Z.vm.assignable c t = false) (hd : decode B pc = .ok (.instanceof i, 3)) (pc' : Nat) (hp : pc + 3 = pc')
    (K : ∀ T', Sd l Z n0 y B ml rt R k T' h cc ss → Go k n0 Q kc ks T' pc' Ls (.int 0 :: st)) : Go k n0 Q kc ks T pc Ls (.ref a :: st) := by
  subst hp; obtain ⟨⟨locs, Y, N⟩, eh, hx, hZ, hown, hby, hr⟩ := X
  obtain ⟨T2, X2, e2, st2⟩ := instNo Y hx hZ hown w eh E F (g := mkF (owm k) pc Ls (.ref a :: st)) rfl rfl (Jvm.hb hby hd)
  exact (K T2 ⟨⟨locs, X2, N⟩, e2, hx, hZ, hown, hby, hr⟩).of st2
theorem g_instN (X : Sd l Z n0 y B ml rt R k T h cc ss) {i : Nat} (hd : decode B pc = .ok (.instanceof i, 3)) (pc' : Nat) (hp : pc + 3 = pc') (K : Go k n0 Q kc ks T pc' Ls (.int 0 :: st)) : Go k n0 Q kc ks T pc Ls (.null :: st) := by
  subst hp; obtain ⟨⟨locs, Y, N⟩, eh, hx, hZ, hown, hby, hr⟩ := X
  exact K.of fun t q => Y.instanceofNull hx (g := mkF (owm k) pc Ls (.null :: st)) rfl rfl (Jvm.hb hby hd) t q
theorem g_cast (X : Sd l Z n0 y B ml rt R k T h cc ss) {i : Nat} {C : String} {a : Addr} (w : (Jvm.Cond.classLink y.cls i C).before a0 Z = true) (I : Ins Z h a C true) (hd : decode B pc = .ok (.checkcast i, 3)) (pc' : Nat) (hp : pc + 3 = pc')
    (K : ∀ T', Sd l Z n0 y B ml rt R k T' h cc ss → Go k n0 Q kc ks T' pc' Ls (.ref a :: st)) : Go k n0 Q kc ks T pc Ls (.ref a :: st) := by
  subst hp; obtain ⟨⟨locs, Y, N⟩, eh, hx, hZ, hown, hby, hr⟩ := X
  obtain ⟨T2, X2, e2, st2⟩ := castY Y hx hZ hown w eh I (g := mkF (owm k) pc Ls (.ref a :: st)) rfl rfl (Jvm.hb hby hd)
  exact (K T2 ⟨⟨locs, X2, N⟩, e2, hx, hZ, hown, hby, hr⟩).of st2
end Ow
theorem own_i0 : (0 : Int32).toInt = 0 := by decide
theorem own_i1 : (1 : Int32).toInt = 1 := by decide
theorem own_z0 : (0 : Int32).toInt = ((0 : Nat) : Int) := by decide
theorem own_nn {o : Int32} (h : 0 ≤ o.toInt) : ¬ o < 0 := by rw [Int32.lt_iff_toInt_lt, own_i0]; omega
theorem own_b1 : ((1 : Int32) &&& 1) = 1 := by decide
theorem own_b0 : ((0 : Int32) &&& 1) = 0 := by decide
theorem own_one : (some (Value.int ((1 : Int32) &&& 1))) = some (.int 1) := congrArg (fun z => some (Value.int z)) own_b1
theorem w0 {Z : State} {a0 : Array Value} (hw : ∀ d ∈ tables_1, d.before a0 Z = true) : (Jvm.Cond.constant "com/example/ithaca/ithaca/index/PositionsPositionPinLaw" (7 : Nat) (1073741823 : Int32)).before a0 Z = true := hw _ (List.mem_of_getElem? (i := 0) rfl)
theorem w1 {Z : State} {a0 : Array Value} (hw : ∀ d ∈ tables_1, d.before a0 Z = true) : (Jvm.Cond.arrayClass Jvm.ClassFile.FieldType.int).before a0 Z = true := hw _ (List.mem_of_getElem? (i := 1) rfl)
theorem w2 {Z : State} {a0 : Array Value} (hw : ∀ d ∈ tables_1, d.before a0 Z = true) : (Jvm.Cond.classLink "com/example/ithaca/ithaca/index/PositionsPositionPinLaw" (8 : Nat) "com/example/ithaca/ithaca/index/Postings").before a0 Z = true := hw _ (List.mem_of_getElem? (i := 2) rfl)
theorem w3 {Z : State} {a0 : Array Value} (hw : ∀ d ∈ tables_1, d.before a0 Z = true) : (Jvm.Cond.instantiable "com/example/ithaca/ithaca/index/Postings" (2 : Nat)).before a0 Z = true := hw _ (List.mem_of_getElem? (i := 3) rfl)
theorem w4 {Z : State} {a0 : Array Value} (hw : ∀ d ∈ tables_1, d.before a0 Z = true) : (Jvm.Cond.initialized "com/example/ithaca/ithaca/index/Postings").before a0 Z = true := hw _ (List.mem_of_getElem? (i := 4) rfl)
theorem w5 {Z : State} {a0 : Array Value} (hw : ∀ d ∈ tables_1, d.before a0 Z = true) : (Jvm.Cond.methodLink "com/example/ithaca/ithaca/index/PositionsPositionPinLaw" (10 : Nat) ({ cls := "com/example/ithaca/ithaca/index/Postings", name := "<init>", desc := "([I[I)V" } : Jvm.MethodName)).before a0 Z = true := hw _ (List.mem_of_getElem? (i := 5) rfl)
theorem w6 {Z : State} {a0 : Array Value} (hw : ∀ d ∈ tables_1, d.before a0 Z = true) : (Jvm.Cond.instanceMethod ({ cls := "com/example/ithaca/ithaca/index/Postings", name := "<init>", desc := "([I[I)V" } : Jvm.MethodName)).before a0 Z = true := hw _ (List.mem_of_getElem? (i := 6) rfl)
theorem w7 {Z : State} {a0 : Array Value} (hw : ∀ d ∈ tables_1, d.before a0 Z = true) : (Jvm.Cond.code ({ cls := "com/example/ithaca/ithaca/index/Postings", name := "<init>", desc := "([I[I)V" } : Jvm.MethodName) prog_59_method_1_code (3 : Nat) (Option.none : Option Jvm.ClassFile.FieldType)).before a0 Z = true := hw _ (List.mem_of_getElem? (i := 7) rfl)
theorem w8 {Z : State} {a0 : Array Value} (hw : ∀ d ∈ tables_1, d.before a0 Z = true) : (Jvm.Cond.methodLink "com/example/ithaca/ithaca/index/Postings" (1 : Nat) ({ cls := "java/lang/Object", name := "<init>", desc := "()V" } : Jvm.MethodName)).before a0 Z = true := hw _ (List.mem_of_getElem? (i := 8) rfl)
theorem w9 {Z : State} {a0 : Array Value} (hw : ∀ d ∈ tables_1, d.before a0 Z = true) : (Jvm.Cond.instanceMethod ({ cls := "java/lang/Object", name := "<init>", desc := "()V" } : Jvm.MethodName)).before a0 Z = true := hw _ (List.mem_of_getElem? (i := 9) rfl)
theorem w10 {Z : State} {a0 : Array Value} (hw : ∀ d ∈ tables_1, d.before a0 Z = true) : (Jvm.Cond.code ({ cls := "java/lang/Object", name := "<init>", desc := "()V" } : Jvm.MethodName) object_method_1_code (1 : Nat) (Option.none : Option Jvm.ClassFile.FieldType)).before a0 Z = true := hw _ (List.mem_of_getElem? (i := 10) rfl)
theorem w11 {Z : State} {a0 : Array Value} (hw : ∀ d ∈ tables_1, d.before a0 Z = true) : (Jvm.Cond.fieldLink "com/example/ithaca/ithaca/index/Postings" (7 : Nat) "com/example/ithaca/ithaca/index/Postings" "documents" "[I").before a0 Z = true := hw _ (List.mem_of_getElem? (i := 11) rfl)
theorem w12 {Z : State} {a0 : Array Value} (hw : ∀ d ∈ tables_1, d.before a0 Z = true) : (Jvm.Cond.laysFinal "com/example/ithaca/ithaca/index/Postings" "com/example/ithaca/ithaca/index/Postings" "documents" "[I").before a0 Z = true := hw _ (List.mem_of_getElem? (i := 12) rfl)
theorem w13 {Z : State} {a0 : Array Value} (hw : ∀ d ∈ tables_1, d.before a0 Z = true) : (Jvm.Cond.fieldLink "com/example/ithaca/ithaca/index/Postings" (13 : Nat) "com/example/ithaca/ithaca/index/Postings" "frequencies" "[I").before a0 Z = true := hw _ (List.mem_of_getElem? (i := 13) rfl)
theorem w14 {Z : State} {a0 : Array Value} (hw : ∀ d ∈ tables_1, d.before a0 Z = true) : (Jvm.Cond.laysFinal "com/example/ithaca/ithaca/index/Postings" "com/example/ithaca/ithaca/index/Postings" "frequencies" "[I").before a0 Z = true := hw _ (List.mem_of_getElem? (i := 14) rfl)
theorem w15 {Z : State} {a0 : Array Value} (hw : ∀ d ∈ tables_1, d.before a0 Z = true) : (Jvm.Cond.classLink "com/example/ithaca/ithaca/index/PositionsPositionPinLaw" (13 : Nat) "com/example/ithaca/ithaca/index/Positions").before a0 Z = true := hw _ (List.mem_of_getElem? (i := 15) rfl)
theorem w16 {Z : State} {a0 : Array Value} (hw : ∀ d ∈ tables_1, d.before a0 Z = true) : (Jvm.Cond.instantiable "com/example/ithaca/ithaca/index/Positions" (3 : Nat)).before a0 Z = true := hw _ (List.mem_of_getElem? (i := 16) rfl)
theorem w17 {Z : State} {a0 : Array Value} (hw : ∀ d ∈ tables_1, d.before a0 Z = true) : (Jvm.Cond.initialized "com/example/ithaca/ithaca/index/Positions").before a0 Z = true := hw _ (List.mem_of_getElem? (i := 17) rfl)
theorem w18 {Z : State} {a0 : Array Value} (hw : ∀ d ∈ tables_1, d.before a0 Z = true) : (Jvm.Cond.methodLink "com/example/ithaca/ithaca/index/PositionsPositionPinLaw" (15 : Nat) ({ cls := "com/example/ithaca/ithaca/index/Positions", name := "<init>", desc := "(Lcom/example/ithaca/ithaca/index/Postings;[I)V" } : Jvm.MethodName)).before a0 Z = true := hw _ (List.mem_of_getElem? (i := 18) rfl)
theorem w19 {Z : State} {a0 : Array Value} (hw : ∀ d ∈ tables_1, d.before a0 Z = true) : (Jvm.Cond.instanceMethod ({ cls := "com/example/ithaca/ithaca/index/Positions", name := "<init>", desc := "(Lcom/example/ithaca/ithaca/index/Postings;[I)V" } : Jvm.MethodName)).before a0 Z = true := hw _ (List.mem_of_getElem? (i := 19) rfl)
theorem w20 {Z : State} {a0 : Array Value} (hw : ∀ d ∈ tables_1, d.before a0 Z = true) : (Jvm.Cond.code ({ cls := "com/example/ithaca/ithaca/index/Positions", name := "<init>", desc := "(Lcom/example/ithaca/ithaca/index/Postings;[I)V" } : Jvm.MethodName) prog_57_method_1_code (4 : Nat) (Option.none : Option Jvm.ClassFile.FieldType)).before a0 Z = true := hw _ (List.mem_of_getElem? (i := 20) rfl)
theorem w21 {Z : State} {a0 : Array Value} (hw : ∀ d ∈ tables_1, d.before a0 Z = true) : (Jvm.Cond.methodLink "com/example/ithaca/ithaca/index/Positions" (3 : Nat) ({ cls := "java/lang/Object", name := "<init>", desc := "()V" } : Jvm.MethodName)).before a0 Z = true := hw _ (List.mem_of_getElem? (i := 21) rfl)
theorem w22 {Z : State} {a0 : Array Value} (hw : ∀ d ∈ tables_1, d.before a0 Z = true) : (Jvm.Cond.fieldLink "com/example/ithaca/ithaca/index/Positions" (9 : Nat) "com/example/ithaca/ithaca/index/Positions" "postings" "Lcom/example/ithaca/ithaca/index/Postings;").before a0 Z = true := hw _ (List.mem_of_getElem? (i := 22) rfl)
theorem w23 {Z : State} {a0 : Array Value} (hw : ∀ d ∈ tables_1, d.before a0 Z = true) : (Jvm.Cond.laysFinal "com/example/ithaca/ithaca/index/Positions" "com/example/ithaca/ithaca/index/Positions" "postings" "Lcom/example/ithaca/ithaca/index/Postings;").before a0 Z = true := hw _ (List.mem_of_getElem? (i := 23) rfl)
theorem w24 {Z : State} {a0 : Array Value} (hw : ∀ d ∈ tables_1, d.before a0 Z = true) : (Jvm.Cond.fieldLink "com/example/ithaca/ithaca/index/Positions" (15 : Nat) "com/example/ithaca/ithaca/index/Positions" "positions" "[I").before a0 Z = true := hw _ (List.mem_of_getElem? (i := 24) rfl)
theorem w25 {Z : State} {a0 : Array Value} (hw : ∀ d ∈ tables_1, d.before a0 Z = true) : (Jvm.Cond.laysFinal "com/example/ithaca/ithaca/index/Positions" "com/example/ithaca/ithaca/index/Positions" "positions" "[I").before a0 Z = true := hw _ (List.mem_of_getElem? (i := 25) rfl)
theorem w26 {Z : State} {a0 : Array Value} (hw : ∀ d ∈ tables_1, d.before a0 Z = true) : (Jvm.Cond.methodLink "com/example/ithaca/ithaca/index/Positions" (19 : Nat) ({ cls := "com/example/ithaca/ithaca/index/Postings", name := "size", desc := "()I" } : Jvm.MethodName)).before a0 Z = true := hw _ (List.mem_of_getElem? (i := 26) rfl)
theorem w27 {Z : State} {a0 : Array Value} (hw : ∀ d ∈ tables_1, d.before a0 Z = true) : (Jvm.Cond.declares ({ cls := "com/example/ithaca/ithaca/index/Postings", name := "size", desc := "()I" } : Jvm.MethodName)).before a0 Z = true := hw _ (List.mem_of_getElem? (i := 27) rfl)
theorem w28 {Z : State} {a0 : Array Value} (hw : ∀ d ∈ tables_1, d.before a0 Z = true) : (Jvm.Cond.instanceMethod ({ cls := "com/example/ithaca/ithaca/index/Postings", name := "size", desc := "()I" } : Jvm.MethodName)).before a0 Z = true := hw _ (List.mem_of_getElem? (i := 28) rfl)
theorem w29 {Z : State} {a0 : Array Value} (hw : ∀ d ∈ tables_1, d.before a0 Z = true) : (Jvm.Cond.selects "com/example/ithaca/ithaca/index/Postings" ({ cls := "com/example/ithaca/ithaca/index/Postings", name := "size", desc := "()I" } : Jvm.MethodName) ({ cls := "com/example/ithaca/ithaca/index/Postings", name := "size", desc := "()I" } : Jvm.MethodName)).before a0 Z = true := hw _ (List.mem_of_getElem? (i := 29) rfl)
theorem w30 {Z : State} {a0 : Array Value} (hw : ∀ d ∈ tables_1, d.before a0 Z = true) : (Jvm.Cond.code ({ cls := "com/example/ithaca/ithaca/index/Postings", name := "size", desc := "()I" } : Jvm.MethodName) prog_59_method_2_code (1 : Nat) (Option.some Jvm.ClassFile.FieldType.int)).before a0 Z = true := hw _ (List.mem_of_getElem? (i := 30) rfl)
theorem w31 {Z : State} {a0 : Array Value} (hw : ∀ d ∈ tables_1, d.before a0 Z = true) : (Jvm.Cond.fieldLink "com/example/ithaca/ithaca/index/Positions" (25 : Nat) "com/example/ithaca/ithaca/index/Positions" "starts" "[I").before a0 Z = true := hw _ (List.mem_of_getElem? (i := 31) rfl)
theorem w32 {Z : State} {a0 : Array Value} (hw : ∀ d ∈ tables_1, d.before a0 Z = true) : (Jvm.Cond.laysFinal "com/example/ithaca/ithaca/index/Positions" "com/example/ithaca/ithaca/index/Positions" "starts" "[I").before a0 Z = true := hw _ (List.mem_of_getElem? (i := 32) rfl)
theorem w33 {Z : State} {a0 : Array Value} (hw : ∀ d ∈ tables_1, d.before a0 Z = true) : (Jvm.Cond.methodLink "com/example/ithaca/ithaca/index/Positions" (28 : Nat) ({ cls := "com/example/ithaca/ithaca/index/Postings", name := "frequency", desc := "(I)I" } : Jvm.MethodName)).before a0 Z = true := hw _ (List.mem_of_getElem? (i := 33) rfl)
theorem w34 {Z : State} {a0 : Array Value} (hw : ∀ d ∈ tables_1, d.before a0 Z = true) : (Jvm.Cond.declares ({ cls := "com/example/ithaca/ithaca/index/Postings", name := "frequency", desc := "(I)I" } : Jvm.MethodName)).before a0 Z = true := hw _ (List.mem_of_getElem? (i := 34) rfl)
theorem w35 {Z : State} {a0 : Array Value} (hw : ∀ d ∈ tables_1, d.before a0 Z = true) : (Jvm.Cond.instanceMethod ({ cls := "com/example/ithaca/ithaca/index/Postings", name := "frequency", desc := "(I)I" } : Jvm.MethodName)).before a0 Z = true := hw _ (List.mem_of_getElem? (i := 35) rfl)
theorem w36 {Z : State} {a0 : Array Value} (hw : ∀ d ∈ tables_1, d.before a0 Z = true) : (Jvm.Cond.selects "com/example/ithaca/ithaca/index/Postings" ({ cls := "com/example/ithaca/ithaca/index/Postings", name := "frequency", desc := "(I)I" } : Jvm.MethodName) ({ cls := "com/example/ithaca/ithaca/index/Postings", name := "frequency", desc := "(I)I" } : Jvm.MethodName)).before a0 Z = true := hw _ (List.mem_of_getElem? (i := 36) rfl)
theorem w37 {Z : State} {a0 : Array Value} (hw : ∀ d ∈ tables_1, d.before a0 Z = true) : (Jvm.Cond.code ({ cls := "com/example/ithaca/ithaca/index/Postings", name := "frequency", desc := "(I)I" } : Jvm.MethodName) prog_59_method_4_code (2 : Nat) (Option.some Jvm.ClassFile.FieldType.int)).before a0 Z = true := hw _ (List.mem_of_getElem? (i := 37) rfl)
theorem w38 {Z : State} {a0 : Array Value} (hw : ∀ d ∈ tables_1, d.before a0 Z = true) : (Jvm.Cond.constant "com/example/ithaca/ithaca/index/PositionsPositionPinLaw" (18 : Nat) (2147483647 : Int32)).before a0 Z = true := hw _ (List.mem_of_getElem? (i := 38) rfl)
theorem w39 {Z : State} {a0 : Array Value} (hw : ∀ d ∈ tables_1, d.before a0 Z = true) : (Jvm.Cond.methodLink "com/example/ithaca/ithaca/index/PositionsPositionPinLaw" (19 : Nat) ({ cls := "com/example/ithaca/ithaca/index/Positions", name := "position", desc := "(II)I" } : Jvm.MethodName)).before a0 Z = true := hw _ (List.mem_of_getElem? (i := 39) rfl)
theorem w40 {Z : State} {a0 : Array Value} (hw : ∀ d ∈ tables_1, d.before a0 Z = true) : (Jvm.Cond.declares ({ cls := "com/example/ithaca/ithaca/index/Positions", name := "position", desc := "(II)I" } : Jvm.MethodName)).before a0 Z = true := hw _ (List.mem_of_getElem? (i := 40) rfl)
theorem w41 {Z : State} {a0 : Array Value} (hw : ∀ d ∈ tables_1, d.before a0 Z = true) : (Jvm.Cond.instanceMethod ({ cls := "com/example/ithaca/ithaca/index/Positions", name := "position", desc := "(II)I" } : Jvm.MethodName)).before a0 Z = true := hw _ (List.mem_of_getElem? (i := 41) rfl)
theorem w42 {Z : State} {a0 : Array Value} (hw : ∀ d ∈ tables_1, d.before a0 Z = true) : (Jvm.Cond.selects "com/example/ithaca/ithaca/index/Positions" ({ cls := "com/example/ithaca/ithaca/index/Positions", name := "position", desc := "(II)I" } : Jvm.MethodName) ({ cls := "com/example/ithaca/ithaca/index/Positions", name := "position", desc := "(II)I" } : Jvm.MethodName)).before a0 Z = true := hw _ (List.mem_of_getElem? (i := 42) rfl)
theorem w43 {Z : State} {a0 : Array Value} (hw : ∀ d ∈ tables_1, d.before a0 Z = true) : (Jvm.Cond.code ({ cls := "com/example/ithaca/ithaca/index/Positions", name := "position", desc := "(II)I" } : Jvm.MethodName) prog_57_method_3_code (3 : Nat) (Option.some Jvm.ClassFile.FieldType.int)).before a0 Z = true := hw _ (List.mem_of_getElem? (i := 43) rfl)
theorem w44 {Z : State} {a0 : Array Value} (hw : ∀ d ∈ tables_1, d.before a0 Z = true) : (Jvm.Cond.methodLink "com/example/ithaca/ithaca/index/Positions" (32 : Nat) ({ cls := "java/util/Objects", name := "checkIndex", desc := "(II)I" } : Jvm.MethodName)).before a0 Z = true := hw _ (List.mem_of_getElem? (i := 44) rfl)
theorem w45 {Z : State} {a0 : Array Value} (hw : ∀ d ∈ tables_1, d.before a0 Z = true) : (Jvm.Cond.static ({ cls := "java/util/Objects", name := "checkIndex", desc := "(II)I" } : Jvm.MethodName)).before a0 Z = true := hw _ (List.mem_of_getElem? (i := 45) rfl)
theorem w46 {Z : State} {a0 : Array Value} (hw : ∀ d ∈ tables_1, d.before a0 Z = true) : (Jvm.Cond.initialized "java/util/Objects").before a0 Z = true := hw _ (List.mem_of_getElem? (i := 46) rfl)
theorem w47 {Z : State} {a0 : Array Value} (hw : ∀ d ∈ tables_1, d.before a0 Z = true) : (Jvm.Cond.code ({ cls := "java/util/Objects", name := "checkIndex", desc := "(II)I" } : Jvm.MethodName) jdk_31_method_17_code (2 : Nat) (Option.some Jvm.ClassFile.FieldType.int)).before a0 Z = true := hw _ (List.mem_of_getElem? (i := 47) rfl)
theorem w48 {Z : State} {a0 : Array Value} (hw : ∀ d ∈ tables_1, d.before a0 Z = true) : (Jvm.Cond.methodLink "java/util/Objects" (105 : Nat) ({ cls := "jdk/internal/util/Preconditions", name := "checkIndex", desc := "(IILjava/util/function/BiFunction;)I" } : Jvm.MethodName)).before a0 Z = true := hw _ (List.mem_of_getElem? (i := 48) rfl)
theorem w49 {Z : State} {a0 : Array Value} (hw : ∀ d ∈ tables_1, d.before a0 Z = true) : (Jvm.Cond.static ({ cls := "jdk/internal/util/Preconditions", name := "checkIndex", desc := "(IILjava/util/function/BiFunction;)I" } : Jvm.MethodName)).before a0 Z = true := hw _ (List.mem_of_getElem? (i := 49) rfl)
theorem w50 {Z : State} {a0 : Array Value} (hw : ∀ d ∈ tables_1, d.before a0 Z = true) : (Jvm.Cond.initialized "jdk/internal/util/Preconditions").before a0 Z = true := hw _ (List.mem_of_getElem? (i := 50) rfl)
theorem w51 {Z : State} {a0 : Array Value} (hw : ∀ d ∈ tables_1, d.before a0 Z = true) : (Jvm.Cond.code ({ cls := "jdk/internal/util/Preconditions", name := "checkIndex", desc := "(IILjava/util/function/BiFunction;)I" } : Jvm.MethodName) jdk_41_method_11_code (3 : Nat) (Option.some Jvm.ClassFile.FieldType.int)).before a0 Z = true := hw _ (List.mem_of_getElem? (i := 51) rfl)
theorem pd0 : parseMethodDescriptor "(IILjava/util/function/BiFunction;)I" = some ⟨[.int, .int, (.object "java/util/function/BiFunction")], some .int⟩ := by decide +kernel
theorem pd1 : parseMethodDescriptor "()I" = some ⟨[], some .int⟩ := by decide +kernel
theorem pd2 : parseMethodDescriptor "(I)I" = some ⟨[.int], some .int⟩ := by decide +kernel
theorem pd3 : parseMethodDescriptor "(II)I" = some ⟨[.int, .int], some .int⟩ := by decide +kernel
theorem pd4 : parseMethodDescriptor "([I[I)V" = some ⟨[(.array .int), (.array .int)], none⟩ := by decide +kernel
theorem pd5 : parseMethodDescriptor "(Lcom/example/ithaca/ithaca/index/Postings;[I)V" = some ⟨[(.object "com/example/ithaca/ithaca/index/Postings"), (.array .int)], none⟩ := by decide +kernel
theorem pn0 : Jvm.plainFor (⟨"com/example/ithaca/ithaca/index/Postings", "<init>", "([I[I)V"⟩ : MethodName) = true := by first | exact plainFor_of_name (by first | (simp [Jvm.plainName, overriddenIn]; done) | decide +kernel) | decide +kernel
theorem pn1 : Jvm.plainFor (⟨"com/example/ithaca/ithaca/index/Postings", "size", "()I"⟩ : MethodName) = true := by first | exact plainFor_of_name (by first | (simp [Jvm.plainName, overriddenIn]; done) | decide +kernel) | decide +kernel
theorem pn2 : Jvm.plainFor (⟨"com/example/ithaca/ithaca/index/Postings", "frequency", "(I)I"⟩ : MethodName) = true := by first | exact plainFor_of_name (by first | (simp [Jvm.plainName, overriddenIn]; done) | decide +kernel) | decide +kernel
theorem pn3 : Jvm.plainFor (⟨"jdk/internal/util/Preconditions", "checkIndex", "(IILjava/util/function/BiFunction;)I"⟩ : MethodName) = true := by first | exact plainFor_of_name (by first | (simp [Jvm.plainName, overriddenIn]; done) | decide +kernel) | decide +kernel
theorem pn4 : Jvm.plainFor (⟨"java/util/Objects", "checkIndex", "(II)I"⟩ : MethodName) = true := by first | exact plainFor_of_name (by first | (simp [Jvm.plainName, overriddenIn]; done) | decide +kernel) | decide +kernel
theorem pn5 : Jvm.plainFor (⟨"com/example/ithaca/ithaca/index/Positions", "<init>", "(Lcom/example/ithaca/ithaca/index/Postings;[I)V"⟩ : MethodName) = true := by first | exact plainFor_of_name (by first | (simp [Jvm.plainName, overriddenIn]; done) | decide +kernel) | decide +kernel
theorem pn6 : Jvm.plainFor (⟨"com/example/ithaca/ithaca/index/Positions", "position", "(II)I"⟩ : MethodName) = true := by first | exact plainFor_of_name (by first | (simp [Jvm.plainName, overriddenIn]; done) | decide +kernel) | decide +kernel
theorem pn7 : Jvm.plainFor (⟨"com/example/ithaca/ithaca/index/PositionsPositionPinLaw", "law", "(IIII)Z"⟩ : MethodName) = true := by first | exact plainFor_of_name (by first | (simp [Jvm.plainName, overriddenIn]; done) | decide +kernel) | decide +kernel
def own_f3 (a b c : Int32) (i : Nat) : Int32 := if i = 0 then a else if i = 1 then b else c
def own_f4 (a b c d : Int32) (i : Nat) : Int32 := if i = 0 then a else if i = 1 then b else if i = 2 then c else d
theorem own_q4 {x v : Int32} (h : (x &&& (3 : Int32)) + (1 : Int32) = v) : 1 ≤ v.toInt ∧ v.toInt ≤ 4 := by
  have q := c_and x 3 (by decide); have a := c_iadd (x &&& 3) 1; rw [h] at a; have r := rng32 v
  have e3 : (3 : Int32).toInt = 3 := by decide
  have e1 : (1 : Int32).toInt = 1 := by decide
  omega
theorem own_m3 (m : Int32) : (m &&& 2147483647) % 3 = 0 ∨ (m &&& 2147483647) % 3 = 1 ∨ (m &&& 2147483647) % 3 = 2 := by
  have h := c_and m 2147483647 (by decide)
  have h2 := (c_irem (m &&& 2147483647) 3 3 (by decide)).1 h.1
  simp only [← Int32.toInt_inj, h2, show (0 : Int32).toInt = 0 by decide, show (1 : Int32).toInt = 1 by decide, show (2 : Int32).toInt = 2 by decide]
  omega
theorem own_nz {v : Int32} (h : 1 ≤ v.toInt ∧ v.toInt ≤ 4) : v ≠ 0 := fun q => by
  subst q; have e : (0 : Int32).toInt = 0 := by decide
  omega
theorem own_occ {b f o : Int32} (hf : 1 ≤ f.toInt ∧ f.toInt ≤ 4) (h : (b &&& (2147483647 : Int32)) % f = o) : 0 ≤ o.toInt ∧ o.toInt < f.toInt := by
  have q := c_and b 2147483647 (by decide)
  have r := (c_iremV (b &&& 2147483647) f).1 q.1 (by omega)
  rw [h] at r; omega
theorem own_ix {t o : Int32} {m : Nat} (ht : t.toInt = m) (ho : 0 ≤ o.toInt) (hb : m + o.toInt < 1000) : (t + o).toInt = ((m + o.toInt.toNat : Nat) : Int) := by
  have a := c_iadd t o; have r := rng32 (t + o); omega
theorem own_fin {s t o : Int32} {m : Nat} (h : (t + o).toInt = (m : Int)) : s + Int32.ofNat m = s + t + o := by
  have r := rng32 (t + o)
  have e : Int32.ofNat m = t + o := Int32.toInt_inj.mp (by rw [h, Int32.toInt_ofNat_of_lt (by omega)])
  rw [e, Int32.add_assoc]
theorem d1_0 : decode prog_59_method_1_code 0 = .ok (.aload_n 0, 1) := by decide +kernel
theorem d1_1 : decode prog_59_method_1_code 1 = .ok (.invokespecial 1, 3) := by decide +kernel
theorem d1_4 : decode prog_59_method_1_code 4 = .ok (.aload_n 0, 1) := by decide +kernel
theorem d1_5 : decode prog_59_method_1_code 5 = .ok (.aload_n 1, 1) := by decide +kernel
theorem d1_6 : decode prog_59_method_1_code 6 = .ok (.putfield 7, 3) := by decide +kernel
theorem d1_9 : decode prog_59_method_1_code 9 = .ok (.aload_n 0, 1) := by decide +kernel
theorem d1_10 : decode prog_59_method_1_code 10 = .ok (.aload_n 2, 1) := by decide +kernel
theorem d1_11 : decode prog_59_method_1_code 11 = .ok (.putfield 13, 3) := by decide +kernel
theorem d1_14 : decode prog_59_method_1_code 14 = .ok (.return_, 1) := by decide +kernel
abbrev Q1 (Z : State) (a : Addr) (d : Addr) (f : Addr)  (h0 : Heap) : Option Value → Heap → Prop := fun v h => v = none ∧ Keep h0 h [a] ∧ Fld Z h a "com/example/ithaca/ithaca/index/Postings" "documents" "[I" (.ref d) ∧ Fld Z h a "com/example/ithaca/ithaca/index/Postings" "frequencies" "[I" (.ref f)
set_option maxRecDepth 65536 in
set_option maxHeartbeats 40000000 in
theorem rm1 {l : Launch} {Z : State} {a0 : Array Value} (hw : ∀ d ∈ tables_1, d.before a0 Z = true) (n0 : Nat) (a : Addr) (d : Addr) (f : Addr)  (h0 : Heap) (Fdocuments : Fld Z h0 a "com/example/ithaca/ithaca/index/Postings" "documents" "[I" .null) (Ffrequencies : Fld Z h0 a "com/example/ithaca/ithaca/index/Postings" "frequencies" "[I" .null) (E : Exa Z h0 a "com/example/ithaca/ithaca/index/Postings") (g_a : n0 ≤ a) :
    Met l Z n0 (⟨"com/example/ithaca/ithaca/index/Postings", "<init>", "([I[I)V"⟩ : MethodName) prog_59_method_1_code 3 none [] ({ frames := 1, cells := 0, slots := 0, locals := 12 } : Room) #[(.ref a), (.ref d), (.ref f)] h0 (Q1 Z a d f h0) 0 0 := by
  refine Met.of pn0 (Ls := #[.val (.ref a), .val (.ref d), .val (.ref f)]) rfl (fun k T0 X0 => ?_)
  have K0 : Keep h0 h0 [a] := Keep.refl _ _
  refine g_aloadN X0 d1_0 rfl rfl 1 rfl ?_
  refine g_initO X0 (w8 hw) (w9 hw) (w10 hw) rfl (by decide) (Nat.le_of_ble_eq_true rfl) d1_1 4 rfl (fun T1 X1 => ?_)
  refine g_aloadN X1 d1_4 rfl rfl 5 rfl ?_
  refine g_aloadN X1 d1_5 rfl rfl 6 rfl ?_
  refine g_putFin X1 (w11 hw) Fdocuments E (w12 hw) rfl rfl (w3 hw) g_a (.array .int) (by decide) rfl rfl d1_6 9 rfl (fun T2 h2 X2 W2 => ?_)
  have F2 := Fdocuments.same W2
  have K3 : Keep h0 h2 [a] := K0.wr W2 (Or.inl (by simp))
  refine g_aloadN X2 d1_9 rfl rfl 10 rfl ?_
  refine g_aloadN X2 d1_10 rfl rfl 11 rfl ?_
  have ft4 := (E.wr W2)
  have ft5 := (Ffrequencies.other W2 (Or.inr (slot_ne (Or.inr (w14 hw)) (Or.inr (w12 hw)) (by decide) (t := (.array .int)) (t' := (.array .int)) (by decide) (by decide))))
  refine g_putFin X2 (w13 hw) ft5 ft4 (w14 hw) rfl rfl (w3 hw) g_a (.array .int) (by decide) rfl rfl d1_11 14 rfl (fun T6 h6 X6 W6 => ?_)
  have F6 := ft5.same W6
  have K7 : Keep h0 h6 [a] := K3.wr W6 (Or.inl (by simp))
  have ft8 := (F2.other W6 (Or.inr (slot_ne (Or.inr (w12 hw)) (Or.inr (w14 hw)) (by decide) (t := (.array .int)) (t' := (.array .int)) (by decide) (by decide))))
  exact g_ret X6 d1_14 (by decide) (by decide) ⟨rfl, K7, ft8, F6⟩
theorem d2_0 : decode prog_59_method_2_code 0 = .ok (.aload_n 0, 1) := by decide +kernel
theorem d2_1 : decode prog_59_method_2_code 1 = .ok (.getfield 7, 3) := by decide +kernel
theorem d2_4 : decode prog_59_method_2_code 4 = .ok (.arraylength, 1) := by decide +kernel
theorem d2_5 : decode prog_59_method_2_code 5 = .ok (.ireturn, 1) := by decide +kernel
abbrev Q2 (a : Addr) (d : Addr) (fd : Nat → Value) (h0 : Heap) : Option Value → Heap → Prop := fun v h => v = some (.int 3) ∧ h0 = h
set_option maxRecDepth 65536 in
set_option maxHeartbeats 40000000 in
theorem rm2 {l : Launch} {Z : State} {a0 : Array Value} (hw : ∀ d ∈ tables_1, d.before a0 Z = true) (n0 : Nat) (a : Addr) (d : Addr) (fd : Nat → Value) (h0 : Heap) (Fd : Fld Z h0 a "com/example/ithaca/ithaca/index/Postings" "documents" "[I" (.ref d)) (Ad : AI Z h0 d .int 3 fd) :
    Met l Z n0 (⟨"com/example/ithaca/ithaca/index/Postings", "size", "()I"⟩ : MethodName) prog_59_method_2_code 1 (some .int) [] ({ frames := 0, cells := 0, slots := 0, locals := 0 } : Room) #[(.ref a)] h0 (Q2 a d fd h0) 0 0 := by
  refine Met.of pn1 (Ls := #[.val (.ref a)]) rfl (fun k T0 X0 => ?_)
  refine g_aloadN X0 d2_0 rfl rfl 1 rfl ?_
  refine g_getF X0 (w11 hw) Via.refl Fd d2_1 4 rfl (fun T1 X1 => ?_)
  refine g_alen X1 Ad (3 : Int32) (by decide) d2_4 5 rfl ?_
  exact g_retI X1 d2_5 (by decide) (by decide) ⟨rfl, rfl⟩
theorem d3_0 : decode prog_59_method_4_code 0 = .ok (.aload_n 0, 1) := by decide +kernel
theorem d3_1 : decode prog_59_method_4_code 1 = .ok (.getfield 13, 3) := by decide +kernel
theorem d3_4 : decode prog_59_method_4_code 4 = .ok (.iload_n 1, 1) := by decide +kernel
theorem d3_5 : decode prog_59_method_4_code 5 = .ok (.iaload, 1) := by decide +kernel
theorem d3_6 : decode prog_59_method_4_code 6 = .ok (.ireturn, 1) := by decide +kernel
abbrev Q3 (a : Addr) (i : Int32) (f : Addr) (g : Nat → Int32) (i' : Nat) (h0 : Heap) : Option Value → Heap → Prop := fun v h => v = some (.int (g i')) ∧ h0 = h
set_option maxRecDepth 65536 in
set_option maxHeartbeats 40000000 in
theorem rm3 {l : Launch} {Z : State} {a0 : Array Value} (hw : ∀ d ∈ tables_1, d.before a0 Z = true) (n0 : Nat) (a : Addr) (i : Int32) (f : Addr) (g : Nat → Int32) (i' : Nat) (h0 : Heap) (Ff : Fld Z h0 a "com/example/ithaca/ithaca/index/Postings" "frequencies" "[I" (.ref f)) (Af : AI Z h0 f .int 3 (fun j => .int (g j))) (hi : i.toInt = i') (hi2 : i' < 3) :
    Met l Z n0 (⟨"com/example/ithaca/ithaca/index/Postings", "frequency", "(I)I"⟩ : MethodName) prog_59_method_4_code 2 (some .int) [] ({ frames := 0, cells := 0, slots := 0, locals := 0 } : Room) #[(.ref a), (.int i)] h0 (Q3 a i f g i' h0) 0 0 := by
  refine Met.of pn2 (Ls := #[.val (.ref a), .val (.int i)]) rfl (fun k T0 X0 => ?_)
  refine g_aloadN X0 d3_0 rfl rfl 1 rfl ?_
  refine g_getF X0 (w13 hw) Via.refl Ff d3_1 4 rfl (fun T1 X1 => ?_)
  refine g_iloadN X1 d3_4 rfl 5 rfl ?_
  refine g_iaload X1 Af i' hi hi2 (.int (g i')) rfl d3_5 6 rfl ?_
  exact g_retI X1 d3_6 (by decide) (by decide) ⟨rfl, rfl⟩
theorem d4_0 : decode jdk_41_method_11_code 0 = .ok (.iload_n 0, 1) := by decide +kernel
theorem d4_1 : decode jdk_41_method_11_code 1 = .ok (.ifCond .lt 8, 3) := by decide +kernel
theorem d4_4 : decode jdk_41_method_11_code 4 = .ok (.iload_n 0, 1) := by decide +kernel
theorem d4_5 : decode jdk_41_method_11_code 5 = .ok (.iload_n 1, 1) := by decide +kernel
theorem d4_6 : decode jdk_41_method_11_code 6 = .ok (.if_icmp .lt 10, 3) := by decide +kernel
theorem d4_16 : decode jdk_41_method_11_code 16 = .ok (.iload_n 0, 1) := by decide +kernel
theorem d4_17 : decode jdk_41_method_11_code 17 = .ok (.ireturn, 1) := by decide +kernel
abbrev Q4 (i : Int32) (n : Int32)  (h0 : Heap) : Option Value → Heap → Prop := fun v h => v = some (.int i) ∧ h0 = h
set_option maxRecDepth 65536 in
set_option maxHeartbeats 40000000 in
theorem rm4 {l : Launch} {Z : State} {a0 : Array Value} (hw : ∀ d ∈ tables_1, d.before a0 Z = true) (n0 : Nat) (i : Int32) (n : Int32)  (h0 : Heap) (hc1 : ¬ i < 0) (hc2 : i < n) :
    Met l Z n0 (⟨"jdk/internal/util/Preconditions", "checkIndex", "(IILjava/util/function/BiFunction;)I"⟩ : MethodName) jdk_41_method_11_code 3 (some .int) [] ({ frames := 0, cells := 0, slots := 0, locals := 0 } : Room) #[(.int i), (.int n), .null] h0 (Q4 i n h0) 0 0 := by
  refine Met.of pn3 (Ls := #[.val (.int i), .val (.int n), .val .null]) rfl (fun k T0 X0 => ?_)
  refine g_iloadN X0 d4_0 rfl 1 rfl ?_
  refine g_if X0 z_lt d4_1 9 (by decide) (by decide) 4 rfl (fun h1 => ?_) (fun h1 => ?_)
  · exact absurd h1 hc1
  · skip
    refine g_iloadN X0 d4_4 rfl 5 rfl ?_
    refine g_iloadN X0 d4_5 rfl 6 rfl ?_
    refine g_icmp X0 i_lt d4_6 16 (by decide) (by decide) 9 rfl (fun h2 => ?_) (fun h2 => ?_)
    · skip
      refine g_iloadN X0 d4_16 rfl 17 rfl ?_
      exact g_retI X0 d4_17 (by decide) (by decide) ⟨rfl, rfl⟩
    · exact absurd hc2 h2
theorem d5_0 : decode jdk_31_method_17_code 0 = .ok (.iload_n 0, 1) := by decide +kernel
theorem d5_1 : decode jdk_31_method_17_code 1 = .ok (.iload_n 1, 1) := by decide +kernel
theorem d5_2 : decode jdk_31_method_17_code 2 = .ok (.aconst_null, 1) := by decide +kernel
theorem d5_3 : decode jdk_31_method_17_code 3 = .ok (.invokestatic 105, 3) := by decide +kernel
theorem d5_6 : decode jdk_31_method_17_code 6 = .ok (.ireturn, 1) := by decide +kernel
abbrev Q5 (i : Int32) (n : Int32)  (h0 : Heap) : Option Value → Heap → Prop := fun v h => v = some (.int i) ∧ h0 = h
set_option maxRecDepth 65536 in
set_option maxHeartbeats 40000000 in
theorem rm5 {l : Launch} {Z : State} {a0 : Array Value} (hw : ∀ d ∈ tables_1, d.before a0 Z = true) (n0 : Nat) (i : Int32) (n : Int32)  (h0 : Heap) (hc1 : ¬ i < 0) (hc2 : i < n) :
    Met l Z n0 (⟨"java/util/Objects", "checkIndex", "(II)I"⟩ : MethodName) jdk_31_method_17_code 2 (some .int) [] ({ frames := 1, cells := 0, slots := 0, locals := 14 } : Room) #[(.int i), (.int n)] h0 (Q5 i n h0) 0 0 := by
  refine Met.of pn4 (Ls := #[.val (.int i), .val (.int n)]) rfl (fun k T0 X0 => ?_)
  refine g_iloadN X0 d5_0 rfl 1 rfl ?_
  refine g_iloadN X0 d5_1 rfl 2 rfl ?_
  refine g_null X0 d5_2 3 rfl ?_
  refine g_callS X0 [(.int i), (.int n), .null] [] (rm4 hw n0 i n h0 hc1 hc2) (w48 hw) (w49 hw) (w50 hw) (w51 hw) (by decide) pd0 rfl rfl (by decide) (Nat.le_of_ble_eq_true rfl) (by decide) (by decide) d5_3 rfl 6 rfl (fun v1 T1 h1 X1 q1 => ?_)
  obtain ⟨rfl, rfl⟩ := q1
  show Go k n0 (Q5 i n h0) 0 0 T1 6 #[.val (.int i), .val (.int n)] [(.int i)]
  exact g_retI X1 d5_6 (by decide) (by decide) ⟨rfl, rfl⟩
theorem d6_0 : decode prog_57_method_1_code 0 = .ok (.aload_n 0, 1) := by decide +kernel
theorem d6_1 : decode prog_57_method_1_code 1 = .ok (.invokespecial 3, 3) := by decide +kernel
theorem d6_4 : decode prog_57_method_1_code 4 = .ok (.aload_n 0, 1) := by decide +kernel
theorem d6_5 : decode prog_57_method_1_code 5 = .ok (.aload_n 1, 1) := by decide +kernel
theorem d6_6 : decode prog_57_method_1_code 6 = .ok (.putfield 9, 3) := by decide +kernel
theorem d6_9 : decode prog_57_method_1_code 9 = .ok (.aload_n 0, 1) := by decide +kernel
theorem d6_10 : decode prog_57_method_1_code 10 = .ok (.aload_n 2, 1) := by decide +kernel
theorem d6_11 : decode prog_57_method_1_code 11 = .ok (.putfield 15, 3) := by decide +kernel
theorem d6_14 : decode prog_57_method_1_code 14 = .ok (.aload_n 0, 1) := by decide +kernel
theorem d6_15 : decode prog_57_method_1_code 15 = .ok (.aload_n 1, 1) := by decide +kernel
theorem d6_16 : decode prog_57_method_1_code 16 = .ok (.invokevirtual 19, 3) := by decide +kernel
theorem d6_19 : decode prog_57_method_1_code 19 = .ok (.iconst 1, 1) := by decide +kernel
theorem d6_20 : decode prog_57_method_1_code 20 = .ok (.iadd, 1) := by decide +kernel
theorem d6_21 : decode prog_57_method_1_code 21 = .ok (.newarray .int, 2) := by decide +kernel
theorem d6_23 : decode prog_57_method_1_code 23 = .ok (.putfield 25, 3) := by decide +kernel
theorem d6_26 : decode prog_57_method_1_code 26 = .ok (.iconst 0, 1) := by decide +kernel
theorem d6_27 : decode prog_57_method_1_code 27 = .ok (.istore_n 3, 1) := by decide +kernel
theorem d6_28 : decode prog_57_method_1_code 28 = .ok (.iload_n 3, 1) := by decide +kernel
theorem d6_29 : decode prog_57_method_1_code 29 = .ok (.aload_n 1, 1) := by decide +kernel
theorem d6_30 : decode prog_57_method_1_code 30 = .ok (.invokevirtual 19, 3) := by decide +kernel
theorem d6_33 : decode prog_57_method_1_code 33 = .ok (.if_icmp .ge 29, 3) := by decide +kernel
theorem d6_36 : decode prog_57_method_1_code 36 = .ok (.aload_n 0, 1) := by decide +kernel
theorem d6_37 : decode prog_57_method_1_code 37 = .ok (.getfield 25, 3) := by decide +kernel
theorem d6_40 : decode prog_57_method_1_code 40 = .ok (.iload_n 3, 1) := by decide +kernel
theorem d6_41 : decode prog_57_method_1_code 41 = .ok (.iconst 1, 1) := by decide +kernel
theorem d6_42 : decode prog_57_method_1_code 42 = .ok (.iadd, 1) := by decide +kernel
theorem d6_43 : decode prog_57_method_1_code 43 = .ok (.aload_n 0, 1) := by decide +kernel
theorem d6_44 : decode prog_57_method_1_code 44 = .ok (.getfield 25, 3) := by decide +kernel
theorem d6_47 : decode prog_57_method_1_code 47 = .ok (.iload_n 3, 1) := by decide +kernel
theorem d6_48 : decode prog_57_method_1_code 48 = .ok (.iaload, 1) := by decide +kernel
theorem d6_49 : decode prog_57_method_1_code 49 = .ok (.aload_n 1, 1) := by decide +kernel
theorem d6_50 : decode prog_57_method_1_code 50 = .ok (.iload_n 3, 1) := by decide +kernel
theorem d6_51 : decode prog_57_method_1_code 51 = .ok (.invokevirtual 28, 3) := by decide +kernel
theorem d6_54 : decode prog_57_method_1_code 54 = .ok (.iadd, 1) := by decide +kernel
theorem d6_55 : decode prog_57_method_1_code 55 = .ok (.iastore, 1) := by decide +kernel
theorem d6_56 : decode prog_57_method_1_code 56 = .ok (.iinc 3 1, 3) := by decide +kernel
theorem d6_59 : decode prog_57_method_1_code 59 = .ok (.goto (-31), 3) := by decide +kernel
theorem d6_62 : decode prog_57_method_1_code 62 = .ok (.return_, 1) := by decide +kernel
abbrev Q6 (Z : State) (a : Addr) (p : Addr) (q : Addr) (d : Addr) (f : Addr) (fd : Nat → Value) (f0 : Int32) (f1 : Int32) (f2 : Int32) (h0 : Heap) : Option Value → Heap → Prop := fun v h => v = none ∧ Keep h0 h [a] ∧ ∃ b, h0.size ≤ b ∧ Fld Z h a "com/example/ithaca/ithaca/index/Positions" "postings" "Lcom/example/ithaca/ithaca/index/Postings;" (.ref p) ∧ Fld Z h a "com/example/ithaca/ithaca/index/Positions" "positions" "[I" (.ref q) ∧ Fld Z h a "com/example/ithaca/ithaca/index/Positions" "starts" "[I" (.ref b) ∧ AI Z h b .int 4 (fun j => .int ((own_f4 (0 : Int32) ((0 : Int32) + f0) (((0 : Int32) + f0) + f1) ((((0 : Int32) + f0) + f1) + f2)) j))
set_option maxRecDepth 65536 in
set_option maxHeartbeats 40000000 in
theorem rm6 {l : Launch} {Z : State} {a0 : Array Value} (hw : ∀ d ∈ tables_1, d.before a0 Z = true) (n0 : Nat) (a : Addr) (p : Addr) (q : Addr) (d : Addr) (f : Addr) (fd : Nat → Value) (f0 : Int32) (f1 : Int32) (f2 : Int32) (h0 : Heap) (Z0 : n0 ≤ h0.size) (Fa1 : Fld Z h0 a "com/example/ithaca/ithaca/index/Positions" "postings" "Lcom/example/ithaca/ithaca/index/Postings;" .null) (Fa2 : Fld Z h0 a "com/example/ithaca/ithaca/index/Positions" "positions" "[I" .null) (Fa3 : Fld Z h0 a "com/example/ithaca/ithaca/index/Positions" "starts" "[I" .null) (E : Exa Z h0 a "com/example/ithaca/ithaca/index/Positions") (g_a : n0 ≤ a) (Fd : Fld Z h0 p "com/example/ithaca/ithaca/index/Postings" "documents" "[I" (.ref d)) (Ff : Fld Z h0 p "com/example/ithaca/ithaca/index/Postings" "frequencies" "[I" (.ref f)) (Ep : Exa Z h0 p "com/example/ithaca/ithaca/index/Postings") (Ad : AI Z h0 d .int 3 fd) (Af : AI Z h0 f .int 3 (fun j => .int ((own_f3 f0 f1 f2) j))) (npa : p ≠ a) (nda : d ≠ a) (nfa : f ≠ a) :
    Met l Z n0 (⟨"com/example/ithaca/ithaca/index/Positions", "<init>", "(Lcom/example/ithaca/ithaca/index/Postings;[I)V"⟩ : MethodName) prog_57_method_1_code 4 none [] ({ frames := 1, cells := 1, slots := 4, locals := 16 } : Room) #[(.ref a), (.ref p), (.ref q)] h0 (Q6 Z a p q d f fd f0 f1 f2 h0) 1 4 := by
  refine Met.of pn5 (Ls := #[.val (.ref a), .val (.ref p), .val (.ref q), .unset]) rfl (fun k T0 X0 => ?_)
  have K0 : Keep h0 h0 [a] := Keep.refl _ _
  refine g_aloadN X0 d6_0 rfl rfl 1 rfl ?_
  refine g_initO X0 (w21 hw) (w9 hw) (w10 hw) rfl (by decide) (Nat.le_of_ble_eq_true rfl) d6_1 4 rfl (fun T1 X1 => ?_)
  refine g_aloadN X1 d6_4 rfl rfl 5 rfl ?_
  refine g_aloadN X1 d6_5 rfl rfl 6 rfl ?_
  refine g_putFin X1 (w22 hw) Fa1 E (w23 hw) rfl rfl (w16 hw) g_a (.object "com/example/ithaca/ithaca/index/Postings") (by decide) rfl rfl d6_6 9 rfl (fun T2 h2 X2 W2 => ?_)
  have z3 : n0 ≤ h2.size := Nat.le_trans Z0 (Nat.le_of_eq W2.size.symm)
  have F2 := Fa1.same W2
  have K4 : Keep h0 h2 [a] := K0.wr W2 (Or.inl (by simp))
  refine g_aloadN X2 d6_9 rfl rfl 10 rfl ?_
  refine g_aloadN X2 d6_10 rfl rfl 11 rfl ?_
  have ft5 := (E.wr W2)
  have ft6 := (Fa2.other W2 (Or.inr (slot_ne (Or.inr (w25 hw)) (Or.inr (w23 hw)) (by decide) (t := (.array .int)) (t' := (.object "com/example/ithaca/ithaca/index/Postings")) (by decide) (by decide))))
  refine g_putFin X2 (w24 hw) ft6 ft5 (w25 hw) rfl rfl (w16 hw) g_a (.array .int) (by decide) rfl rfl d6_11 14 rfl (fun T7 h7 X7 W7 => ?_)
  have z8 : n0 ≤ h7.size := Nat.le_trans z3 (Nat.le_of_eq W7.size.symm)
  have F7 := ft6.same W7
  have K9 : Keep h0 h7 [a] := K4.wr W7 (Or.inl (by simp))
  refine g_aloadN X7 d6_14 rfl rfl 15 rfl ?_
  refine g_aloadN X7 d6_15 rfl rfl 16 rfl ?_
  have ft10 := ((Fd.other W2 (Or.inl npa)).other W7 (Or.inl npa))
  have ft11 := ((Ad.other W2 nda).other W7 nda)
  have ft13 := ((Ep.wr W2).wr W7)
  refine g_callV X7 p [] [(.ref a)] (rm2 hw n0 p d fd h7 ft10 ft11) ft13 (w26 hw) (w27 hw) (w29 hw) (w28 hw) (w4 hw) (w30 hw) (by decide) pd1 rfl rfl (by decide) (Nat.le_of_ble_eq_true rfl) (by decide) (by decide) d6_16 rfl 19 rfl (fun v12 T12 h12 X12 q12 => ?_)
  obtain ⟨rfl, rfl⟩ := q12
  show Go k n0 (Q6 Z a p q d f fd f0 f1 f2 h0) 1 4 T12 19 #[.val (.ref a), .val (.ref p), .val (.ref q), .unset] [(.int (3 : Int32)), (.ref a)]
  refine g_iconst X12 (1 : Int32) d6_19 rfl 20 rfl ?_
  refine g_iadd X12 d6_20 21 rfl ?_
  rw [(by decide : (3 : Int32) + (1 : Int32) = (4 : Int32))]
  refine g_newP (aty := .int) X12 (w1 hw) 4 4 (by decide) (by decide) (by decide) d6_21 (by decide) (by decide) 23 rfl (fun T14 h14 b14 X14 g14 E14 A14 => ?_)
  have ft15 := (F2.other W7 (Or.inr (slot_ne (Or.inr (w23 hw)) (Or.inr (w25 hw)) (by decide) (t := (.object "com/example/ithaca/ithaca/index/Postings")) (t' := (.array .int)) (by decide) (by decide))))
  have ne16 : a ≠ b14 := Nat.ne_of_lt (Nat.lt_of_lt_of_le ft15.lt (Nat.le_of_eq g14.symm))
  have ne17 : p ≠ b14 := Nat.ne_of_lt (Nat.lt_of_lt_of_le ft10.lt (Nat.le_of_eq g14.symm))
  have ne18 : d ≠ b14 := Nat.ne_of_lt (Nat.lt_of_lt_of_le ft11.lt (Nat.le_of_eq g14.symm))
  have ft19 := ((Af.other W2 nfa).other W7 nfa)
  have ne20 : f ≠ b14 := Nat.ne_of_lt (Nat.lt_of_lt_of_le ft19.lt (Nat.le_of_eq g14.symm))
  have g_b14 : n0 ≤ b14 := Nat.le_trans z8 (Nat.le_of_eq g14.symm)
  have s_b14 : h0.size ≤ b14 := Nat.le_trans K9.1 (Nat.le_of_eq g14.symm)
  have z21 : n0 ≤ h14.size := Nat.le_trans z8 E14.1
  have K22 : Keep h0 h14 [a] := K9.ext E14
  have ft23 := ((ft5.wr W7).ext E14)
  have ft24 := (((Fa3.other W2 (Or.inr (slot_ne (Or.inr (w32 hw)) (Or.inr (w23 hw)) (by decide) (t := (.array .int)) (t' := (.object "com/example/ithaca/ithaca/index/Postings")) (by decide) (by decide)))).other W7 (Or.inr (slot_ne (Or.inr (w32 hw)) (Or.inr (w25 hw)) (by decide) (t := (.array .int)) (t' := (.array .int)) (by decide) (by decide)))).ext E14)
  refine g_putFin X14 (w31 hw) ft24 ft23 (w32 hw) rfl rfl (w16 hw) g_a (.array .int) (by decide) rfl rfl d6_23 26 rfl (fun T25 h25 X25 W25 => ?_)
  have z26 : n0 ≤ h25.size := Nat.le_trans z21 (Nat.le_of_eq W25.size.symm)
  have F25 := ft24.same W25
  have K27 : Keep h0 h25 [a] := K22.wr W25 (Or.inl (by simp))
  refine g_iconst X25 (0 : Int32) d6_26 rfl 27 rfl ?_
  refine g_istoreN X25 d6_27 #[.val (.ref a), .val (.ref p), .val (.ref q), .val (.int (0 : Int32))] rfl 28 rfl ?_
  refine g_iloadN X25 d6_28 rfl 29 rfl ?_
  refine g_aloadN X25 d6_29 rfl rfl 30 rfl ?_
  have ft28 := ((ft10.ext E14).other W25 (Or.inl npa))
  have ft29 := ((ft11.ext E14).other W25 nda)
  have ft31 := ((ft13.ext E14).wr W25)
  refine g_callV X25 p [] [(.int (0 : Int32))] (rm2 hw n0 p d fd h25 ft28 ft29) ft31 (w26 hw) (w27 hw) (w29 hw) (w28 hw) (w4 hw) (w30 hw) (by decide) pd1 rfl rfl (by decide) (Nat.le_of_ble_eq_true rfl) (by decide) (by decide) d6_30 rfl 33 rfl (fun v30 T30 h30 X30 q30 => ?_)
  obtain ⟨rfl, rfl⟩ := q30
  show Go k n0 (Q6 Z a p q d f fd f0 f1 f2 h0) 1 4 T30 33 #[.val (.ref a), .val (.ref p), .val (.ref q), .val (.int (0 : Int32))] [(.int (3 : Int32)), (.int (0 : Int32))]
  refine g_icmpN X30 i_ge d6_33 62 (by decide) (by decide) 36 rfl (fun h32 => ?_) (fun h32 => ?_)
  · skip
    refine g_aloadN X30 d6_36 rfl rfl 37 rfl ?_
    refine g_getF X30 (w31 hw) Via.refl F25 d6_37 40 rfl (fun T33 X33 => ?_)
    refine g_iloadN X33 d6_40 rfl 41 rfl ?_
    refine g_iconst X33 (1 : Int32) d6_41 rfl 42 rfl ?_
    refine g_iadd X33 d6_42 43 rfl ?_
    rw [(by decide : (0 : Int32) + (1 : Int32) = (1 : Int32))]
    refine g_aloadN X33 d6_43 rfl rfl 44 rfl ?_
    refine g_getF X33 (w31 hw) Via.refl F25 d6_44 47 rfl (fun T34 X34 => ?_)
    refine g_iloadN X34 d6_47 rfl 48 rfl ?_
    have ft35 := (A14.other W25 (Ne.symm ne16))
    refine g_iaload X34 ft35 0 (by decide) (by decide) (.int (0 : Int32)) rfl d6_48 49 rfl ?_
    refine g_aloadN X34 d6_49 rfl rfl 50 rfl ?_
    refine g_iloadN X34 d6_50 rfl 51 rfl ?_
    have ft36 := ((((Ff.other W2 (Or.inl npa)).other W7 (Or.inl npa)).ext E14).other W25 (Or.inl npa))
    have ft37 := ((ft19.ext E14).other W25 nfa)
    refine g_callV X34 p [(.int (0 : Int32))] [(.int (0 : Int32)), (.int (1 : Int32)), (.ref b14)] (rm3 hw n0 p (0 : Int32) f (own_f3 f0 f1 f2) 0 h25 ft36 ft37 (by decide) (by decide)) ft31 (w33 hw) (w34 hw) (w36 hw) (w35 hw) (w4 hw) (w37 hw) (by decide) pd2 rfl rfl (by decide) (Nat.le_of_ble_eq_true rfl) (by decide) (by decide) d6_51 rfl 54 rfl (fun v38 T38 h38 X38 q38 => ?_)
    obtain ⟨rfl, rfl⟩ := q38
    show Go k n0 (Q6 Z a p q d f fd f0 f1 f2 h0) 1 4 T38 54 #[.val (.ref a), .val (.ref p), .val (.ref q), .val (.int (0 : Int32))] [(.int f0), (.int (0 : Int32)), (.int (1 : Int32)), (.ref b14)]
    refine g_iadd X38 d6_54 55 rfl ?_
    refine g_iastore X38 ft35 1 (by decide) (by decide) g_b14 d6_55 56 rfl (fun T39 h39 X39 W39 => ?_)
    have z40 : n0 ≤ h39.size := Nat.le_trans z26 (Nat.le_of_eq W39.size.symm)
    have A39 := AI.set ft35 W39
    have K41 : Keep h0 h39 [a] := K27.wr W39 (Or.inr s_b14)
    refine g_iinc X39 (1 : Int32) d6_56 rfl rfl #[.val (.ref a), .val (.ref p), .val (.ref q), .val (.int ((0 : Int32) + (1 : Int32)))] rfl 59 rfl ?_
    rw [(by decide : (0 : Int32) + (1 : Int32) = (1 : Int32))]
    refine g_goto X39 d6_59 28 (by decide) (by decide) ?_
    refine g_iloadN X39 d6_28 rfl 29 rfl ?_
    refine g_aloadN X39 d6_29 rfl rfl 30 rfl ?_
    have ft42 := (ft28.other W39 (Or.inl ne17))
    have ft43 := (ft29.other W39 ne18)
    have ft45 := (ft31.wr W39)
    refine g_callV X39 p [] [(.int (1 : Int32))] (rm2 hw n0 p d fd h39 ft42 ft43) ft45 (w26 hw) (w27 hw) (w29 hw) (w28 hw) (w4 hw) (w30 hw) (by decide) pd1 rfl rfl (by decide) (Nat.le_of_ble_eq_true rfl) (by decide) (by decide) d6_30 rfl 33 rfl (fun v44 T44 h44 X44 q44 => ?_)
    obtain ⟨rfl, rfl⟩ := q44
    show Go k n0 (Q6 Z a p q d f fd f0 f1 f2 h0) 1 4 T44 33 #[.val (.ref a), .val (.ref p), .val (.ref q), .val (.int (1 : Int32))] [(.int (3 : Int32)), (.int (1 : Int32))]
    refine g_icmpN X44 i_ge d6_33 62 (by decide) (by decide) 36 rfl (fun h46 => ?_) (fun h46 => ?_)
    · skip
      refine g_aloadN X44 d6_36 rfl rfl 37 rfl ?_
      have ft47 := (F25.other W39 (Or.inl ne16))
      refine g_getF X44 (w31 hw) Via.refl ft47 d6_37 40 rfl (fun T48 X48 => ?_)
      refine g_iloadN X48 d6_40 rfl 41 rfl ?_
      refine g_iconst X48 (1 : Int32) d6_41 rfl 42 rfl ?_
      refine g_iadd X48 d6_42 43 rfl ?_
      rw [(by decide : (1 : Int32) + (1 : Int32) = (2 : Int32))]
      refine g_aloadN X48 d6_43 rfl rfl 44 rfl ?_
      refine g_getF X48 (w31 hw) Via.refl ft47 d6_44 47 rfl (fun T49 X49 => ?_)
      refine g_iloadN X49 d6_47 rfl 48 rfl ?_
      refine g_iaload X49 A39 1 (by decide) (by decide) (.int ((0 : Int32) + f0)) rfl d6_48 49 rfl ?_
      refine g_aloadN X49 d6_49 rfl rfl 50 rfl ?_
      refine g_iloadN X49 d6_50 rfl 51 rfl ?_
      have ft50 := (ft36.other W39 (Or.inl ne17))
      have ft51 := (ft37.other W39 ne20)
      refine g_callV X49 p [(.int (1 : Int32))] [(.int ((0 : Int32) + f0)), (.int (2 : Int32)), (.ref b14)] (rm3 hw n0 p (1 : Int32) f (own_f3 f0 f1 f2) 1 h39 ft50 ft51 (by decide) (by decide)) ft45 (w33 hw) (w34 hw) (w36 hw) (w35 hw) (w4 hw) (w37 hw) (by decide) pd2 rfl rfl (by decide) (Nat.le_of_ble_eq_true rfl) (by decide) (by decide) d6_51 rfl 54 rfl (fun v52 T52 h52 X52 q52 => ?_)
      obtain ⟨rfl, rfl⟩ := q52
      show Go k n0 (Q6 Z a p q d f fd f0 f1 f2 h0) 1 4 T52 54 #[.val (.ref a), .val (.ref p), .val (.ref q), .val (.int (1 : Int32))] [(.int f1), (.int ((0 : Int32) + f0)), (.int (2 : Int32)), (.ref b14)]
      refine g_iadd X52 d6_54 55 rfl ?_
      refine g_iastore X52 A39 2 (by decide) (by decide) g_b14 d6_55 56 rfl (fun T53 h53 X53 W53 => ?_)
      have z54 : n0 ≤ h53.size := Nat.le_trans z40 (Nat.le_of_eq W53.size.symm)
      have A53 := AI.set A39 W53
      have K55 : Keep h0 h53 [a] := K41.wr W53 (Or.inr s_b14)
      refine g_iinc X53 (1 : Int32) d6_56 rfl rfl #[.val (.ref a), .val (.ref p), .val (.ref q), .val (.int ((1 : Int32) + (1 : Int32)))] rfl 59 rfl ?_
      rw [(by decide : (1 : Int32) + (1 : Int32) = (2 : Int32))]
      refine g_goto X53 d6_59 28 (by decide) (by decide) ?_
      refine g_iloadN X53 d6_28 rfl 29 rfl ?_
      refine g_aloadN X53 d6_29 rfl rfl 30 rfl ?_
      have ft56 := (ft42.other W53 (Or.inl ne17))
      have ft57 := (ft43.other W53 ne18)
      have ft59 := (ft45.wr W53)
      refine g_callV X53 p [] [(.int (2 : Int32))] (rm2 hw n0 p d fd h53 ft56 ft57) ft59 (w26 hw) (w27 hw) (w29 hw) (w28 hw) (w4 hw) (w30 hw) (by decide) pd1 rfl rfl (by decide) (Nat.le_of_ble_eq_true rfl) (by decide) (by decide) d6_30 rfl 33 rfl (fun v58 T58 h58 X58 q58 => ?_)
      obtain ⟨rfl, rfl⟩ := q58
      show Go k n0 (Q6 Z a p q d f fd f0 f1 f2 h0) 1 4 T58 33 #[.val (.ref a), .val (.ref p), .val (.ref q), .val (.int (2 : Int32))] [(.int (3 : Int32)), (.int (2 : Int32))]
      refine g_icmpN X58 i_ge d6_33 62 (by decide) (by decide) 36 rfl (fun h60 => ?_) (fun h60 => ?_)
      · skip
        refine g_aloadN X58 d6_36 rfl rfl 37 rfl ?_
        have ft61 := (ft47.other W53 (Or.inl ne16))
        refine g_getF X58 (w31 hw) Via.refl ft61 d6_37 40 rfl (fun T62 X62 => ?_)
        refine g_iloadN X62 d6_40 rfl 41 rfl ?_
        refine g_iconst X62 (1 : Int32) d6_41 rfl 42 rfl ?_
        refine g_iadd X62 d6_42 43 rfl ?_
        rw [(by decide : (2 : Int32) + (1 : Int32) = (3 : Int32))]
        refine g_aloadN X62 d6_43 rfl rfl 44 rfl ?_
        refine g_getF X62 (w31 hw) Via.refl ft61 d6_44 47 rfl (fun T63 X63 => ?_)
        refine g_iloadN X63 d6_47 rfl 48 rfl ?_
        refine g_iaload X63 A53 2 (by decide) (by decide) (.int (((0 : Int32) + f0) + f1)) rfl d6_48 49 rfl ?_
        refine g_aloadN X63 d6_49 rfl rfl 50 rfl ?_
        refine g_iloadN X63 d6_50 rfl 51 rfl ?_
        have ft64 := (ft50.other W53 (Or.inl ne17))
        have ft65 := (ft51.other W53 ne20)
        refine g_callV X63 p [(.int (2 : Int32))] [(.int (((0 : Int32) + f0) + f1)), (.int (3 : Int32)), (.ref b14)] (rm3 hw n0 p (2 : Int32) f (own_f3 f0 f1 f2) 2 h53 ft64 ft65 (by decide) (by decide)) ft59 (w33 hw) (w34 hw) (w36 hw) (w35 hw) (w4 hw) (w37 hw) (by decide) pd2 rfl rfl (by decide) (Nat.le_of_ble_eq_true rfl) (by decide) (by decide) d6_51 rfl 54 rfl (fun v66 T66 h66 X66 q66 => ?_)
        obtain ⟨rfl, rfl⟩ := q66
        show Go k n0 (Q6 Z a p q d f fd f0 f1 f2 h0) 1 4 T66 54 #[.val (.ref a), .val (.ref p), .val (.ref q), .val (.int (2 : Int32))] [(.int f2), (.int (((0 : Int32) + f0) + f1)), (.int (3 : Int32)), (.ref b14)]
        refine g_iadd X66 d6_54 55 rfl ?_
        refine g_iastore X66 A53 3 (by decide) (by decide) g_b14 d6_55 56 rfl (fun T67 h67 X67 W67 => ?_)
        have z68 : n0 ≤ h67.size := Nat.le_trans z54 (Nat.le_of_eq W67.size.symm)
        have A67 := AI.set A53 W67
        have K69 : Keep h0 h67 [a] := K55.wr W67 (Or.inr s_b14)
        refine g_iinc X67 (1 : Int32) d6_56 rfl rfl #[.val (.ref a), .val (.ref p), .val (.ref q), .val (.int ((2 : Int32) + (1 : Int32)))] rfl 59 rfl ?_
        rw [(by decide : (2 : Int32) + (1 : Int32) = (3 : Int32))]
        refine g_goto X67 d6_59 28 (by decide) (by decide) ?_
        refine g_iloadN X67 d6_28 rfl 29 rfl ?_
        refine g_aloadN X67 d6_29 rfl rfl 30 rfl ?_
        have ft70 := (ft56.other W67 (Or.inl ne17))
        have ft71 := (ft57.other W67 ne18)
        have ft73 := (ft59.wr W67)
        refine g_callV X67 p [] [(.int (3 : Int32))] (rm2 hw n0 p d fd h67 ft70 ft71) ft73 (w26 hw) (w27 hw) (w29 hw) (w28 hw) (w4 hw) (w30 hw) (by decide) pd1 rfl rfl (by decide) (Nat.le_of_ble_eq_true rfl) (by decide) (by decide) d6_30 rfl 33 rfl (fun v72 T72 h72 X72 q72 => ?_)
        obtain ⟨rfl, rfl⟩ := q72
        show Go k n0 (Q6 Z a p q d f fd f0 f1 f2 h0) 1 4 T72 33 #[.val (.ref a), .val (.ref p), .val (.ref q), .val (.int (3 : Int32))] [(.int (3 : Int32)), (.int (3 : Int32))]
        refine g_icmpN X72 i_ge d6_33 62 (by decide) (by decide) 36 rfl (fun h74 => ?_) (fun h74 => ?_)
        · exact absurd h74 (by decide)
        · skip
          have AS : AI Z h67 b14 .int 4 (fun j => .int ((own_f4 (0 : Int32) ((0 : Int32) + f0) (((0 : Int32) + f0) + f1) ((((0 : Int32) + f0) + f1) + f2)) j)) := AI.to A67 (fun i hi => by (have q : i = 0 ∨ i = 1 ∨ i = 2 ∨ i = 3 := by omega); rcases q with rfl | rfl | rfl | rfl <;> rfl)
          have ft75 := (((((ft15.ext E14).other W25 (Or.inr (slot_ne (Or.inr (w23 hw)) (Or.inr (w32 hw)) (by decide) (t := (.object "com/example/ithaca/ithaca/index/Postings")) (t' := (.array .int)) (by decide) (by decide)))).other W39 (Or.inl ne16)).other W53 (Or.inl ne16)).other W67 (Or.inl ne16))
          have ft76 := (((((F7.ext E14).other W25 (Or.inr (slot_ne (Or.inr (w25 hw)) (Or.inr (w32 hw)) (by decide) (t := (.array .int)) (t' := (.array .int)) (by decide) (by decide)))).other W39 (Or.inl ne16)).other W53 (Or.inl ne16)).other W67 (Or.inl ne16))
          have ft77 := (ft61.other W67 (Or.inl ne16))
          exact g_ret X72 d6_62 (by decide) (by decide) ⟨rfl, K69, b14, s_b14, ft75, ft76, ft77, AS⟩
      · exact absurd (by decide) h60
    · exact absurd (by decide) h46
  · exact absurd (by decide) h32
theorem d7_0 : decode prog_57_method_3_code 0 = .ok (.iload_n 2, 1) := by decide +kernel
theorem d7_1 : decode prog_57_method_3_code 1 = .ok (.aload_n 0, 1) := by decide +kernel
theorem d7_2 : decode prog_57_method_3_code 2 = .ok (.getfield 9, 3) := by decide +kernel
theorem d7_5 : decode prog_57_method_3_code 5 = .ok (.iload_n 1, 1) := by decide +kernel
theorem d7_6 : decode prog_57_method_3_code 6 = .ok (.invokevirtual 28, 3) := by decide +kernel
theorem d7_9 : decode prog_57_method_3_code 9 = .ok (.invokestatic 32, 3) := by decide +kernel
theorem d7_12 : decode prog_57_method_3_code 12 = .ok (.pop, 1) := by decide +kernel
theorem d7_13 : decode prog_57_method_3_code 13 = .ok (.aload_n 0, 1) := by decide +kernel
theorem d7_14 : decode prog_57_method_3_code 14 = .ok (.getfield 15, 3) := by decide +kernel
theorem d7_17 : decode prog_57_method_3_code 17 = .ok (.aload_n 0, 1) := by decide +kernel
theorem d7_18 : decode prog_57_method_3_code 18 = .ok (.getfield 25, 3) := by decide +kernel
theorem d7_21 : decode prog_57_method_3_code 21 = .ok (.iload_n 1, 1) := by decide +kernel
theorem d7_22 : decode prog_57_method_3_code 22 = .ok (.iaload, 1) := by decide +kernel
theorem d7_23 : decode prog_57_method_3_code 23 = .ok (.iload_n 2, 1) := by decide +kernel
theorem d7_24 : decode prog_57_method_3_code 24 = .ok (.iadd, 1) := by decide +kernel
theorem d7_25 : decode prog_57_method_3_code 25 = .ok (.iaload, 1) := by decide +kernel
theorem d7_26 : decode prog_57_method_3_code 26 = .ok (.ireturn, 1) := by decide +kernel
abbrev Q7 (a : Addr) (i : Int32) (o : Int32) (p : Addr) (q : Addr) (s : Addr) (f : Addr) (g : Nat → Int32) (sg : Nat → Int32) (pp : Nat → Int32) (i' : Nat) (t' : Nat) (h0 : Heap) : Option Value → Heap → Prop := fun v h => v = some (.int (pp t')) ∧ h0 = h
set_option maxRecDepth 65536 in
set_option maxHeartbeats 40000000 in
theorem rm7 {l : Launch} {Z : State} {a0 : Array Value} (hw : ∀ d ∈ tables_1, d.before a0 Z = true) (n0 : Nat) (a : Addr) (i : Int32) (o : Int32) (p : Addr) (q : Addr) (s : Addr) (f : Addr) (g : Nat → Int32) (sg : Nat → Int32) (pp : Nat → Int32) (i' : Nat) (t' : Nat) (h0 : Heap) (Fa1 : Fld Z h0 a "com/example/ithaca/ithaca/index/Positions" "postings" "Lcom/example/ithaca/ithaca/index/Postings;" (.ref p)) (Fa2 : Fld Z h0 a "com/example/ithaca/ithaca/index/Positions" "positions" "[I" (.ref q)) (Fa3 : Fld Z h0 a "com/example/ithaca/ithaca/index/Positions" "starts" "[I" (.ref s)) (Ff : Fld Z h0 p "com/example/ithaca/ithaca/index/Postings" "frequencies" "[I" (.ref f)) (Ep : Exa Z h0 p "com/example/ithaca/ithaca/index/Postings") (Af : AI Z h0 f .int 3 (fun j => .int (g j))) (As : AI Z h0 s .int 4 (fun j => .int (sg j))) (Ap : AI Z h0 q .int 12 (fun j => .int (pp j))) (hi : i.toInt = i') (hi2 : i' < 3) (hc1 : ¬ o < 0) (hc2 : o < g i') (ht : (sg i' + o).toInt = t') (ht2 : t' < 12) :
    Met l Z n0 (⟨"com/example/ithaca/ithaca/index/Positions", "position", "(II)I"⟩ : MethodName) prog_57_method_3_code 3 (some .int) [] ({ frames := 2, cells := 0, slots := 0, locals := 27 } : Room) #[(.ref a), (.int i), (.int o)] h0 (Q7 a i o p q s f g sg pp i' t' h0) 0 0 := by
  refine Met.of pn6 (Ls := #[.val (.ref a), .val (.int i), .val (.int o)]) rfl (fun k T0 X0 => ?_)
  refine g_iloadN X0 d7_0 rfl 1 rfl ?_
  refine g_aloadN X0 d7_1 rfl rfl 2 rfl ?_
  refine g_getF X0 (w22 hw) Via.refl Fa1 d7_2 5 rfl (fun T1 X1 => ?_)
  refine g_iloadN X1 d7_5 rfl 6 rfl ?_
  refine g_callV X1 p [(.int i)] [(.int o)] (rm3 hw n0 p i f g i' h0 Ff Af hi hi2) Ep (w33 hw) (w34 hw) (w36 hw) (w35 hw) (w4 hw) (w37 hw) (by decide) pd2 rfl rfl (by decide) (Nat.le_of_ble_eq_true rfl) (by decide) (by decide) d7_6 rfl 9 rfl (fun v2 T2 h2 X2 q2 => ?_)
  obtain ⟨rfl, rfl⟩ := q2
  show Go k n0 (Q7 a i o p q s f g sg pp i' t' h0) 0 0 T2 9 #[.val (.ref a), .val (.int i), .val (.int o)] [(.int (g i')), (.int o)]
  refine g_callS X2 [(.int o), (.int (g i'))] [] (rm5 hw n0 o (g i') h0 hc1 hc2) (w44 hw) (w45 hw) (w46 hw) (w47 hw) (by decide) pd3 rfl rfl (by decide) (Nat.le_of_ble_eq_true rfl) (by decide) (by decide) d7_9 rfl 12 rfl (fun v3 T3 h3 X3 q3 => ?_)
  obtain ⟨rfl, rfl⟩ := q3
  show Go k n0 (Q7 a i o p q s f g sg pp i' t' h0) 0 0 T3 12 #[.val (.ref a), .val (.int i), .val (.int o)] [(.int o)]
  refine g_pop X3 d7_12 rfl 13 rfl ?_
  refine g_aloadN X3 d7_13 rfl rfl 14 rfl ?_
  refine g_getF X3 (w24 hw) Via.refl Fa2 d7_14 17 rfl (fun T4 X4 => ?_)
  refine g_aloadN X4 d7_17 rfl rfl 18 rfl ?_
  refine g_getF X4 (w31 hw) Via.refl Fa3 d7_18 21 rfl (fun T5 X5 => ?_)
  refine g_iloadN X5 d7_21 rfl 22 rfl ?_
  refine g_iaload X5 As i' hi (by omega) (.int (sg i')) rfl d7_22 23 rfl ?_
  refine g_iloadN X5 d7_23 rfl 24 rfl ?_
  refine g_iadd X5 d7_24 25 rfl ?_
  refine g_iaload X5 Ap t' ht ht2 (.int (pp t')) rfl d7_25 26 rfl ?_
  exact g_retI X5 d7_26 (by decide) (by decide) ⟨rfl, rfl⟩
abbrev Q0 (fr : Int32) (seed : Int32) (a : Int32) (b : Int32)  (h0 : Heap) : Option Value → Heap → Prop := fun v h => v = some (.int 1)
set_option maxRecDepth 65536 in
set_option maxHeartbeats 40000000 in
theorem rm0 {l : Launch} {Z : State} {a0 : Array Value} (hw : ∀ d ∈ tables_1, d.before a0 Z = true) (n0 : Nat) (fr : Int32) (seed : Int32) (a : Int32) (b : Int32)  (h0 : Heap) (Z0 : n0 ≤ h0.size)  :
    Met l Z n0 x code maxLocals ret tables_1 room_1 #[(.int fr), (.int seed), (.int a), (.int b)] h0 (Q0 fr seed a b h0) 24 128 := by
  refine Met.of pn7 (Ls := #[.val (.int fr), .val (.int seed), .val (.int a), .val (.int b), .unset, .unset, .unset, .unset, .unset, .unset, .unset, .unset, .unset, .unset, .unset, .unset, .unset, .unset]) rfl (fun k T0 X0 => ?_)
  refine g_iloadN X0 at_0 rfl 1 rfl ?_
  refine g_iconst X0 (3 : Int32) at_1 rfl 2 rfl ?_
  refine g_iand X0 at_2 3 rfl ?_
  refine g_iconst X0 (1 : Int32) at_3 rfl 4 rfl ?_
  refine g_iadd X0 at_4 5 rfl ?_
  refine g_istore X0 at_5 #[.val (.int fr), .val (.int seed), .val (.int a), .val (.int b), .val (.int ((fr &&& (3 : Int32)) + (1 : Int32))), .unset, .unset, .unset, .unset, .unset, .unset, .unset, .unset, .unset, .unset, .unset, .unset, .unset] rfl 7 rfl ?_
  generalize hv1 : ((fr &&& (3 : Int32)) + (1 : Int32)) = v1
  refine g_iloadN X0 at_7 rfl 8 rfl ?_
  refine g_iconst X0 (2 : Int32) at_8 rfl 9 rfl ?_
  refine g_ishr X0 at_9 10 rfl ?_
  refine g_iconst X0 (3 : Int32) at_10 rfl 11 rfl ?_
  refine g_iand X0 at_11 12 rfl ?_
  refine g_iconst X0 (1 : Int32) at_12 rfl 13 rfl ?_
  refine g_iadd X0 at_13 14 rfl ?_
  refine g_istore X0 at_14 #[.val (.int fr), .val (.int seed), .val (.int a), .val (.int b), .val (.int v1), .val (.int (((fr >>> ((2 : Int32) &&& 31)) &&& (3 : Int32)) + (1 : Int32))), .unset, .unset, .unset, .unset, .unset, .unset, .unset, .unset, .unset, .unset, .unset, .unset] rfl 16 rfl ?_
  generalize hv2 : (((fr >>> ((2 : Int32) &&& 31)) &&& (3 : Int32)) + (1 : Int32)) = v2
  refine g_iloadN X0 at_16 rfl 17 rfl ?_
  refine g_iconst X0 (4 : Int32) at_17 rfl 18 rfl ?_
  refine g_ishr X0 at_18 19 rfl ?_
  refine g_iconst X0 (3 : Int32) at_19 rfl 20 rfl ?_
  refine g_iand X0 at_20 21 rfl ?_
  refine g_iconst X0 (1 : Int32) at_21 rfl 22 rfl ?_
  refine g_iadd X0 at_22 23 rfl ?_
  refine g_istore X0 at_23 #[.val (.int fr), .val (.int seed), .val (.int a), .val (.int b), .val (.int v1), .val (.int v2), .val (.int (((fr >>> ((4 : Int32) &&& 31)) &&& (3 : Int32)) + (1 : Int32))), .unset, .unset, .unset, .unset, .unset, .unset, .unset, .unset, .unset, .unset, .unset] rfl 25 rfl ?_
  generalize hv3 : (((fr >>> ((4 : Int32) &&& 31)) &&& (3 : Int32)) + (1 : Int32)) = v3
  refine g_iloadN X0 at_25 rfl 26 rfl ?_
  refine g_ldcI X0 (w0 hw) at_26 28 rfl ?_
  refine g_iand X0 at_28 29 rfl ?_
  refine g_istore X0 at_29 #[.val (.int fr), .val (.int seed), .val (.int a), .val (.int b), .val (.int v1), .val (.int v2), .val (.int v3), .val (.int (seed &&& (1073741823 : Int32))), .unset, .unset, .unset, .unset, .unset, .unset, .unset, .unset, .unset, .unset] rfl 31 rfl ?_
  generalize hv4 : (seed &&& (1073741823 : Int32)) = v4
  refine g_iconst X0 (3 : Int32) at_31 rfl 32 rfl ?_
  refine g_newP (aty := .int) X0 (w1 hw) 3 3 (by decide) (by decide) (by decide) at_32 (by decide) (by decide) 34 rfl (fun T5 h5 b5 X5 g5 E5 A5 => ?_)
  have g_b5 : n0 ≤ b5 := Nat.le_trans Z0 (Nat.le_of_eq g5.symm)
  have z6 : n0 ≤ h5.size := Nat.le_trans Z0 E5.1
  refine g_dup X5 at_34 rfl 35 rfl ?_
  refine g_iconst X5 (0 : Int32) at_35 rfl 36 rfl ?_
  refine g_iconst X5 (3 : Int32) at_36 rfl 37 rfl ?_
  refine g_iastore X5 A5 0 (by decide) (by decide) g_b5 at_37 38 rfl (fun T7 h7 X7 W7 => ?_)
  have z8 : n0 ≤ h7.size := Nat.le_trans z6 (Nat.le_of_eq W7.size.symm)
  have A7 := AI.set A5 W7
  refine g_dup X7 at_38 rfl 39 rfl ?_
  refine g_iconst X7 (1 : Int32) at_39 rfl 40 rfl ?_
  refine g_bipush X7 (7 : Int32) at_40 rfl 42 rfl ?_
  refine g_iastore X7 A7 1 (by decide) (by decide) g_b5 at_42 43 rfl (fun T9 h9 X9 W9 => ?_)
  have z10 : n0 ≤ h9.size := Nat.le_trans z8 (Nat.le_of_eq W9.size.symm)
  have A9 := AI.set A7 W9
  refine g_dup X9 at_43 rfl 44 rfl ?_
  refine g_iconst X9 (2 : Int32) at_44 rfl 45 rfl ?_
  refine g_bipush X9 (11 : Int32) at_45 rfl 47 rfl ?_
  refine g_iastore X9 A9 2 (by decide) (by decide) g_b5 at_47 48 rfl (fun T11 h11 X11 W11 => ?_)
  have z12 : n0 ≤ h11.size := Nat.le_trans z10 (Nat.le_of_eq W11.size.symm)
  have A11 := AI.set A9 W11
  refine g_astore X11 at_48 rfl #[.val (.int fr), .val (.int seed), .val (.int a), .val (.int b), .val (.int v1), .val (.int v2), .val (.int v3), .val (.int v4), .val (.ref b5), .unset, .unset, .unset, .unset, .unset, .unset, .unset, .unset, .unset] rfl 50 rfl ?_
  refine g_iconst X11 (3 : Int32) at_50 rfl 51 rfl ?_
  refine g_newP (aty := .int) X11 (w1 hw) 3 3 (by decide) (by decide) (by decide) at_51 (by decide) (by decide) 53 rfl (fun T13 h13 b13 X13 g13 E13 A13 => ?_)
  have ne14 : b5 ≠ b13 := Nat.ne_of_lt (Nat.lt_of_lt_of_le A11.lt (Nat.le_of_eq g13.symm))
  have g_b13 : n0 ≤ b13 := Nat.le_trans z12 (Nat.le_of_eq g13.symm)
  have z15 : n0 ≤ h13.size := Nat.le_trans z12 E13.1
  refine g_dup X13 at_53 rfl 54 rfl ?_
  refine g_iconst X13 (0 : Int32) at_54 rfl 55 rfl ?_
  refine g_iload X13 at_55 rfl 57 rfl ?_
  refine g_iastore X13 A13 0 (by decide) (by decide) g_b13 at_57 58 rfl (fun T16 h16 X16 W16 => ?_)
  have z17 : n0 ≤ h16.size := Nat.le_trans z15 (Nat.le_of_eq W16.size.symm)
  have A16 := AI.set A13 W16
  refine g_dup X16 at_58 rfl 59 rfl ?_
  refine g_iconst X16 (1 : Int32) at_59 rfl 60 rfl ?_
  refine g_iload X16 at_60 rfl 62 rfl ?_
  refine g_iastore X16 A16 1 (by decide) (by decide) g_b13 at_62 63 rfl (fun T18 h18 X18 W18 => ?_)
  have z19 : n0 ≤ h18.size := Nat.le_trans z17 (Nat.le_of_eq W18.size.symm)
  have A18 := AI.set A16 W18
  refine g_dup X18 at_63 rfl 64 rfl ?_
  refine g_iconst X18 (2 : Int32) at_64 rfl 65 rfl ?_
  refine g_iload X18 at_65 rfl 67 rfl ?_
  refine g_iastore X18 A18 2 (by decide) (by decide) g_b13 at_67 68 rfl (fun T20 h20 X20 W20 => ?_)
  have z21 : n0 ≤ h20.size := Nat.le_trans z19 (Nat.le_of_eq W20.size.symm)
  have A20 := AI.set A18 W20
  refine g_astore X20 at_68 rfl #[.val (.int fr), .val (.int seed), .val (.int a), .val (.int b), .val (.int v1), .val (.int v2), .val (.int v3), .val (.int v4), .val (.ref b5), .val (.ref b13), .unset, .unset, .unset, .unset, .unset, .unset, .unset, .unset] rfl 70 rfl ?_
  refine g_bipush X20 (12 : Int32) at_70 rfl 72 rfl ?_
  refine g_newP (aty := .int) X20 (w1 hw) 12 12 (by decide) (by decide) (by decide) at_72 (by decide) (by decide) 74 rfl (fun T22 h22 b22 X22 g22 E22 A22 => ?_)
  have ft23 := ((((A11.ext E13).other W16 ne14).other W18 ne14).other W20 ne14)
  have ne24 : b5 ≠ b22 := Nat.ne_of_lt (Nat.lt_of_lt_of_le ft23.lt (Nat.le_of_eq g22.symm))
  have ne25 : b13 ≠ b22 := Nat.ne_of_lt (Nat.lt_of_lt_of_le A20.lt (Nat.le_of_eq g22.symm))
  have g_b22 : n0 ≤ b22 := Nat.le_trans z21 (Nat.le_of_eq g22.symm)
  have z26 : n0 ≤ h22.size := Nat.le_trans z21 E22.1
  refine g_dup X22 at_74 rfl 75 rfl ?_
  refine g_iconst X22 (0 : Int32) at_75 rfl 76 rfl ?_
  refine g_iload X22 at_76 rfl 78 rfl ?_
  refine g_iastore X22 A22 0 (by decide) (by decide) g_b22 at_78 79 rfl (fun T27 h27 X27 W27 => ?_)
  have z28 : n0 ≤ h27.size := Nat.le_trans z26 (Nat.le_of_eq W27.size.symm)
  have A27 := AI.set A22 W27
  refine g_dup X27 at_79 rfl 80 rfl ?_
  refine g_iconst X27 (1 : Int32) at_80 rfl 81 rfl ?_
  refine g_iload X27 at_81 rfl 83 rfl ?_
  refine g_iconst X27 (1 : Int32) at_83 rfl 84 rfl ?_
  refine g_iadd X27 at_84 85 rfl ?_
  refine g_iastore X27 A27 1 (by decide) (by decide) g_b22 at_85 86 rfl (fun T29 h29 X29 W29 => ?_)
  have z30 : n0 ≤ h29.size := Nat.le_trans z28 (Nat.le_of_eq W29.size.symm)
  have A29 := AI.set A27 W29
  refine g_dup X29 at_86 rfl 87 rfl ?_
  refine g_iconst X29 (2 : Int32) at_87 rfl 88 rfl ?_
  refine g_iload X29 at_88 rfl 90 rfl ?_
  refine g_iconst X29 (2 : Int32) at_90 rfl 91 rfl ?_
  refine g_iadd X29 at_91 92 rfl ?_
  refine g_iastore X29 A29 2 (by decide) (by decide) g_b22 at_92 93 rfl (fun T31 h31 X31 W31 => ?_)
  have z32 : n0 ≤ h31.size := Nat.le_trans z30 (Nat.le_of_eq W31.size.symm)
  have A31 := AI.set A29 W31
  refine g_dup X31 at_93 rfl 94 rfl ?_
  refine g_iconst X31 (3 : Int32) at_94 rfl 95 rfl ?_
  refine g_iload X31 at_95 rfl 97 rfl ?_
  refine g_iconst X31 (3 : Int32) at_97 rfl 98 rfl ?_
  refine g_iadd X31 at_98 99 rfl ?_
  refine g_iastore X31 A31 3 (by decide) (by decide) g_b22 at_99 100 rfl (fun T33 h33 X33 W33 => ?_)
  have z34 : n0 ≤ h33.size := Nat.le_trans z32 (Nat.le_of_eq W33.size.symm)
  have A33 := AI.set A31 W33
  refine g_dup X33 at_100 rfl 101 rfl ?_
  refine g_iconst X33 (4 : Int32) at_101 rfl 102 rfl ?_
  refine g_iload X33 at_102 rfl 104 rfl ?_
  refine g_iconst X33 (4 : Int32) at_104 rfl 105 rfl ?_
  refine g_iadd X33 at_105 106 rfl ?_
  refine g_iastore X33 A33 4 (by decide) (by decide) g_b22 at_106 107 rfl (fun T35 h35 X35 W35 => ?_)
  have z36 : n0 ≤ h35.size := Nat.le_trans z34 (Nat.le_of_eq W35.size.symm)
  have A35 := AI.set A33 W35
  refine g_dup X35 at_107 rfl 108 rfl ?_
  refine g_iconst X35 (5 : Int32) at_108 rfl 109 rfl ?_
  refine g_iload X35 at_109 rfl 111 rfl ?_
  refine g_iconst X35 (5 : Int32) at_111 rfl 112 rfl ?_
  refine g_iadd X35 at_112 113 rfl ?_
  refine g_iastore X35 A35 5 (by decide) (by decide) g_b22 at_113 114 rfl (fun T37 h37 X37 W37 => ?_)
  have z38 : n0 ≤ h37.size := Nat.le_trans z36 (Nat.le_of_eq W37.size.symm)
  have A37 := AI.set A35 W37
  refine g_dup X37 at_114 rfl 115 rfl ?_
  refine g_bipush X37 (6 : Int32) at_115 rfl 117 rfl ?_
  refine g_iload X37 at_117 rfl 119 rfl ?_
  refine g_bipush X37 (6 : Int32) at_119 rfl 121 rfl ?_
  refine g_iadd X37 at_121 122 rfl ?_
  refine g_iastore X37 A37 6 (by decide) (by decide) g_b22 at_122 123 rfl (fun T39 h39 X39 W39 => ?_)
  have z40 : n0 ≤ h39.size := Nat.le_trans z38 (Nat.le_of_eq W39.size.symm)
  have A39 := AI.set A37 W39
  refine g_dup X39 at_123 rfl 124 rfl ?_
  refine g_bipush X39 (7 : Int32) at_124 rfl 126 rfl ?_
  refine g_iload X39 at_126 rfl 128 rfl ?_
  refine g_bipush X39 (7 : Int32) at_128 rfl 130 rfl ?_
  refine g_iadd X39 at_130 131 rfl ?_
  refine g_iastore X39 A39 7 (by decide) (by decide) g_b22 at_131 132 rfl (fun T41 h41 X41 W41 => ?_)
  have z42 : n0 ≤ h41.size := Nat.le_trans z40 (Nat.le_of_eq W41.size.symm)
  have A41 := AI.set A39 W41
  refine g_dup X41 at_132 rfl 133 rfl ?_
  refine g_bipush X41 (8 : Int32) at_133 rfl 135 rfl ?_
  refine g_iload X41 at_135 rfl 137 rfl ?_
  refine g_bipush X41 (8 : Int32) at_137 rfl 139 rfl ?_
  refine g_iadd X41 at_139 140 rfl ?_
  refine g_iastore X41 A41 8 (by decide) (by decide) g_b22 at_140 141 rfl (fun T43 h43 X43 W43 => ?_)
  have z44 : n0 ≤ h43.size := Nat.le_trans z42 (Nat.le_of_eq W43.size.symm)
  have A43 := AI.set A41 W43
  refine g_dup X43 at_141 rfl 142 rfl ?_
  refine g_bipush X43 (9 : Int32) at_142 rfl 144 rfl ?_
  refine g_iload X43 at_144 rfl 146 rfl ?_
  refine g_bipush X43 (9 : Int32) at_146 rfl 148 rfl ?_
  refine g_iadd X43 at_148 149 rfl ?_
  refine g_iastore X43 A43 9 (by decide) (by decide) g_b22 at_149 150 rfl (fun T45 h45 X45 W45 => ?_)
  have z46 : n0 ≤ h45.size := Nat.le_trans z44 (Nat.le_of_eq W45.size.symm)
  have A45 := AI.set A43 W45
  refine g_dup X45 at_150 rfl 151 rfl ?_
  refine g_bipush X45 (10 : Int32) at_151 rfl 153 rfl ?_
  refine g_iload X45 at_153 rfl 155 rfl ?_
  refine g_bipush X45 (10 : Int32) at_155 rfl 157 rfl ?_
  refine g_iadd X45 at_157 158 rfl ?_
  refine g_iastore X45 A45 10 (by decide) (by decide) g_b22 at_158 159 rfl (fun T47 h47 X47 W47 => ?_)
  have z48 : n0 ≤ h47.size := Nat.le_trans z46 (Nat.le_of_eq W47.size.symm)
  have A47 := AI.set A45 W47
  refine g_dup X47 at_159 rfl 160 rfl ?_
  refine g_bipush X47 (11 : Int32) at_160 rfl 162 rfl ?_
  refine g_iload X47 at_162 rfl 164 rfl ?_
  refine g_bipush X47 (11 : Int32) at_164 rfl 166 rfl ?_
  refine g_iadd X47 at_166 167 rfl ?_
  refine g_iastore X47 A47 11 (by decide) (by decide) g_b22 at_167 168 rfl (fun T49 h49 X49 W49 => ?_)
  have z50 : n0 ≤ h49.size := Nat.le_trans z48 (Nat.le_of_eq W49.size.symm)
  have A49 := AI.set A47 W49
  refine g_astore X49 at_168 rfl #[.val (.int fr), .val (.int seed), .val (.int a), .val (.int b), .val (.int v1), .val (.int v2), .val (.int v3), .val (.int v4), .val (.ref b5), .val (.ref b13), .val (.ref b22), .unset, .unset, .unset, .unset, .unset, .unset, .unset] rfl 170 rfl ?_
  refine g_new X49 (w2 hw) (w3 hw) (w4 hw) at_170 (by decide) (by decide) 173 rfl (fun T51 h51 b51 X51 g51 E51 A51 D51 => ?_)
  have ft52 := (((((((((((((ft23.ext E22).other W27 ne24).other W29 ne24).other W31 ne24).other W33 ne24).other W35 ne24).other W37 ne24).other W39 ne24).other W41 ne24).other W43 ne24).other W45 ne24).other W47 ne24).other W49 ne24)
  have ne53 : b5 ≠ b51 := Nat.ne_of_lt (Nat.lt_of_lt_of_le ft52.lt (Nat.le_of_eq g51.symm))
  have ft54 := (((((((((((((A20.ext E22).other W27 ne25).other W29 ne25).other W31 ne25).other W33 ne25).other W35 ne25).other W37 ne25).other W39 ne25).other W41 ne25).other W43 ne25).other W45 ne25).other W47 ne25).other W49 ne25)
  have ne55 : b13 ≠ b51 := Nat.ne_of_lt (Nat.lt_of_lt_of_le ft54.lt (Nat.le_of_eq g51.symm))
  have ne56 : b22 ≠ b51 := Nat.ne_of_lt (Nat.lt_of_lt_of_le A49.lt (Nat.le_of_eq g51.symm))
  have g_b51 : n0 ≤ b51 := Nat.le_trans z50 (Nat.le_of_eq g51.symm)
  have z57 : n0 ≤ h51.size := Nat.le_trans z50 E51.1
  have F58 : Fld Z h51 b51 "com/example/ithaca/ithaca/index/Postings" "documents" "[I" .null := D51 (Or.inr (w12 hw)) (ty := (.array .int)) (by decide)
  have F59 : Fld Z h51 b51 "com/example/ithaca/ithaca/index/Postings" "frequencies" "[I" .null := D51 (Or.inr (w14 hw)) (ty := (.array .int)) (by decide)
  refine g_dup X51 at_173 rfl 174 rfl ?_
  refine g_aload X51 at_174 rfl rfl 176 rfl ?_
  refine g_aload X51 at_176 rfl rfl 178 rfl ?_
  refine g_callI X51 b51 [(.ref b5), (.ref b13)] [(.ref b51)] (rm1 hw n0 b51 b5 b13 h51 F58 F59 A51 g_b51) rfl (w5 hw) (w6 hw) (w4 hw) (w7 hw) (by decide) pd4 rfl rfl (by decide) (Nat.le_of_ble_eq_true rfl) (by decide) (by decide) at_178 rfl 181 rfl (fun v60 T60 h60 X60 q60 => ?_)
  obtain ⟨rfl, K60, F60_0, F60_1⟩ := q60
  have z61 : n0 ≤ h60.size := Nat.le_trans z57 K60.1
  show Go k n0 (Q0 fr seed a b h0) 24 128 T60 181 #[.val (.int fr), .val (.int seed), .val (.int a), .val (.int b), .val (.int v1), .val (.int v2), .val (.int v3), .val (.int v4), .val (.ref b5), .val (.ref b13), .val (.ref b22), .unset, .unset, .unset, .unset, .unset, .unset, .unset] [(.ref b51)]
  refine g_astore X60 at_181 rfl #[.val (.int fr), .val (.int seed), .val (.int a), .val (.int b), .val (.int v1), .val (.int v2), .val (.int v3), .val (.int v4), .val (.ref b5), .val (.ref b13), .val (.ref b22), .val (.ref b51), .unset, .unset, .unset, .unset, .unset, .unset] rfl 183 rfl ?_
  refine g_new X60 (w15 hw) (w16 hw) (w17 hw) at_183 (by decide) (by decide) 186 rfl (fun T62 h62 b62 X62 g62 E62 A62 D62 => ?_)
  have ft63 := ((ft52.ext E51).keep K60 (ninS ne53 nin0))
  have ne64 : b5 ≠ b62 := Nat.ne_of_lt (Nat.lt_of_lt_of_le ft63.lt (Nat.le_of_eq g62.symm))
  have ft65 := ((ft54.ext E51).keep K60 (ninS ne55 nin0))
  have ne66 : b13 ≠ b62 := Nat.ne_of_lt (Nat.lt_of_lt_of_le ft65.lt (Nat.le_of_eq g62.symm))
  have ft67 := ((A49.ext E51).keep K60 (ninS ne56 nin0))
  have ne68 : b22 ≠ b62 := Nat.ne_of_lt (Nat.lt_of_lt_of_le ft67.lt (Nat.le_of_eq g62.symm))
  have ft69 := (A51.keep K60)
  have ne70 : b51 ≠ b62 := Nat.ne_of_lt (Nat.lt_of_lt_of_le ft69.lt (Nat.le_of_eq g62.symm))
  have g_b62 : n0 ≤ b62 := Nat.le_trans z61 (Nat.le_of_eq g62.symm)
  have z71 : n0 ≤ h62.size := Nat.le_trans z61 E62.1
  have F72 : Fld Z h62 b62 "com/example/ithaca/ithaca/index/Positions" "postings" "Lcom/example/ithaca/ithaca/index/Postings;" .null := D62 (Or.inr (w23 hw)) (ty := (.object "com/example/ithaca/ithaca/index/Postings")) (by decide)
  have F73 : Fld Z h62 b62 "com/example/ithaca/ithaca/index/Positions" "positions" "[I" .null := D62 (Or.inr (w25 hw)) (ty := (.array .int)) (by decide)
  have F74 : Fld Z h62 b62 "com/example/ithaca/ithaca/index/Positions" "starts" "[I" .null := D62 (Or.inr (w32 hw)) (ty := (.array .int)) (by decide)
  refine g_dup X62 at_186 rfl 187 rfl ?_
  refine g_aload X62 at_187 rfl rfl 189 rfl ?_
  refine g_aload X62 at_189 rfl rfl 191 rfl ?_
  have ft75 := (F60_0.ext E62)
  have ft76 := (F60_1.ext E62)
  have ft77 := (ft69.ext E62)
  have ft78 := (ft63.ext E62)
  have ft79 := (ft65.ext E62)
  have AF : AI Z h62 b13 .int 3 (fun j => .int (own_f3 v1 v2 v3 j)) := AI.to ft79 (fun i hi => by (have q : i = 0 ∨ i = 1 ∨ i = 2 := by omega); rcases q with rfl | rfl | rfl <;> rfl)
  refine g_callI X62 b62 [(.ref b51), (.ref b22)] [(.ref b62)] (rm6 hw n0 b62 b51 b22 b5 b13 _ v1 v2 v3 h62 z71 F72 F73 F74 A62 g_b62 ft75 ft76 ft77 ft78  AF ne70 ne64 ne66) rfl (w18 hw) (w19 hw) (w17 hw) (w20 hw) (by decide) pd5 rfl rfl (by decide) (Nat.le_of_ble_eq_true rfl) (by decide) (by decide) at_191 rfl 194 rfl (fun v80 T80 h80 X80 q80 => ?_)
  obtain ⟨rfl, K80, bs, gs, G1, G2, G3, AS⟩ := q80
  have z81 : n0 ≤ h80.size := Nat.le_trans z71 K80.1
  show Go k n0 (Q0 fr seed a b h0) 24 128 T80 194 #[.val (.int fr), .val (.int seed), .val (.int a), .val (.int b), .val (.int v1), .val (.int v2), .val (.int v3), .val (.int v4), .val (.ref b5), .val (.ref b13), .val (.ref b22), .val (.ref b51), .unset, .unset, .unset, .unset, .unset, .unset] [(.ref b62)]
  refine g_astore X80 at_194 rfl #[.val (.int fr), .val (.int seed), .val (.int a), .val (.int b), .val (.int v1), .val (.int v2), .val (.int v3), .val (.int v4), .val (.ref b5), .val (.ref b13), .val (.ref b22), .val (.ref b51), .val (.ref b62), .unset, .unset, .unset, .unset, .unset] rfl 196 rfl ?_
  refine g_iloadN X80 at_196 rfl 197 rfl ?_
  refine g_ldcI X80 (w38 hw) at_197 199 rfl ?_
  refine g_iand X80 at_199 200 rfl ?_
  refine g_iconst X80 (3 : Int32) at_200 rfl 201 rfl ?_
  refine g_irem X80 at_201 (by decide) 202 rfl ?_
  refine g_istore X80 at_202 #[.val (.int fr), .val (.int seed), .val (.int a), .val (.int b), .val (.int v1), .val (.int v2), .val (.int v3), .val (.int v4), .val (.ref b5), .val (.ref b13), .val (.ref b22), .val (.ref b51), .val (.ref b62), .val (.int ((a &&& (2147483647 : Int32)) % (3 : Int32))), .unset, .unset, .unset, .unset] rfl 204 rfl ?_
  generalize hv82 : ((a &&& (2147483647 : Int32)) % (3 : Int32)) = v82
  have hq0 := own_q4 hv1
  have hq1 := own_q4 hv2
  have hq2 := own_q4 hv3
  rcases own_m3 a with hn | hn | hn <;> rw [hv82] at hn <;> subst hn
  · skip
    refine g_iload X80 at_204 rfl 206 rfl ?_
    refine g_ifN X80 z_ne at_206 219 (by decide) (by decide) 209 rfl (fun h83 => ?_) (fun h83 => ?_)
    · skip
      refine g_iload X80 at_209 rfl 211 rfl ?_
      refine g_istore X80 at_211 #[.val (.int fr), .val (.int seed), .val (.int a), .val (.int b), .val (.int v1), .val (.int v2), .val (.int v3), .val (.int v4), .val (.ref b5), .val (.ref b13), .val (.ref b22), .val (.ref b51), .val (.ref b62), .val (.int (0 : Int32)), .val (.int v1), .unset, .unset, .unset] rfl 213 rfl ?_
      refine g_iconst X80 (0 : Int32) at_213 rfl 214 rfl ?_
      refine g_istore X80 at_214 #[.val (.int fr), .val (.int seed), .val (.int a), .val (.int b), .val (.int v1), .val (.int v2), .val (.int v3), .val (.int v4), .val (.ref b5), .val (.ref b13), .val (.ref b22), .val (.ref b51), .val (.ref b62), .val (.int (0 : Int32)), .val (.int v1), .val (.int (0 : Int32)), .unset, .unset] rfl 216 rfl ?_
      refine g_goto X80 at_216 247 (by decide) (by decide) ?_
      refine g_iloadN X80 at_247 rfl 248 rfl ?_
      refine g_ldcI X80 (w38 hw) at_248 250 rfl ?_
      refine g_iand X80 at_250 251 rfl ?_
      refine g_iload X80 at_251 rfl 253 rfl ?_
      refine g_irem X80 at_253 (own_nz hq0) 254 rfl ?_
      refine g_istore X80 at_254 #[.val (.int fr), .val (.int seed), .val (.int a), .val (.int b), .val (.int v1), .val (.int v2), .val (.int v3), .val (.int v4), .val (.ref b5), .val (.ref b13), .val (.ref b22), .val (.ref b51), .val (.ref b62), .val (.int (0 : Int32)), .val (.int v1), .val (.int (0 : Int32)), .val (.int ((b &&& (2147483647 : Int32)) % v1)), .unset] rfl 256 rfl ?_
      generalize hv84 : ((b &&& (2147483647 : Int32)) % v1) = v84
      refine g_iload X80 at_256 rfl 258 rfl ?_
      refine g_iload X80 at_258 rfl 260 rfl ?_
      refine g_iadd X80 at_260 261 rfl ?_
      refine g_iload X80 at_261 rfl 263 rfl ?_
      refine g_iadd X80 at_263 264 rfl ?_
      refine g_istore X80 at_264 #[.val (.int fr), .val (.int seed), .val (.int a), .val (.int b), .val (.int v1), .val (.int v2), .val (.int v3), .val (.int v4), .val (.ref b5), .val (.ref b13), .val (.ref b22), .val (.ref b51), .val (.ref b62), .val (.int (0 : Int32)), .val (.int v1), .val (.int (0 : Int32)), .val (.int v84), .val (.int ((v4 + (0 : Int32)) + v84))] rfl 266 rfl ?_
      generalize hv85 : ((v4 + (0 : Int32)) + v84) = v85
      refine g_aload X80 at_266 rfl rfl 268 rfl ?_
      refine g_iload X80 at_268 rfl 270 rfl ?_
      refine g_iload X80 at_270 rfl 272 rfl ?_
      have ft86 := (ft76.keep K80 (ninS ne70 nin0))
      have ft87 := (ft77.keep K80)
      have ft88 := (AF.keep K80 (ninS ne66 nin0))
      have ft89 := ((ft67.ext E62).keep K80 (ninS ne68 nin0))
      have AP : AI Z h80 b22 .int 12 (fun j => .int (v4 + Int32.ofNat j)) := AI.to ft89 (fun i hi => by (have q : i = 0 ∨ i = 1 ∨ i = 2 ∨ i = 3 ∨ i = 4 ∨ i = 5 ∨ i = 6 ∨ i = 7 ∨ i = 8 ∨ i = 9 ∨ i = 10 ∨ i = 11 := by omega); rcases q with rfl | rfl | rfl | rfl | rfl | rfl | rfl | rfl | rfl | rfl | rfl | rfl <;> first | rfl | exact congrArg Value.int (Int32.add_zero _).symm)
      have ho := own_occ hq0 hv84
      have ys0 : ((0 : Int32)).toInt = (((0 : Nat) : Int)) := by decide
      have ht : ((0 : Int32) + v84).toInt = ((0 + v84.toInt.toNat : Nat) : Int) := own_ix ys0 ho.1 (by omega)
      have ft91 := (A62.keep K80)
      refine g_callV X80 b62 [(.int (0 : Int32)), (.int v84)] [] (rm7 hw n0 b62 (0 : Int32) v84 b51 b22 bs b13 (own_f3 v1 v2 v3) (own_f4 (0 : Int32) ((0 : Int32) + v1) (((0 : Int32) + v1) + v2) ((((0 : Int32) + v1) + v2) + v3)) (fun j => v4 + Int32.ofNat j) 0 (0 + v84.toInt.toNat) h80 G1 G2 G3 ft86 ft87 ft88 AS AP (by decide) (by decide) (own_nn ho.1) (Int32.lt_iff_toInt_lt.mpr (by show v84.toInt < v1.toInt; omega)) ht (by omega)) ft91 (w39 hw) (w40 hw) (w42 hw) (w41 hw) (w17 hw) (w43 hw) (by decide) pd3 rfl rfl (by decide) (Nat.le_of_ble_eq_true rfl) (by decide) (by decide) at_272 rfl 275 rfl (fun v90 T90 h90 X90 q90 => ?_)
      obtain ⟨rfl, rfl⟩ := q90
      show Go k n0 (Q0 fr seed a b h0) 24 128 T90 275 #[.val (.int fr), .val (.int seed), .val (.int a), .val (.int b), .val (.int v1), .val (.int v2), .val (.int v3), .val (.int v4), .val (.ref b5), .val (.ref b13), .val (.ref b22), .val (.ref b51), .val (.ref b62), .val (.int (0 : Int32)), .val (.int v1), .val (.int (0 : Int32)), .val (.int v84), .val (.int v85)] [(.int (v4 + Int32.ofNat (0 + v84.toInt.toNat)))]
      refine g_iload X90 at_275 rfl 277 rfl ?_
      have k285_1 : ∀ (v92 : Int32), (Q0 fr seed a b h0) (some (.int (v92 &&& 1))) h80 → Go k n0 (Q0 fr seed a b h0) 24 128 T90 285 #[.val (.int fr), .val (.int seed), .val (.int a), .val (.int b), .val (.int v1), .val (.int v2), .val (.int v3), .val (.int v4), .val (.ref b5), .val (.ref b13), .val (.ref b22), .val (.ref b51), .val (.ref b62), .val (.int (0 : Int32)), .val (.int v1), .val (.int (0 : Int32)), .val (.int v84), .val (.int v85)] [(.int v92)] := by
        intro v92 hQ
        exact g_retZ X90 at_285 (by decide) (by decide) hQ
      refine g_icmpN X90 i_ne at_277 284 (by decide) (by decide) 280 rfl (fun h93 => ?_) (fun h93 => ?_)
      · skip
        refine g_iconst X90 (1 : Int32) at_280 rfl 281 rfl ?_
        refine g_goto X90 at_281 285 (by decide) (by decide) ?_
        exact k285_1 ((1 : Int32)) own_one
      · skip
        refine g_iconst X90 (0 : Int32) at_284 rfl 285 rfl ?_
        exact k285_1 ((0 : Int32)) (absurd (by rw [← hv85, own_fin ht]) h93)
    · exact absurd (by decide) h83
  · skip
    refine g_iload X80 at_204 rfl 206 rfl ?_
    refine g_ifN X80 z_ne at_206 219 (by decide) (by decide) 209 rfl (fun h94 => ?_) (fun h94 => ?_)
    · exact absurd h94 (by decide)
    · skip
      refine g_iload X80 at_219 rfl 221 rfl ?_
      refine g_iconst X80 (1 : Int32) at_221 rfl 222 rfl ?_
      refine g_icmpN X80 i_ne at_222 236 (by decide) (by decide) 225 rfl (fun h95 => ?_) (fun h95 => ?_)
      · skip
        refine g_iload X80 at_225 rfl 227 rfl ?_
        refine g_istore X80 at_227 #[.val (.int fr), .val (.int seed), .val (.int a), .val (.int b), .val (.int v1), .val (.int v2), .val (.int v3), .val (.int v4), .val (.ref b5), .val (.ref b13), .val (.ref b22), .val (.ref b51), .val (.ref b62), .val (.int (1 : Int32)), .val (.int v2), .unset, .unset, .unset] rfl 229 rfl ?_
        refine g_iload X80 at_229 rfl 231 rfl ?_
        refine g_istore X80 at_231 #[.val (.int fr), .val (.int seed), .val (.int a), .val (.int b), .val (.int v1), .val (.int v2), .val (.int v3), .val (.int v4), .val (.ref b5), .val (.ref b13), .val (.ref b22), .val (.ref b51), .val (.ref b62), .val (.int (1 : Int32)), .val (.int v2), .val (.int v1), .unset, .unset] rfl 233 rfl ?_
        refine g_goto X80 at_233 247 (by decide) (by decide) ?_
        refine g_iloadN X80 at_247 rfl 248 rfl ?_
        refine g_ldcI X80 (w38 hw) at_248 250 rfl ?_
        refine g_iand X80 at_250 251 rfl ?_
        refine g_iload X80 at_251 rfl 253 rfl ?_
        refine g_irem X80 at_253 (own_nz hq1) 254 rfl ?_
        refine g_istore X80 at_254 #[.val (.int fr), .val (.int seed), .val (.int a), .val (.int b), .val (.int v1), .val (.int v2), .val (.int v3), .val (.int v4), .val (.ref b5), .val (.ref b13), .val (.ref b22), .val (.ref b51), .val (.ref b62), .val (.int (1 : Int32)), .val (.int v2), .val (.int v1), .val (.int ((b &&& (2147483647 : Int32)) % v2)), .unset] rfl 256 rfl ?_
        generalize hv96 : ((b &&& (2147483647 : Int32)) % v2) = v96
        refine g_iload X80 at_256 rfl 258 rfl ?_
        refine g_iload X80 at_258 rfl 260 rfl ?_
        refine g_iadd X80 at_260 261 rfl ?_
        refine g_iload X80 at_261 rfl 263 rfl ?_
        refine g_iadd X80 at_263 264 rfl ?_
        refine g_istore X80 at_264 #[.val (.int fr), .val (.int seed), .val (.int a), .val (.int b), .val (.int v1), .val (.int v2), .val (.int v3), .val (.int v4), .val (.ref b5), .val (.ref b13), .val (.ref b22), .val (.ref b51), .val (.ref b62), .val (.int (1 : Int32)), .val (.int v2), .val (.int v1), .val (.int v96), .val (.int ((v4 + v1) + v96))] rfl 266 rfl ?_
        refine g_aload X80 at_266 rfl rfl 268 rfl ?_
        refine g_iload X80 at_268 rfl 270 rfl ?_
        refine g_iload X80 at_270 rfl 272 rfl ?_
        have ft97 := (ft76.keep K80 (ninS ne70 nin0))
        have ft98 := (ft77.keep K80)
        have ft99 := (AF.keep K80 (ninS ne66 nin0))
        have ft100 := ((ft67.ext E62).keep K80 (ninS ne68 nin0))
        have AP : AI Z h80 b22 .int 12 (fun j => .int (v4 + Int32.ofNat j)) := AI.to ft100 (fun i hi => by (have q : i = 0 ∨ i = 1 ∨ i = 2 ∨ i = 3 ∨ i = 4 ∨ i = 5 ∨ i = 6 ∨ i = 7 ∨ i = 8 ∨ i = 9 ∨ i = 10 ∨ i = 11 := by omega); rcases q with rfl | rfl | rfl | rfl | rfl | rfl | rfl | rfl | rfl | rfl | rfl | rfl <;> first | rfl | exact congrArg Value.int (Int32.add_zero _).symm)
        have ho := own_occ hq1 hv96
        have ys0 : ((0 : Int32)).toInt = (((0 : Nat) : Int)) := by decide
        have ys1 : (((0 : Int32) + v1)).toInt = ((0 + v1.toInt.toNat : Nat) : Int) := own_ix ys0 (by omega) (by omega)
        have ht : (((0 : Int32) + v1) + v96).toInt = (((0 + v1.toInt.toNat) + v96.toInt.toNat : Nat) : Int) := own_ix ys1 ho.1 (by omega)
        have ft102 := (A62.keep K80)
        refine g_callV X80 b62 [(.int (1 : Int32)), (.int v96)] [] (rm7 hw n0 b62 (1 : Int32) v96 b51 b22 bs b13 (own_f3 v1 v2 v3) (own_f4 (0 : Int32) ((0 : Int32) + v1) (((0 : Int32) + v1) + v2) ((((0 : Int32) + v1) + v2) + v3)) (fun j => v4 + Int32.ofNat j) 1 ((0 + v1.toInt.toNat) + v96.toInt.toNat) h80 G1 G2 G3 ft97 ft98 ft99 AS AP (by decide) (by decide) (own_nn ho.1) (Int32.lt_iff_toInt_lt.mpr (by show v96.toInt < v2.toInt; omega)) ht (by omega)) ft102 (w39 hw) (w40 hw) (w42 hw) (w41 hw) (w17 hw) (w43 hw) (by decide) pd3 rfl rfl (by decide) (Nat.le_of_ble_eq_true rfl) (by decide) (by decide) at_272 rfl 275 rfl (fun v101 T101 h101 X101 q101 => ?_)
        obtain ⟨rfl, rfl⟩ := q101
        show Go k n0 (Q0 fr seed a b h0) 24 128 T101 275 #[.val (.int fr), .val (.int seed), .val (.int a), .val (.int b), .val (.int v1), .val (.int v2), .val (.int v3), .val (.int v4), .val (.ref b5), .val (.ref b13), .val (.ref b22), .val (.ref b51), .val (.ref b62), .val (.int (1 : Int32)), .val (.int v2), .val (.int v1), .val (.int v96), .val (.int ((v4 + v1) + v96))] [(.int (v4 + Int32.ofNat ((0 + v1.toInt.toNat) + v96.toInt.toNat)))]
        refine g_iload X101 at_275 rfl 277 rfl ?_
        have k285_2 : ∀ (v103 : Int32), (Q0 fr seed a b h0) (some (.int (v103 &&& 1))) h80 → Go k n0 (Q0 fr seed a b h0) 24 128 T101 285 #[.val (.int fr), .val (.int seed), .val (.int a), .val (.int b), .val (.int v1), .val (.int v2), .val (.int v3), .val (.int v4), .val (.ref b5), .val (.ref b13), .val (.ref b22), .val (.ref b51), .val (.ref b62), .val (.int (1 : Int32)), .val (.int v2), .val (.int v1), .val (.int v96), .val (.int ((v4 + v1) + v96))] [(.int v103)] := by
          intro v103 hQ
          exact g_retZ X101 at_285 (by decide) (by decide) hQ
        refine g_icmpN X101 i_ne at_277 284 (by decide) (by decide) 280 rfl (fun h104 => ?_) (fun h104 => ?_)
        · skip
          refine g_iconst X101 (1 : Int32) at_280 rfl 281 rfl ?_
          refine g_goto X101 at_281 285 (by decide) (by decide) ?_
          exact k285_2 ((1 : Int32)) own_one
        · skip
          refine g_iconst X101 (0 : Int32) at_284 rfl 285 rfl ?_
          exact k285_2 ((0 : Int32)) (absurd (by rw [own_fin ht, Int32.zero_add]) h104)
      · exact absurd (by decide) h95
  · skip
    refine g_iload X80 at_204 rfl 206 rfl ?_
    refine g_ifN X80 z_ne at_206 219 (by decide) (by decide) 209 rfl (fun h105 => ?_) (fun h105 => ?_)
    · exact absurd h105 (by decide)
    · skip
      refine g_iload X80 at_219 rfl 221 rfl ?_
      refine g_iconst X80 (1 : Int32) at_221 rfl 222 rfl ?_
      refine g_icmpN X80 i_ne at_222 236 (by decide) (by decide) 225 rfl (fun h106 => ?_) (fun h106 => ?_)
      · exact absurd h106 (by decide)
      · skip
        refine g_iload X80 at_236 rfl 238 rfl ?_
        refine g_istore X80 at_238 #[.val (.int fr), .val (.int seed), .val (.int a), .val (.int b), .val (.int v1), .val (.int v2), .val (.int v3), .val (.int v4), .val (.ref b5), .val (.ref b13), .val (.ref b22), .val (.ref b51), .val (.ref b62), .val (.int (2 : Int32)), .val (.int v3), .unset, .unset, .unset] rfl 240 rfl ?_
        refine g_iload X80 at_240 rfl 242 rfl ?_
        refine g_iload X80 at_242 rfl 244 rfl ?_
        refine g_iadd X80 at_244 245 rfl ?_
        refine g_istore X80 at_245 #[.val (.int fr), .val (.int seed), .val (.int a), .val (.int b), .val (.int v1), .val (.int v2), .val (.int v3), .val (.int v4), .val (.ref b5), .val (.ref b13), .val (.ref b22), .val (.ref b51), .val (.ref b62), .val (.int (2 : Int32)), .val (.int v3), .val (.int (v1 + v2)), .unset, .unset] rfl 247 rfl ?_
        refine g_iloadN X80 at_247 rfl 248 rfl ?_
        refine g_ldcI X80 (w38 hw) at_248 250 rfl ?_
        refine g_iand X80 at_250 251 rfl ?_
        refine g_iload X80 at_251 rfl 253 rfl ?_
        refine g_irem X80 at_253 (own_nz hq2) 254 rfl ?_
        refine g_istore X80 at_254 #[.val (.int fr), .val (.int seed), .val (.int a), .val (.int b), .val (.int v1), .val (.int v2), .val (.int v3), .val (.int v4), .val (.ref b5), .val (.ref b13), .val (.ref b22), .val (.ref b51), .val (.ref b62), .val (.int (2 : Int32)), .val (.int v3), .val (.int (v1 + v2)), .val (.int ((b &&& (2147483647 : Int32)) % v3)), .unset] rfl 256 rfl ?_
        generalize hv107 : ((b &&& (2147483647 : Int32)) % v3) = v107
        refine g_iload X80 at_256 rfl 258 rfl ?_
        refine g_iload X80 at_258 rfl 260 rfl ?_
        refine g_iadd X80 at_260 261 rfl ?_
        refine g_iload X80 at_261 rfl 263 rfl ?_
        refine g_iadd X80 at_263 264 rfl ?_
        refine g_istore X80 at_264 #[.val (.int fr), .val (.int seed), .val (.int a), .val (.int b), .val (.int v1), .val (.int v2), .val (.int v3), .val (.int v4), .val (.ref b5), .val (.ref b13), .val (.ref b22), .val (.ref b51), .val (.ref b62), .val (.int (2 : Int32)), .val (.int v3), .val (.int (v1 + v2)), .val (.int v107), .val (.int ((v4 + (v1 + v2)) + v107))] rfl 266 rfl ?_
        refine g_aload X80 at_266 rfl rfl 268 rfl ?_
        refine g_iload X80 at_268 rfl 270 rfl ?_
        refine g_iload X80 at_270 rfl 272 rfl ?_
        have ft108 := (ft76.keep K80 (ninS ne70 nin0))
        have ft109 := (ft77.keep K80)
        have ft110 := (AF.keep K80 (ninS ne66 nin0))
        have ft111 := ((ft67.ext E62).keep K80 (ninS ne68 nin0))
        have AP : AI Z h80 b22 .int 12 (fun j => .int (v4 + Int32.ofNat j)) := AI.to ft111 (fun i hi => by (have q : i = 0 ∨ i = 1 ∨ i = 2 ∨ i = 3 ∨ i = 4 ∨ i = 5 ∨ i = 6 ∨ i = 7 ∨ i = 8 ∨ i = 9 ∨ i = 10 ∨ i = 11 := by omega); rcases q with rfl | rfl | rfl | rfl | rfl | rfl | rfl | rfl | rfl | rfl | rfl | rfl <;> first | rfl | exact congrArg Value.int (Int32.add_zero _).symm)
        have ho := own_occ hq2 hv107
        have ys0 : ((0 : Int32)).toInt = (((0 : Nat) : Int)) := by decide
        have ys1 : (((0 : Int32) + v1)).toInt = ((0 + v1.toInt.toNat : Nat) : Int) := own_ix ys0 (by omega) (by omega)
        have ys2 : ((((0 : Int32) + v1) + v2)).toInt = (((0 + v1.toInt.toNat) + v2.toInt.toNat : Nat) : Int) := own_ix ys1 (by omega) (by omega)
        have ht : ((((0 : Int32) + v1) + v2) + v107).toInt = ((((0 + v1.toInt.toNat) + v2.toInt.toNat) + v107.toInt.toNat : Nat) : Int) := own_ix ys2 ho.1 (by omega)
        have ft113 := (A62.keep K80)
        refine g_callV X80 b62 [(.int (2 : Int32)), (.int v107)] [] (rm7 hw n0 b62 (2 : Int32) v107 b51 b22 bs b13 (own_f3 v1 v2 v3) (own_f4 (0 : Int32) ((0 : Int32) + v1) (((0 : Int32) + v1) + v2) ((((0 : Int32) + v1) + v2) + v3)) (fun j => v4 + Int32.ofNat j) 2 (((0 + v1.toInt.toNat) + v2.toInt.toNat) + v107.toInt.toNat) h80 G1 G2 G3 ft108 ft109 ft110 AS AP (by decide) (by decide) (own_nn ho.1) (Int32.lt_iff_toInt_lt.mpr (by show v107.toInt < v3.toInt; omega)) ht (by omega)) ft113 (w39 hw) (w40 hw) (w42 hw) (w41 hw) (w17 hw) (w43 hw) (by decide) pd3 rfl rfl (by decide) (Nat.le_of_ble_eq_true rfl) (by decide) (by decide) at_272 rfl 275 rfl (fun v112 T112 h112 X112 q112 => ?_)
        obtain ⟨rfl, rfl⟩ := q112
        show Go k n0 (Q0 fr seed a b h0) 24 128 T112 275 #[.val (.int fr), .val (.int seed), .val (.int a), .val (.int b), .val (.int v1), .val (.int v2), .val (.int v3), .val (.int v4), .val (.ref b5), .val (.ref b13), .val (.ref b22), .val (.ref b51), .val (.ref b62), .val (.int (2 : Int32)), .val (.int v3), .val (.int (v1 + v2)), .val (.int v107), .val (.int ((v4 + (v1 + v2)) + v107))] [(.int (v4 + Int32.ofNat (((0 + v1.toInt.toNat) + v2.toInt.toNat) + v107.toInt.toNat)))]
        refine g_iload X112 at_275 rfl 277 rfl ?_
        have k285_3 : ∀ (v114 : Int32), (Q0 fr seed a b h0) (some (.int (v114 &&& 1))) h80 → Go k n0 (Q0 fr seed a b h0) 24 128 T112 285 #[.val (.int fr), .val (.int seed), .val (.int a), .val (.int b), .val (.int v1), .val (.int v2), .val (.int v3), .val (.int v4), .val (.ref b5), .val (.ref b13), .val (.ref b22), .val (.ref b51), .val (.ref b62), .val (.int (2 : Int32)), .val (.int v3), .val (.int (v1 + v2)), .val (.int v107), .val (.int ((v4 + (v1 + v2)) + v107))] [(.int v114)] := by
          intro v114 hQ
          exact g_retZ X112 at_285 (by decide) (by decide) hQ
        refine g_icmpN X112 i_ne at_277 284 (by decide) (by decide) 280 rfl (fun h115 => ?_) (fun h115 => ?_)
        · skip
          refine g_iconst X112 (1 : Int32) at_280 rfl 281 rfl ?_
          refine g_goto X112 at_281 285 (by decide) (by decide) ?_
          exact k285_3 ((1 : Int32)) own_one
        · skip
          refine g_iconst X112 (0 : Int32) at_284 rfl 285 rfl ?_
          exact k285_3 ((0 : Int32)) (absurd (by rw [own_fin ht, Int32.zero_add]) h115)
set_option maxRecDepth 65536 in
set_option maxHeartbeats 40000000 in
theorem comes_1 {Post : Tables → Env → Array Value → State → Outcome → State → Prop} (hpost : ∀ tb e args s v u, (limb_1_1.after args s (.returned v) u = true ∧ limb_1_2.after args s (.returned v) u = true ∧ True) → FrameEnd s (.returned v) u (Jvm.fieldLocs frame_1_writes args s ++ Jvm.arrayLocs frame_1_arrays args s ++ Jvm.staticLocs frame_1_statics s) 24 128 → Post tb e args s (.returned v) u) :
    ArmFor flags0 classFile x code maxLocals ret World_1 tables_1 room_1 Calls_1 rest_1 Pre_1 Post := by
  intro l hfl _ _ p e ha hc hk s m args below hf hA hF happ hP
  obtain ⟨hcalls, hrest, hpre⟩ := hP
  obtain ⟨-, -, -, hnamed, -, -, -, hat⟩ := (Spec.applies_iff hf).mp happ
  obtain ⟨hg, hn⟩ := and_e (Cond.before_iff.mp (show (Jvm.Cond.and given_1 narrow_1).before args s = true from hpre))
  obtain ⟨hcount, g0⟩ := and_e hg
  obtain ⟨q0, g1⟩ := and_e g0
  obtain ⟨q1, g2⟩ := and_e g1
  obtain ⟨q2, g3⟩ := and_e g2
  have q3 := g3
  obtain ⟨w0, w1, w2, w3, rfl⟩ : ∃ w0 w1 w2 w3 : Value, args = #[w0, w1, w2, w3] := by
    have hs : args.size = 4 := by simpa [Cond.value, given_1] using hcount
    obtain ⟨L⟩ := args
    match L, hs with
    | [w0, w1, w2, w3], _ => exact ⟨w0, w1, w2, w3, rfl⟩
  have hw := fun d (hd : d ∈ tables_1) => atoms_spec (ws := Jvm.Cond.code x code maxLocals ret :: tables_1) hat d (List.mem_cons_of_mem _ hd)
  have hfit : Fit s := fun {y c} hc i hi => by
    obtain ⟨ha, rfl⟩ := Array.getElem?_eq_some_iff.mp hc
    have q := List.all_eq_true.mp ((Array.all_eq_true_iff_forall_mem.mp hF) _ (Array.getElem_mem ha)) i (List.mem_range.mpr hi)
    simpa [Array.getElem?_eq_getElem hi] using q
  obtain ⟨i0, e0⟩ := is_v q0
  obtain rfl : w0 = (.int i0) := Option.some.inj e0
  obtain ⟨i1, e1⟩ := is_v q1
  obtain rfl : w1 = (.int i1) := Option.some.inj e1
  obtain ⟨i2, e2⟩ := is_v q2
  obtain rfl : w2 = (.int i2) := Option.some.inj e2
  obtain ⟨i3, e3⟩ := is_v q3
  obtain rfl : w3 = (.int i3) := Option.some.inj e3
  obtain ⟨n, o, h1, h2, h3, v, L, rfl, ⟨N, hQ⟩, hq⟩ := rm0 (l := l) hw s.heap.size i0 i1 i2 i3 s.heap (Nat.le_refl _) p e ha hc hk s m _ below hf ((Spec.applies_iff_loose hf).mp happ).1 ⟨rfl, State.Warmed39.refl s, rfl⟩ trivial
  obtain rfl : v = some (.int 1) := hQ
  refine ⟨n, _, h1, h2, h3, hpost _ _ _ _ _ _ ⟨Cond.after_iff.mpr rfl, Cond.after_iff.mpr (eq_i res_at (Term.int_eval (1)) rfl), trivial⟩ ⟨hq.1, hq.2.1, (hq.2.2.sift fun y hy => Or.inr (N y hy)).mono (by decide) (by decide)⟩⟩
theorem main_1_1 : Claimed_1_1 := comes_1 fun _ _ _ _ _ _ h hF => ⟨h.1, hF⟩
theorem main_1_2 : Claimed_1_2 := comes_1 fun _ _ _ _ _ _ h hF => ⟨h.2.1, hF⟩
end Jvm.Pilot.@@N@@
namespace Jvm.Pilot.@@N@@
open Jvm Jvm.ClassFile Sem Op Lib Jvm.Free Jvm.Stand Jvm.Pilot.@@N@@.Jvm.D
/-! MADE BY PROGRAM (witnessworld.py) out of the Statement's table words and the real class files: 12 classes; the members and pool entries that the words name. The judged class is class 1, her method 1. -/
namespace start1
open Jvm.ClassFile
def u (s : String) : CpInfo := .utf8 (stringToUtf16 s)
/-- a pool by its gaps: so many unusable entries, then the entry; so many at the end -/
def gap : Nat → List CpInfo → List CpInfo
  | 0, r => r
  | n + 1, r => .unusable :: gap n r
def poolList (es : List (Nat × CpInfo)) (last : Nat) : List CpInfo := es.foldr (fun e r => gap e.1 (e.2 :: r)) (gap last [])
def pool (es : List (Nat × CpInfo)) (last : Nat) : Array CpInfo := ⟨poolList es last⟩
def fileOf (pool : Array CpInfo) (this : Nat) (attrs : Array Attribute := #[]) (ms : Array MethodInfo := #[]) (fl : Nat := 33) (sup : Nat := 0) (ifs : Array Nat := #[]) (fds : Array FieldInfo := #[]) : ClassFile where
  minorVersion := 0
  majorVersion := 65
  constantPool := pool
  accessFlags := fl
  thisClass := this
  superClass := sup
  interfaces := ifs
  fields := fds
  methods := ms
  attributes := attrs
def plain (name : String) (sup : Option ClassId) : Class where
  name := name
  kind := .ordinary
  loader := none
  accessFlags := 33
  super := sup
  interfaces := #[]
  cf := none
  fields := #[]
  methods := #[]
  instanceTypes := #[]
  staticTypes := #[]
  resolved := #[]
  callSites := []
  init := .initialized
  statics := none
  mirror := none

def pool0 : Array CpInfo := pool [(5, u "<init>"), (0, u "()V"), (1, .class_ 10), (1, u "java/lang/Object")] 113

def k0c0 : Code := { maxStack := 0, maxLocals := 1, code := object_method_1_code, exceptionTable := #[], attributes := #[] }
def k0m0 : Method := { name := "<init>", desc := "()V", sig := { parameters := [], returnType := none }, accessFlags := 1, code := some k0c0 }
/-- java/lang/Object -/
def k0 : Class := { plain "java/lang/Object" none with
  accessFlags := 33
  interfaces := #[]
  cf := some (fileOf pool0 8 #[] #[{ accessFlags := 1, nameIndex := 5, descriptorIndex := 6, attributes := #[] }] 33 0 #[] #[])
  fields := #[]
  methods := #[k0m0]
  instanceTypes := #[]
  staticTypes := #[]
  resolved := Array.replicate 124 none
  statics := none }

def pool1 : Array CpInfo := pool [(2, .class_ 4), (1, u "java/lang/Object"), (0, u "<init>"), (0, u "()V"), (0, .integer 1073741823), (0, .class_ 9), (0, u "com/example/ithaca/ithaca/index/Postings"), (0, .methodref 8 11), (0, .nameAndType 5 12), (0, u "([I[I)V"), (0, .class_ 14), (0, u "com/example/ithaca/ithaca/index/Positions"), (0, .methodref 13 16), (0, .nameAndType 5 17), (0, u "(Lcom/example/ithaca/ithaca/index/Postings;[I)V"), (0, .integer 2147483647), (0, .methodref 13 20), (0, .nameAndType 21 22), (0, u "position"), (0, u "(II)I"), (0, .class_ 24), (0, u "com/example/ithaca/ithaca/index/PositionsPositionPinLaw"), (2, u "law"), (0, u "(IIII)Z")] 5

def k1m0 : Method := { name := "<init>", desc := "()V", sig := { parameters := [], returnType := none }, accessFlags := 1, code := none }
def k1c1 : Code := { maxStack := 5, maxLocals := 18, code := code, exceptionTable := #[], attributes := #[] }
def k1m1 : Method := { name := "law", desc := "(IIII)Z", sig := { parameters := [.int, .int, .int, .int], returnType := some .boolean }, accessFlags := 9, code := some k1c1 }
/-- com/example/ithaca/ithaca/index/PositionsPositionPinLaw -/
def k1 : Class := { plain "com/example/ithaca/ithaca/index/PositionsPositionPinLaw" (some 0) with
  accessFlags := 49
  interfaces := #[]
  cf := some (fileOf pool1 23 #[] #[{ accessFlags := 1, nameIndex := 5, descriptorIndex := 6, attributes := #[] }, { accessFlags := 9, nameIndex := 27, descriptorIndex := 28, attributes := #[] }] 49 2 #[] #[])
  fields := #[]
  methods := #[k1m0, k1m1]
  instanceTypes := #[]
  staticTypes := #[]
  resolved := Array.replicate 34 none
  statics := none }

def pool2 : Array CpInfo := pool [(1, .methodref 2 3), (0, .class_ 4), (0, .nameAndType 5 6), (0, u "java/lang/Object"), (0, u "<init>"), (0, u "()V"), (0, .fieldref 8 9), (0, .class_ 10), (0, .nameAndType 11 12), (0, u "com/example/ithaca/ithaca/index/Postings"), (0, u "documents"), (0, u "[I"), (0, .fieldref 8 14), (0, .nameAndType 15 12), (0, u "frequencies"), (0, u "([I[I)V"), (2, u "size"), (0, u "()I"), (1, u "(I)I"), (0, u "frequency")] 2

def k2c0 : Code := { maxStack := 2, maxLocals := 3, code := prog_59_method_1_code, exceptionTable := #[], attributes := #[] }
def k2m0 : Method := { name := "<init>", desc := "([I[I)V", sig := { parameters := [(.array .int), (.array .int)], returnType := none }, accessFlags := 0, code := some k2c0 }
def k2c1 : Code := { maxStack := 1, maxLocals := 1, code := prog_59_method_2_code, exceptionTable := #[], attributes := #[] }
def k2m1 : Method := { name := "size", desc := "()I", sig := { parameters := [], returnType := some .int }, accessFlags := 1, code := some k2c1 }
def k2c2 : Code := { maxStack := 2, maxLocals := 2, code := prog_59_method_4_code, exceptionTable := #[], attributes := #[] }
def k2m2 : Method := { name := "frequency", desc := "(I)I", sig := { parameters := [.int], returnType := some .int }, accessFlags := 1, code := some k2c2 }
/-- com/example/ithaca/ithaca/index/Postings -/
def k2 : Class := { plain "com/example/ithaca/ithaca/index/Postings" (some 0) with
  accessFlags := 49
  interfaces := #[]
  cf := some (fileOf pool2 8 #[] #[{ accessFlags := 0, nameIndex := 5, descriptorIndex := 16, attributes := #[] }, { accessFlags := 1, nameIndex := 19, descriptorIndex := 20, attributes := #[] }, { accessFlags := 1, nameIndex := 23, descriptorIndex := 22, attributes := #[] }] 49 2 #[] #[{ accessFlags := 18, nameIndex := 11, descriptorIndex := 12, attributes := #[] }, { accessFlags := 18, nameIndex := 15, descriptorIndex := 12, attributes := #[] }])
  fields := #[{ name := "documents", type := (.array .int), accessFlags := 18, slot := 0, constantValue := 0 }, { name := "frequencies", type := (.array .int), accessFlags := 18, slot := 1, constantValue := 0 }]
  methods := #[k2m0, k2m1, k2m2]
  instanceTypes := #[(.array .int), (.array .int)]
  staticTypes := #[]
  resolved := Array.replicate 26 none
  statics := none }

def pool3 : Array CpInfo := pool [(3, .methodref 4 5), (0, .class_ 6), (0, .nameAndType 7 8), (0, u "java/lang/Object"), (0, u "<init>"), (0, u "()V"), (0, .fieldref 10 11), (0, .class_ 12), (0, .nameAndType 13 14), (0, u "com/example/ithaca/ithaca/index/Positions"), (0, u "postings"), (0, u "Lcom/example/ithaca/ithaca/index/Postings;"), (0, .fieldref 10 16), (0, .nameAndType 17 18), (0, u "positions"), (0, u "[I"), (0, .methodref 20 21), (0, .class_ 22), (0, .nameAndType 23 24), (0, u "com/example/ithaca/ithaca/index/Postings"), (0, u "size"), (0, u "()I"), (0, .fieldref 10 26), (0, .nameAndType 27 18), (0, u "starts"), (0, .methodref 20 29), (0, .nameAndType 30 31), (0, u "frequency"), (0, u "(I)I"), (0, .methodref 33 34), (0, .class_ 35), (0, .nameAndType 36 37), (0, u "java/util/Objects"), (0, u "checkIndex"), (0, u "(II)I"), (0, u "MAX_COUNT"), (0, u "I"), (2, u "(Lcom/example/ithaca/ithaca/index/Postings;[I)V"), (5, u "position")] 2

def k3c0 : Code := { maxStack := 5, maxLocals := 4, code := prog_57_method_1_code, exceptionTable := #[], attributes := #[] }
def k3m0 : Method := { name := "<init>", desc := "(Lcom/example/ithaca/ithaca/index/Postings;[I)V", sig := { parameters := [(.object "com/example/ithaca/ithaca/index/Postings"), (.array .int)], returnType := none }, accessFlags := 0, code := some k3c0 }
def k3c1 : Code := { maxStack := 3, maxLocals := 3, code := prog_57_method_3_code, exceptionTable := #[], attributes := #[] }
def k3m1 : Method := { name := "position", desc := "(II)I", sig := { parameters := [.int, .int], returnType := some .int }, accessFlags := 1, code := some k3c1 }
/-- com/example/ithaca/ithaca/index/Positions -/
def k3 : Class := { plain "com/example/ithaca/ithaca/index/Positions" (some 0) with
  accessFlags := 49
  interfaces := #[]
  cf := some (fileOf pool3 10 #[] #[{ accessFlags := 0, nameIndex := 7, descriptorIndex := 42, attributes := #[] }, { accessFlags := 1, nameIndex := 48, descriptorIndex := 37, attributes := #[] }] 49 4 #[] #[{ accessFlags := 24, nameIndex := 38, descriptorIndex := 39, attributes := #[] }, { accessFlags := 18, nameIndex := 13, descriptorIndex := 14, attributes := #[] }, { accessFlags := 18, nameIndex := 27, descriptorIndex := 18, attributes := #[] }, { accessFlags := 18, nameIndex := 17, descriptorIndex := 18, attributes := #[] }])
  fields := #[{ name := "MAX_COUNT", type := .int, accessFlags := 24, slot := 0, constantValue := 0 }, { name := "postings", type := (.object "com/example/ithaca/ithaca/index/Postings"), accessFlags := 18, slot := 0, constantValue := 0 }, { name := "starts", type := (.array .int), accessFlags := 18, slot := 1, constantValue := 0 }, { name := "positions", type := (.array .int), accessFlags := 18, slot := 2, constantValue := 0 }]
  methods := #[k3m0, k3m1]
  instanceTypes := #[(.object "com/example/ithaca/ithaca/index/Postings"), (.array .int), (.array .int)]
  staticTypes := #[.int]
  resolved := Array.replicate 51 none
  statics := none }

def pool4 : Array CpInfo := pool [(2, .class_ 4), (1, u "java/lang/Object"), (0, u "<init>"), (0, u "()V"), (35, .class_ 44), (1, u "java/util/Objects"), (60, .methodref 106 107), (0, .class_ 108), (0, .nameAndType 109 110), (0, u "jdk/internal/util/Preconditions"), (0, u "checkIndex"), (0, u "(IILjava/util/function/BiFunction;)I"), (60, u "(II)I")] 12

def k4m0 : Method := { name := "<init>", desc := "()V", sig := { parameters := [], returnType := none }, accessFlags := 2, code := none }
def k4c1 : Code := { maxStack := 3, maxLocals := 2, code := jdk_31_method_17_code, exceptionTable := #[], attributes := #[] }
def k4m1 : Method := { name := "checkIndex", desc := "(II)I", sig := { parameters := [.int, .int], returnType := some .int }, accessFlags := 9, code := some k4c1 }
/-- java/util/Objects -/
def k4 : Class := { plain "java/util/Objects" (some 0) with
  accessFlags := 49
  interfaces := #[]
  cf := some (fileOf pool4 42 #[] #[{ accessFlags := 2, nameIndex := 5, descriptorIndex := 6, attributes := #[] }, { accessFlags := 9, nameIndex := 109, descriptorIndex := 171, attributes := #[] }] 49 2 #[] #[])
  fields := #[]
  methods := #[k4m0, k4m1]
  instanceTypes := #[]
  staticTypes := #[]
  resolved := Array.replicate 184 none
  statics := none }

def pool5 : Array CpInfo := pool [(2, .class_ 4), (1, u "java/lang/Object"), (0, u "<init>"), (0, u "()V"), (17, .class_ 26), (1, u "jdk/internal/util/Preconditions"), (6, u "checkIndex"), (21, .class_ 56), (0, u "jdk/internal/util/Preconditions$4"), (57, .class_ 115), (0, u "jdk/internal/util/Preconditions$1"), (7, u "SIOOBE_FORMATTER"), (0, u "Ljava/util/function/BiFunction;"), (0, .class_ 126), (0, u "jdk/internal/util/Preconditions$2"), (3, u "AIOOBE_FORMATTER"), (0, .class_ 132), (0, u "jdk/internal/util/Preconditions$3"), (3, u "IOOBE_FORMATTER"), (41, u "(IILjava/util/function/BiFunction;)I")] 15

def k5m0 : Method := { name := "<init>", desc := "()V", sig := { parameters := [], returnType := none }, accessFlags := 1, code := none }
def k5c1 : Code := { maxStack := 3, maxLocals := 3, code := jdk_41_method_11_code, exceptionTable := #[], attributes := #[] }
def k5m1 : Method := { name := "checkIndex", desc := "(IILjava/util/function/BiFunction;)I", sig := { parameters := [.int, .int, (.object "java/util/function/BiFunction")], returnType := some .int }, accessFlags := 9, code := some k5c1 }
/-- jdk/internal/util/Preconditions -/
def k5 : Class := { plain "jdk/internal/util/Preconditions" (some 0) with
  accessFlags := 33
  interfaces := #[]
  cf := some (fileOf pool5 24 #[.nestMembers #[55, 131, 125, 114]] #[{ accessFlags := 1, nameIndex := 5, descriptorIndex := 6, attributes := #[] }, { accessFlags := 9, nameIndex := 33, descriptorIndex := 178, attributes := #[] }] 33 2 #[] #[{ accessFlags := 25, nameIndex := 123, descriptorIndex := 124, attributes := #[] }, { accessFlags := 25, nameIndex := 130, descriptorIndex := 124, attributes := #[] }, { accessFlags := 25, nameIndex := 136, descriptorIndex := 124, attributes := #[] }])
  fields := #[{ name := "SIOOBE_FORMATTER", type := (.object "java/util/function/BiFunction"), accessFlags := 25, slot := 0, constantValue := 0 }, { name := "AIOOBE_FORMATTER", type := (.object "java/util/function/BiFunction"), accessFlags := 25, slot := 1, constantValue := 0 }, { name := "IOOBE_FORMATTER", type := (.object "java/util/function/BiFunction"), accessFlags := 25, slot := 2, constantValue := 0 }]
  methods := #[k5m0, k5m1]
  instanceTypes := #[]
  staticTypes := #[(.object "java/util/function/BiFunction"), (.object "java/util/function/BiFunction"), (.object "java/util/function/BiFunction")]
  resolved := Array.replicate 194 none
  statics := none }

def pool6 : Array CpInfo := pool [(1, u "java/lang/Cloneable"), (0, .class_ 1), (0, u "java/lang/Object"), (0, .class_ 3)] 3

/-- java/lang/Cloneable -/
def k6 : Class := { plain "java/lang/Cloneable" (some 0) with
  accessFlags := 1537
  interfaces := #[]
  cf := some (fileOf pool6 2 #[] #[] 1537 4 #[] #[])
  fields := #[]
  methods := #[]
  instanceTypes := #[]
  staticTypes := #[]
  resolved := Array.replicate 8 none
  statics := none }

def pool7 : Array CpInfo := pool [(1, u "java/io/Serializable"), (0, .class_ 1), (0, u "java/lang/Object"), (0, .class_ 3)] 3

/-- java/io/Serializable -/
def k7 : Class := { plain "java/io/Serializable" (some 0) with
  accessFlags := 1537
  interfaces := #[]
  cf := some (fileOf pool7 2 #[] #[] 1537 4 #[] #[])
  fields := #[]
  methods := #[]
  instanceTypes := #[]
  staticTypes := #[]
  resolved := Array.replicate 8 none
  statics := none }

/-- the primitive byte -/
def k8 : Class := { plain "byte" none with kind := .primitive 'B', accessFlags := 0x411 }
/-- [B -/
def k9 : Class := { plain "[B" (some 0) with kind := .array 8 .byte, interfaces := #[6, 7], accessFlags := 1041 }

/-- the primitive int -/
def k10 : Class := { plain "int" none with kind := .primitive 'I', accessFlags := 0x411 }
/-- [I -/
def k11 : Class := { plain "[I" (some 0) with kind := .array 10 .int, interfaces := #[6, 7], accessFlags := 1041 }

def heap : Heap := #[]
def classes : Array Class := #[k0, k1, k2, k3, k4, k5, k6, k7, k8, k9, k10, k11]
def interned : List (Array UInt16 × Addr) := []
def slotsUsed : Nat := 0
def theMethod : MethodId := ⟨1, 1⟩
def args0 : Array Value := #[.int 5, .int 6, .int 1, .int 3]
def aboutOver (below : List Frame) : State where
  vm := { classes := classes, interned := interned.toArray }
  heap := heap
  slotsUsed := slotsUsed
  threads := #[{ frames := .invoking theMethod args0 :: below }]
def below0 : List Frame := [.native { method := ⟨0, 0⟩, args := #[] }]
def about1 : State := aboutOver below0
def p0 : Program := .bare "" "" ""
def e0 : Env := launch0.env 0 0 0
theorem w_frames : about1.frames = Frame.invoking theMethod args0 :: below0 := rfl
set_option maxRecDepth 65536 in
theorem w_args : argsFit about1.vm theMethod args0 = true := by decide +kernel
set_option maxRecDepth 65536 in
theorem w_heap : heapFits about1 = true := by decide +kernel
set_option maxRecDepth 65536 in
theorem w_runnable : about1.curStatus? = some .runnable := by decide +kernel
set_option maxRecDepth 65536 in
theorem w_alone : about1.alone = true := by decide +kernel
set_option maxRecDepth 65536 in
theorem w_named : about1.methodNamed? x = some theMethod := by decide +kernel
set_option maxRecDepth 65536 in
theorem w_hears : about1.hears theMethod below0 = true := by decide +kernel
set_option maxRecDepth 65536 in
theorem w_ripe : about1.ripe theMethod args0 below0 = true := by decide +kernel
theorem w_running : about1.status = .running := rfl
set_option maxRecDepth 65536 in
theorem w_room : about1.hasRoom e0.platform room_1 = true :=
  launch0.hasRoom_least _ room_1 (by decide +kernel) (by decide +kernel) (by decide +kernel) (by decide +kernel) (by decide +kernel) (by decide +kernel)
theorem allAtoms_all (ts : List Jvm.Cond) (a : Array Jvm.Value) (st : Jvm.State) : (allAtoms ts).before a st = ts.all (fun c => c.before a st) := by
  induction ts with
  | nil => rfl
  | cons c t ih =>
    show (Jvm.Cond.and c (allAtoms t)).before a st = _
    rw [Jvm.Cond.before_and, ih, List.all_cons]
def words1 : List Jvm.Cond := Jvm.Cond.code x code maxLocals ret :: tables_1
/-- a 'code' word, met by the world's own term for the bytes: nothing is compared byte by byte -/
theorem code_word {y : MethodName} {bytes : ByteArray} {mx : Nat} {rt : Option FieldType} {a : Array Value} {s : State} {m : MethodId} {meth : Method} {c : Code} (h1 : s.methodNamed? y = some m) (h2 : s.vm.method? m = some meth) (h3 : meth.code = some c) (h4 : c.code = bytes)
    (h5 : (c.maxLocals == mx && c.exceptionTable.isEmpty && decide (c.maxStack ≤ mostOperands) && decide (meth.sig.returnType = rt) && !meth.locks && decide (parseMethodDescriptor y.desc = some meth.sig)) = true) : (Jvm.Cond.code y bytes mx rt).before a s = true := by
  simp only [Bool.and_eq_true, beq_iff_eq, Bool.not_eq_true', decide_eq_true_eq] at h5
  obtain ⟨⟨⟨⟨⟨g1, g2⟩, g3⟩, g4⟩, g5⟩, g6⟩ := h5
  simp [Cond.before, Cond.holds, Cond.value, h1, h2, h3, h4, g1, g2, g3, g4, g5, g6]
def isCode : Jvm.Cond → Bool
  | .code _ _ _ _ => true
  | _ => false
theorem all_split {L : List Jvm.Cond} {P : Jvm.Cond → Bool} (h1 : L.all (fun c => isCode c || P c) = true) (h2 : ∀ c ∈ L.filter isCode, P c = true) : L.all P = true := by
  refine List.all_eq_true.mpr fun c hc => ?_
  have h := List.all_eq_true.mp h1 c hc
  rcases Bool.eq_false_or_eq_true (isCode c) with hi | hi
  · exact h2 c (List.mem_filter.mpr ⟨hc, hi⟩)
  · simpa [hi] using h
set_option maxRecDepth 65536 in
theorem w_c0 : (Jvm.Cond.code x code maxLocals ret).before args0 about1 = true := code_word (m := ⟨1, 1⟩) (meth := k1m1) (c := k1c1) (by decide +kernel) rfl rfl rfl (by decide +kernel)
set_option maxRecDepth 65536 in
theorem w_c1 : (Jvm.Cond.code ({ cls := "com/example/ithaca/ithaca/index/Postings", name := "<init>", desc := "([I[I)V" } : Jvm.MethodName) prog_59_method_1_code (3 : Nat) (Option.none : Option Jvm.ClassFile.FieldType)).before args0 about1 = true := code_word (m := ⟨2, 0⟩) (meth := k2m0) (c := k2c0) (by decide +kernel) rfl rfl rfl (by decide +kernel)
set_option maxRecDepth 65536 in
theorem w_c2 : (Jvm.Cond.code ({ cls := "java/lang/Object", name := "<init>", desc := "()V" } : Jvm.MethodName) object_method_1_code (1 : Nat) (Option.none : Option Jvm.ClassFile.FieldType)).before args0 about1 = true := code_word (m := ⟨0, 0⟩) (meth := k0m0) (c := k0c0) (by decide +kernel) rfl rfl rfl (by decide +kernel)
set_option maxRecDepth 65536 in
theorem w_c3 : (Jvm.Cond.code ({ cls := "com/example/ithaca/ithaca/index/Positions", name := "<init>", desc := "(Lcom/example/ithaca/ithaca/index/Postings;[I)V" } : Jvm.MethodName) prog_57_method_1_code (4 : Nat) (Option.none : Option Jvm.ClassFile.FieldType)).before args0 about1 = true := code_word (m := ⟨3, 0⟩) (meth := k3m0) (c := k3c0) (by decide +kernel) rfl rfl rfl (by decide +kernel)
set_option maxRecDepth 65536 in
theorem w_c4 : (Jvm.Cond.code ({ cls := "com/example/ithaca/ithaca/index/Postings", name := "size", desc := "()I" } : Jvm.MethodName) prog_59_method_2_code (1 : Nat) (Option.some Jvm.ClassFile.FieldType.int)).before args0 about1 = true := code_word (m := ⟨2, 1⟩) (meth := k2m1) (c := k2c1) (by decide +kernel) rfl rfl rfl (by decide +kernel)
set_option maxRecDepth 65536 in
theorem w_c5 : (Jvm.Cond.code ({ cls := "com/example/ithaca/ithaca/index/Postings", name := "frequency", desc := "(I)I" } : Jvm.MethodName) prog_59_method_4_code (2 : Nat) (Option.some Jvm.ClassFile.FieldType.int)).before args0 about1 = true := code_word (m := ⟨2, 2⟩) (meth := k2m2) (c := k2c2) (by decide +kernel) rfl rfl rfl (by decide +kernel)
set_option maxRecDepth 65536 in
theorem w_c6 : (Jvm.Cond.code ({ cls := "com/example/ithaca/ithaca/index/Positions", name := "position", desc := "(II)I" } : Jvm.MethodName) prog_57_method_3_code (3 : Nat) (Option.some Jvm.ClassFile.FieldType.int)).before args0 about1 = true := code_word (m := ⟨3, 1⟩) (meth := k3m1) (c := k3c1) (by decide +kernel) rfl rfl rfl (by decide +kernel)
set_option maxRecDepth 65536 in
theorem w_c7 : (Jvm.Cond.code ({ cls := "java/util/Objects", name := "checkIndex", desc := "(II)I" } : Jvm.MethodName) jdk_31_method_17_code (2 : Nat) (Option.some Jvm.ClassFile.FieldType.int)).before args0 about1 = true := code_word (m := ⟨4, 1⟩) (meth := k4m1) (c := k4c1) (by decide +kernel) rfl rfl rfl (by decide +kernel)
set_option maxRecDepth 65536 in
theorem w_c8 : (Jvm.Cond.code ({ cls := "jdk/internal/util/Preconditions", name := "checkIndex", desc := "(IILjava/util/function/BiFunction;)I" } : Jvm.MethodName) jdk_41_method_11_code (3 : Nat) (Option.some Jvm.ClassFile.FieldType.int)).before args0 about1 = true := code_word (m := ⟨5, 1⟩) (meth := k5m1) (c := k5c1) (by decide +kernel) rfl rfl rfl (by decide +kernel)
def codes1 : List Jvm.Cond := [Jvm.Cond.code x code maxLocals ret, Jvm.Cond.code ({ cls := "com/example/ithaca/ithaca/index/Postings", name := "<init>", desc := "([I[I)V" } : Jvm.MethodName) prog_59_method_1_code (3 : Nat) (Option.none : Option Jvm.ClassFile.FieldType), Jvm.Cond.code ({ cls := "java/lang/Object", name := "<init>", desc := "()V" } : Jvm.MethodName) object_method_1_code (1 : Nat) (Option.none : Option Jvm.ClassFile.FieldType), Jvm.Cond.code ({ cls := "com/example/ithaca/ithaca/index/Positions", name := "<init>", desc := "(Lcom/example/ithaca/ithaca/index/Postings;[I)V" } : Jvm.MethodName) prog_57_method_1_code (4 : Nat) (Option.none : Option Jvm.ClassFile.FieldType), Jvm.Cond.code ({ cls := "com/example/ithaca/ithaca/index/Postings", name := "size", desc := "()I" } : Jvm.MethodName) prog_59_method_2_code (1 : Nat) (Option.some Jvm.ClassFile.FieldType.int), Jvm.Cond.code ({ cls := "com/example/ithaca/ithaca/index/Postings", name := "frequency", desc := "(I)I" } : Jvm.MethodName) prog_59_method_4_code (2 : Nat) (Option.some Jvm.ClassFile.FieldType.int), Jvm.Cond.code ({ cls := "com/example/ithaca/ithaca/index/Positions", name := "position", desc := "(II)I" } : Jvm.MethodName) prog_57_method_3_code (3 : Nat) (Option.some Jvm.ClassFile.FieldType.int), Jvm.Cond.code ({ cls := "java/util/Objects", name := "checkIndex", desc := "(II)I" } : Jvm.MethodName) jdk_31_method_17_code (2 : Nat) (Option.some Jvm.ClassFile.FieldType.int), Jvm.Cond.code ({ cls := "jdk/internal/util/Preconditions", name := "checkIndex", desc := "(IILjava/util/function/BiFunction;)I" } : Jvm.MethodName) jdk_41_method_11_code (3 : Nat) (Option.some Jvm.ClassFile.FieldType.int)]
set_option maxRecDepth 65536 in
theorem codes_eq : words1.filter isCode = codes1 := rfl
theorem w_codes : ∀ c ∈ words1.filter isCode, c.before args0 about1 = true := by
  rw [codes_eq]
  intro c hc
  simp only [codes1, List.mem_cons, List.not_mem_nil, or_false] at hc
  rcases hc with rfl | rfl | rfl | rfl | rfl | rfl | rfl | rfl | rfl
  · exact w_c0
  · exact w_c1
  · exact w_c2
  · exact w_c3
  · exact w_c4
  · exact w_c5
  · exact w_c6
  · exact w_c7
  · exact w_c8
set_option maxRecDepth 65536 in
theorem w_t1 : (words1.take 24).all (fun c => isCode c || c.before args0 about1) = true := by decide +kernel
set_option maxRecDepth 65536 in
theorem w_t2 : ((words1.drop 24).take 24).all (fun c => isCode c || c.before args0 about1) = true := by decide +kernel
set_option maxRecDepth 65536 in
theorem w_t3 : ((words1.drop 24).drop 24).all (fun c => isCode c || c.before args0 about1) = true := by decide +kernel
theorem w_tables : (allAtoms (Jvm.Cond.code x code maxLocals ret :: tables_1)).before args0 about1 = true := by
  rw [allAtoms_all]
  show words1.all (fun c => c.before args0 about1) = true
  refine all_split ?_ w_codes
  rw [← List.take_append_drop 24 words1, List.all_append, w_t1, ← List.take_append_drop 24 (words1.drop 24), List.all_append, w_t2, w_t3]
  rfl
set_option maxRecDepth 65536 in
theorem w_case : (Jvm.Cond.and given_1 narrow_1).before args0 about1 = true := by decide +kernel
theorem w_applies : (headSpec (Jvm.Cond.code x code maxLocals ret :: tables_1) room_1).applies x e0.platform about1 = true :=
  (Spec.applies_iff w_frames).mpr ⟨w_running, w_runnable, w_alone, w_named, w_hears, w_ripe, w_room, w_tables⟩
theorem atStart : AtStart classFile x code maxLocals ret World_1 tables_1 room_1 Calls_1 rest_1 Pre_1 launch0 p0 e0 about1 theMethod args0 below0 :=
  ⟨lists_1, trivial, launch0.admits_env _ _ _, launch0.least_env, fairChoices_fair.cas, fairChoices_fair.clock, w_frames, w_args, w_heap, w_applies, trivial, trivial, w_case⟩
end start1
theorem witness_1 : WitnessClaimed_1 := ⟨start1.p0, start1.e0, start1.about1, start1.theMethod, start1.args0, start1.below0, start1.atStart⟩
end Jvm.Pilot.@@N@@
